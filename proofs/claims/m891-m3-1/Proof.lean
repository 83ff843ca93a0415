import JvmDerived
import JvmDerived.Pilot.@@N@@Statement
import JvmDerived.Pilot.@@N@@Code
set_option linter.unusedVariables false
set_option linter.unusedSimpArgs false
namespace Jvm.Pilot.@@N@@
open Jvm Jvm.ClassFile Sem Op Lib Jvm.Free Jvm.Stand Jvm.LawKit Jvm.RoadKit Bundle Jvm.Pilot.@@N@@.Jvm.D
section OwnFace
variable {p : Program} {l : Launch} {e : Env} {R : Room} {s : State} {m : MethodId} {args : Array Value} {below : List Frame} {meth : Method} {c : Code} {T : State} {locs : List Loc} {cells slots : Nat}
/-- an interface's method that a superinterface declares, whatever its road of access: what the entry's word gives -/
theorem own_entry {cls : String} {x : MethodName} {index d cI : Nat} {ck ok : Class} {mt : Method} {mf : MethodId} (hd : s.vm.findClass cls = some d) (hc : s.vm.findClass x.cls = some cI) (hck : s.vm.classes[cI]? = some ck) (hvi : ck.isInterface = true)
    (hpoly : ∀ y, signaturePolymorphic ck y = false) (hnone : ck.findMethod x.name x.desc = none) (hf : s.methodFound? x.cls x.name x.desc = some mf) (hok : s.vm.classes[mf.cls]? = some ok) (hm : ok.methods[mf.idx]? = some mt) (hcl : x.name ≠ "clone")
    (h : (Cond.methodLink cls index x).before args s = true) (pl : Platform) (hpl : pl.magicAccessors = ({} : Platform).magicAccessors) : ∃ ci, s.vm.MethodLinksFF pl d index ci cI mf ∧ s.rightAt d index (.method mf) = true := by
  have hmt : s.vm.method? mf = some mt := by simp [Vm.method?, hok, hm]
  have h' := Cond.before_iff.mp h
  simp only [Cond.value, hd, hc, hf] at h'
  match hme : s.memberEntry? cls index with
  | none => rw [hme] at h'; cases h'
  | some (ci, via) =>
    match hlk : s.classLinks cls ci x.cls, hdk : s.vm.classes[d]? with
    | none, _ => simp [hme, hlk] at h'
    | some _, none => simp [hme, hlk, hdk] at h'
    | some lk, some dk =>
      simp only [hme, hlk, hdk, hck, hok, hmt, Option.bind_eq_bind, Option.bind_some, Option.pure_def, Option.some.injEq, Bool.and_eq_true, beq_iff_eq, Option.isNone_iff_eq_none] at h'
      obtain ⟨⟨⟨⟨⟨⟨⟨rfl, hnm⟩, hopen⟩, hv⟩, -⟩, -⟩, hld⟩, hac⟩ := h'
      obtain rfl : via = true := hv.symm.trans hvi
      obtain ⟨c', hc', hL⟩ := State.classLinks_spec hd hlk pl hpl
      obtain rfl : cI = c' := Option.some.inj (hc.symm.trans hc')
      obtain ⟨cp, hcp, hna⟩ := State.names_spec hnm
      obtain ⟨dk2, cf, hdk2, hcf, rfl⟩ := State.poolOf?_spec hd hcp
      obtain rfl : dk = dk2 := Option.some.inj (hdk.symm.trans hdk2)
      obtain ⟨cj, nt, hen, hnt, -⟩ := namesOf?_method hna
      have hpe : cf.constantPool[index]? = some (.interfaceMethodref ci nt) := by
        rcases hen with hen | hen <;> simp [State.memberEntry?, hcp, hen] at hme
        rw [hen, hme]
      obtain ⟨dk3, cf3, nm3, _, hdk3, hcf3, hld3, hnm3, _⟩ := hL.here
      obtain rfl : dk = dk3 := Option.some.inj (hdk.symm.trans hdk3)
      obtain rfl : cf = cf3 := Option.some.inj (hcf.symm.trans hcf3)
      have hne : ci ≠ index := fun q => by subst q; simp [ConstantPool.className?, hpe] at hnm3
      have hpn : s.vm.Plain mt.accessFlags mf.cls ok cI d dk := by
        rcases (Bool.or_eq_true _ _).mp hac with q | q
        · simpa [Vm.Plain, plainAccess, or_assoc, and_assoc] using q
        · simp [hcl] at q
      refine ⟨ci, ⟨dk, cf, nt, x.name, x.desc, ck, ok, mt, hdk, hcf, hpe, hnt, hL, hne, hck, hvi, hpoly, hnone, State.faceFind_of_found hc hck hvi hpoly hnone hf, hok, hm, hld3.trans hld.symm, hpn, State.openOr_spec hd hdk hopen⟩, ?_⟩
      simp [State.rightAt, hdk, hcf, hna, hf]
/-- the step: 'invokeinterface' of such a method -/
theorem own_face (X : Stand p l e R s m args below meth c T locs cells slots) (hexec : p.tables.exec = Jvm.exec) {own J : String} {index count : Nat} {x : MethodName} (hown : s.vm.findClass own = some m.cls) (hlink : (Cond.methodLink own index x).before args s = true)
    (hface : (Cond.interfaceMethod x.cls J x.name x.desc).before args s = true) (hdecl : (Cond.declares ⟨J, x.name, x.desc⟩).before args s = true) (hxo : x.cls ≠ J) (hcl : x.name ≠ "clone") (hx : x.cls ≠ "java/lang/invoke/MethodHandle" ∧ x.cls ≠ "java/lang/invoke/VarHandle")
    {a : Addr} {cell : Cell} {kcell : Class} {cI : ClassId} (hcI : s.vm.findClass x.cls = some cI) (hcell : T.heap[a]? = some cell) (hobj : ∀ q, cell.vm ≠ .statics q) (hkcell : s.vm.classes[cell.cls]? = some kcell) (hinst : s.vm.assignable cell.cls cI = true)
    {r0 m' : MethodId} {r meth' : Method} (hn : s.methodNamed? ⟨J, x.name, x.desc⟩ = some r0) (hrm : s.vm.method? r0 = some r) (hsel : selectMethod e.platform s.vm cell.cls r0 = .method m') (hm' : s.vm.method? m' = some meth')
    (hway : ((cell.cls :: s.vm.superclasses cell.cls).any fun k => (declaredIn s.vm r.name r.desc k).any fun (_, y) => y.isPrivate || y.isStatic) = false) (hpub : hasFlag meth'.accessFlags Acc.public_ = true) (habs : meth'.isAbstract = false)
    {g : JFrame} (hg : g.method = m) {argsL rest : List Value} (hlen : argsL.length = r.sig.parameters.length) (hstack : g.stack = argsL.reverse ++ .ref a :: rest) (hdg : decode c.code g.pc = .ok (.invokeinterface index count, 5)) :
    ∃ vm', Stand p l e R s m args below meth c (T.setVm vm') locs cells slots ∧ ∀ target, (∀ acts, Steps p.tables e below (doInvoke e ((T.setVm vm').setTop { g with stack := rest }) acts m' (.ref a :: argsL).toArray).1 target) → Steps p.tables e below (T.setTop g) target := by
  obtain ⟨q0, q1, q2, q3, hst, -⟩ := Cond.declares_spec hdecl
  obtain rfl : r0 = q0 := Option.some.inj (hn.symm.trans q2)
  obtain rfl : r = q1 := Option.some.inj (hrm.symm.trans q3)
  obtain ⟨ok, hok, hokn⟩ := className_of_methodNamed hn
  have hmo : ok.methods[r0.idx]? = some r := by simpa [Vm.method?, hok] using hrm
  obtain ⟨u1, kI, u2, u3, hkI, hiI, hfound, u4⟩ := Cond.interfaceMethod_spec hface
  obtain rfl : cI = u1 := Option.some.inj (hcI.symm.trans u3)
  obtain rfl : r0 = u2 := Option.some.inj (hn.symm.trans u4)
  obtain ⟨kI2, hkI2, hnI⟩ := Vm.findClass_spec hcI
  obtain rfl : kI = kI2 := Option.some.inj (hkI.symm.trans hkI2)
  have hpoly : ∀ y, signaturePolymorphic kI y = false := fun y => by simp [signaturePolymorphic, hnI, hx.1, hx.2]
  have hnone : kI.findMethod x.name x.desc = none := by
    match hj : kI.findMethod x.name x.desc with
    | none => rfl
    | some j =>
      have hlt := (Array.findIdx?_eq_some_iff_getElem.mp hj).1
      have q := State.methodFound?_declared hcI hkI hpoly hj (by simp [hlt])
      rw [hfound] at q
      have q' : r0.cls = cI := by rw [Option.some.inj q]
      rw [q', hkI] at hok
      exact absurd (by rw [← hnI, Option.some.inj hok, hokn]) hxo
  obtain ⟨ci, hl, hright⟩ := own_entry hown hcI hkI hiI hpoly hnone hfound hok hmo hcl hlink e.platform (by rw [X.admits.platform])
  have hE : s.MethodEntryUp e T.vm m.cls index cI r0 ci := State.methodEntryFF X.warmed hl hright
  obtain ⟨dk, cf, nt, _, _, ck, _, _, hd, hcf, hcp, -, -, -, hck, hvi, -⟩ := hl.here
  have al := hE.warmed.alike
  obtain ⟨dk2, hdk2, hres⟩ := hE.classReady
  obtain ⟨dk3, hdk3, hed⟩ := al.2.2 _ _ hd
  obtain rfl : dk2 = dk3 := Option.some.inj (hdk2.symm.trans hdk3)
  obtain ⟨ck2, hck2, hec⟩ := al.2.2 _ _ hck
  obtain ⟨kc2, hkc2, -⟩ := al.2.2 _ _ hkcell
  refine ⟨T.vm.calledUp m.cls ci index cI r0, X.noted hE.warmed, fun target hrest => ?_⟩
  subst hg
  have w1 : (T.setVm (T.vm.calledUp g.method.cls ci index cI r0)).vm.method? r0 = some r := (al.method? r0).trans hrm
  have w2 : (T.setVm (T.vm.calledUp g.method.cls ci index cI r0)).vm.method? m' = some meth' := (al.method? m').trans hm'
  have w3 : (T.setVm (T.vm.calledUp g.method.cls ci index cI r0)).vm.assignable cell.cls cI = true := by rw [← hinst]; exact al.assignable ..
  have w4 : selectMethod e.platform (T.setVm (T.vm.calledUp g.method.cls ci index cI r0)).vm cell.cls r0 = .method m' := by rw [← hsel]; exact al.selectMethod ..
  have w5 : ((cell.cls :: (T.setVm (T.vm.calledUp g.method.cls ci index cI r0)).vm.superclasses cell.cls).any fun k => (declaredIn (T.setVm (T.vm.calledUp g.method.cls ci index cI r0)).vm r.name r.desc k).any fun (_, y) => y.isPrivate || y.isStatic) = false := by
    show ((cell.cls :: (T.vm.calledUp g.method.cls ci index cI r0).superclasses cell.cls).any fun k => (declaredIn (T.vm.calledUp g.method.cls ci index cI r0) r.name r.desc k).any fun (_, y) => y.isPrivate || y.isStatic) = false
    simp only [al.superclasses, al.declaredIn]
    exact hway
  jvm_step X.here [hexec, hdg, invokeinterface.wp_coldFace (e := e) (s := T) (s₀ := s) (f := g) (count := count) X.here.top X.warmed hE hd hcf (Or.inr hcp) hck hvi,
    invokeinterface.wp_ready (e := e) (s := T.setVm (T.vm.calledUp g.method.cls ci index cI r0)) (f := g) (count := count) (r := r) (meth := meth') (m := m') (args := argsL) (rest := rest) (cell := cell) (kcell := kc2) (ck := dk2) (nk := ck2) (cf := cf) (ci := ci) (nt := nt) (named := cI) X.here.top hE.ready w1 hst hlen hstack hcell hobj hkc2 hdk2 (by rw [hed]; exact hcf) hcp hres hck2 (by rw [hec]; exact hvi) w3 w4 w2 (Or.inr (Or.inr w5)) (Or.inl hpub) habs]
  exact hrest
/-- the call by the contract of the body that the receiver's class selects -/
theorem own_backUp (X : Stand p l e R s m args below meth c T locs cells slots) (hexec : p.tables.exec = Jvm.exec) {own C J : String} {index count : Nat} {xi y : MethodName} (hxo : xi.cls ≠ J) (hcl : xi.name ≠ "clone")
    (hown : s.vm.findClass own = some m.cls) (hlink : (Cond.methodLink own index xi).before args s = true) (hdecl : (Cond.declares ⟨J, xi.name, xi.desc⟩).before args s = true) (hface : (Cond.interfaceMethod xi.cls J xi.name xi.desc).before args s = true)
    (hsel : (Cond.selects C xi y).before args s = true) (hinst : (Cond.instanceMethod y).before args s = true) (hpub : (Cond.publicMethod y).before args s = true) (hunh : (Cond.unhidden C xi.name xi.desc).before args s = true) (hcast : (Cond.castable C xi.cls).before args s = true)
    (hx : xi.cls ≠ "java/lang/invoke/MethodHandle" ∧ xi.cls ≠ "java/lang/invoke/VarHandle") {W : Nat} {Pre : Pt → Array Value → Prop} {Post : Pt → Array Value → Option Value → Pt → Prop} (hK : Back l R p e below s args y 5 W Pre Post)
    {b : Addr} {cB : ClassId} {kB : Class} (hcB : s.vm.findClass C = some cB) (hkB : s.vm.classes[cB]? = some kB) (hrecv : IsOf cB T b) {g : JFrame} (hg : g.method = m) (hsize : g.locals.size = c.maxLocals) {s₀ : State} (hcome : Steps p.tables e below s₀ (T.setTop g)) {argsL rest : List Value}
    (hlen : ∀ sig, parseMethodDescriptor xi.desc = some sig → argsL.length = sig.parameters.length) (hstack : g.stack = argsL.reverse ++ .ref b :: rest) (hW : 2 * g.monitorRoom + (rest.map fun v => v.category).sum ≤ W)
    (hdg : decode c.code g.pc = .ok (.invokeinterface index count, 5)) (hpre : ∀ vm₁, s.WarmedH vm₁ → Pre ⟨T.setVm vm₁, locs, cells, slots⟩ (.ref b :: argsL).toArray) :
    ∃ (v : Option Value) (vm₁ : Vm) (B : Pt), s.WarmedH vm₁ ∧ Stand p l e R s m args below meth c B.U B.locs B.cells B.slots ∧ Post ⟨T.setVm vm₁, locs, cells, slots⟩ (.ref b :: argsL).toArray v B ∧ Steps p.tables e below s₀ (B.U.setTop { g with pc := g.pc + 5, stack := v.toList ++ rest }) := by
  obtain ⟨cl, hcellT, hcls, hnst⟩ := hrecv
  obtain ⟨r0, r, hn, hrm, -, hsig⟩ := Cond.declares_spec hdecl
  obtain ⟨cI, kI, u, hcI, -, -, hfound, hu⟩ := Cond.interfaceMethod_spec hface
  obtain rfl : r0 = u := Option.some.inj (hn.symm.trans hu)
  obtain ⟨hrn, hrd⟩ := name_of_methodNamed hn hrm
  obtain ⟨mk, mM, hnM, hmM, -, haM⟩ := Cond.instanceMethod_spec hinst
  obtain ⟨v1, v2, v3, z1, z2, z3, z4, -⟩ := Cond.selects_spec hsel
  obtain rfl : cB = v1 := Option.some.inj (hcB.symm.trans z1)
  obtain rfl : r0 = v2 := Option.some.inj (hfound.symm.trans z2)
  obtain rfl : mk = v3 := Option.some.inj (hnM.symm.trans z3)
  obtain ⟨t1, t2, y1, y2, y3⟩ := Cond.castable_spec hcast
  obtain rfl : cB = t1 := Option.some.inj (hcB.symm.trans y1)
  obtain rfl : cI = t2 := Option.some.inj (hcI.symm.trans y2)
  subst hcls
  obtain ⟨vm₁, X₁, st⟩ := own_face X hexec (J := J) hown hlink hface hdecl hxo hcl hx (a := b) (cell := cl) (kcell := kB) hcI hcellT (fun q h => by rw [h] at hnst; cases hnst) hkB y3 hn hrm (by rw [Launch.admits_selectMethod X.admits]; exact z4) hmM (by rw [hrn, hrd]; exact Cond.unhidden_spec hcB hunh) (Cond.publicMethod_spec hnM hmM hpub) haM (g := g) hg (argsL := argsL) (rest := rest) (hlen _ hsig) hstack hdg
  obtain ⟨v, B, X', hp, hst⟩ := hK m meth c ⟨T.setVm vm₁, locs, cells, slots⟩ { g with stack := rest } (.invokeinterface index count) mk (.ref b :: argsL).toArray X₁ hg hsize hdg hW (X₁.named hnM) (hpre vm₁ X₁.warmed)
  exact ⟨v, vm₁, B, X₁.warmed, X', hp, (hcome.trans (st _ fun acts => by rw [doInvoke_state]; exact Steps.refl _)).trans hst⟩
/-- a private method is selected for itself -/
theorem own_sel {y z : MethodName} (hz : z.cls = y.cls) (w1 : (Cond.selects z.cls z z).before args s = true) (w2 : (Cond.privateMethod y).before args s = true) (w3 : (Cond.instanceMethod y).before args s = true) (hy : y.cls ≠ "java/lang/invoke/MethodHandle" ∧ y.cls ≠ "java/lang/invoke/VarHandle") : (Cond.selects y.cls y y).before args s = true := by
  obtain ⟨-, -, m2, -, -, q3, -, kP, hkP, hkPi⟩ := Cond.selects_spec w1
  exact selects_self_of_private (hz ▸ findClass_of_methodNamed q3) hkP hkPi (Cond.privateMethod_at w2) w3 hy
end OwnFace
def own_b (b : Bool) : Int32 := if b then 1 else 0
theorem own_narb (b : Bool) : nar .boolean (own_b b) = own_b b := by cases b <;> rfl
theorem own_num : ∀ n : Fin 9, Int32.ofNat n.1 + (1 : Int32) = Int32.ofNat (n.1 + 1) ∧ Int32.ofNat n.1 + (1 : Int32) < (17 : Int32) ∧ ¬ (0 : Int32) = Int32.ofNat n.1 + (1 : Int32) ∧ ¬ Int32.ofNat n.1 < 0 ∧ (Int32.ofNat n.1).toNatClampNeg = n.1 ∧ Int32.ofNat n.1 < (17 : Int32) ∧ Int32.ofNat (n.1 + 1) + (-1 : Int32) = Int32.ofNat n.1 ∧ ¬ Int32.ofNat (n.1 + 1) + (-1 : Int32) < 0 ∧ ¬ (0 : Int32) = Int32.ofNat (n.1 + 1) := by decide +kernel
def own_Fm (Z : State) (h : Heap) (n0 : Nat) : List (Addr × Bool × Bool) → Prop
  | [] => True
  | f :: r => (Exa Z h f.1 "com/example/gabarit/gabarit/shacl/DescriptionOrder$Frame" ∧ Fld Z h f.1 "com/example/gabarit/gabarit/shacl/DescriptionOrder$Frame" "list" "Z" (.int (own_b f.2.1)) ∧ Fld Z h f.1 "com/example/gabarit/gabarit/shacl/DescriptionOrder$Frame" "started" "Z" (.int (own_b f.2.2)) ∧ n0 ≤ f.1 ∧ ∀ x ∈ r, x.1 ≠ f.1) ∧ own_Fm Z h n0 r
theorem own_Fm_keep {Z : State} {h h' : Heap} {n0 : Nat} {ws : List Addr} (K : Keep h h' ws) : ∀ {fs : List (Addr × Bool × Bool)}, own_Fm Z h n0 fs → (∀ f ∈ fs, f.1 ∉ ws) → own_Fm Z h' n0 fs
  | [], _, _ => trivial
  | f :: r, F, q => ⟨⟨F.1.1.keep K, F.1.2.1.keep K (q f (List.mem_cons_self ..)), F.1.2.2.1.keep K (q f (List.mem_cons_self ..)), F.1.2.2.2.1, F.1.2.2.2.2⟩, own_Fm_keep K F.2 fun g hg => q g (List.mem_cons_of_mem _ hg)⟩
theorem own_Fm_lt {Z : State} {h : Heap} {n0 : Nat} : ∀ {fs : List (Addr × Bool × Bool)}, own_Fm Z h n0 fs → ∀ f ∈ fs, f.1 < h.size
  | [], _, _, q => nomatch q
  | f :: r, F, g, q => (List.mem_cons.mp q).elim (fun e => e ▸ F.1.1.lt) (own_Fm_lt F.2 g)
def own_DQ (Z : State) (h : Heap) (q el : Addr) (k : ClassId) (n0 : Nat) (as : List Addr) : Prop :=
  Exa Z h q "java/util/ArrayDeque" ∧ Fld Z h q "java/util/ArrayDeque" "elements" "[Ljava/lang/Object;" (.ref el) ∧ Fld Z h q "java/util/ArrayDeque" "head" "I" (.int 0) ∧ Fld Z h q "java/util/ArrayDeque" "tail" "I" (.int (Int32.ofNat as.length)) ∧ Arv Z h el k (.object "java/lang/Object") (17 : Int32) (as.reverse.map Value.ref) .null ∧ Ovr Z k "java/lang/Object" ∧ n0 ≤ q ∧ n0 ≤ el ∧ q ≠ el
theorem own_DQ_keep {Z : State} {h h' : Heap} {q el : Addr} {k : ClassId} {n0 : Nat} {as : List Addr} {ws : List Addr} (D : own_DQ Z h q el k n0 as) (K : Keep h h' ws) (q1 : q ∉ ws) (q2 : el ∉ ws) : own_DQ Z h' q el k n0 as :=
  ⟨D.1.keep K, D.2.1.keep K q1, D.2.2.1.keep K q1, D.2.2.2.1.keep K q1, D.2.2.2.2.1.keep K q2, D.2.2.2.2.2⟩
def own_DO (Z : State) (h : Heap) (o q el : Addr) (k : ClassId) (n0 : Nat) (fs : List (Addr × Bool × Bool)) (due : Bool) (cnt : Int32) : Prop :=
  Exa Z h o "com/example/gabarit/gabarit/shacl/DescriptionOrder" ∧ Fld Z h o "com/example/gabarit/gabarit/shacl/DescriptionOrder" "open" "Ljava/util/Deque;" (.ref q) ∧ Fld Z h o "com/example/gabarit/gabarit/shacl/DescriptionOrder" "valueDue" "Z" (.int (own_b due)) ∧ Fld Z h o "com/example/gabarit/gabarit/shacl/DescriptionOrder" "blankNodesOpen" "I" (.int cnt) ∧ n0 ≤ o ∧ own_DQ Z h q el k n0 (fs.map Prod.fst) ∧ own_Fm Z h n0 fs ∧ o ≠ q ∧ o ≠ el ∧ ∀ f ∈ fs, f.1 ≠ o ∧ f.1 ≠ q ∧ f.1 ≠ el
section OwnD
variable {Z : State} {h h' h1 h2 : Heap} {o q el b f : Addr} {k : ClassId} {n0 : Nat} {fs r : List (Addr × Bool × Bool)} {due l s : Bool} {cnt : Int32} {ws : List Addr} {a0 : Array Value}
theorem own_DO_keep (D : own_DO Z h o q el k n0 fs due cnt) (K : Keep h h' ws) (q0 : o ∉ ws) (q1 : q ∉ ws) (q2 : el ∉ ws) (q3 : ∀ f ∈ fs, f.1 ∉ ws) : own_DO Z h' o q el k n0 fs due cnt := by
  obtain ⟨E, Fo, Fv, Fc, g, DQ, Fm, n1, n2, n3⟩ := D
  exact ⟨E.keep K, Fo.keep K q0, Fv.keep K q0, Fc.keep K q0, g, own_DQ_keep DQ K q1 q2, own_Fm_keep K Fm q3, n1, n2, n3⟩
theorem own_DO_new (D : own_DO Z h o q el k n0 fs due cnt) (X : Ext h h1) (z : b = h.size) (K : Keep h1 h2 [b]) : own_DO Z h2 o q el k n0 fs due cnt ∧ b ≠ o ∧ b ≠ q ∧ b ≠ el ∧ ∀ f ∈ fs, f.1 ≠ b := by
  have D1 : own_DO Z h1 o q el k n0 fs due cnt := own_DO_keep D ((Keep.refl h []).ext X) nin0 nin0 nin0 (fun _ _ => nin0)
  have a1 : o ≠ b := Nat.ne_of_lt (z ▸ D.1.lt)
  have a2 : q ≠ b := Nat.ne_of_lt (z ▸ D.2.2.2.2.2.1.1.lt)
  have a3 : el ≠ b := Nat.ne_of_lt (z ▸ D.2.2.2.2.2.1.2.2.2.2.1.lt)
  have a4 : ∀ f ∈ fs, f.1 ≠ b := fun f hf => Nat.ne_of_lt (z ▸ own_Fm_lt D.2.2.2.2.2.2.1 f hf)
  exact ⟨own_DO_keep D1 K (ninS a1 nin0) (ninS a2 nin0) (ninS a3 nin0) (fun f hf => ninS (a4 f hf) nin0), a1.symm, a2.symm, a3.symm, a4⟩
theorem own_DO_push (D : own_DO Z h o q el k n0 fs due cnt) (K : Keep h h' [q, el]) (DQ : own_DQ Z h' q el k n0 (b :: fs.map Prod.fst)) (Eb : Exa Z h b "com/example/gabarit/gabarit/shacl/DescriptionOrder$Frame") (Fl : Fld Z h b "com/example/gabarit/gabarit/shacl/DescriptionOrder$Frame" "list" "Z" (.int (own_b l))) (Fs : Fld Z h b "com/example/gabarit/gabarit/shacl/DescriptionOrder$Frame" "started" "Z" (.int (own_b false))) (g : n0 ≤ b) (nb : b ≠ o ∧ b ≠ q ∧ b ≠ el ∧ ∀ f ∈ fs, f.1 ≠ b) : own_DO Z h' o q el k n0 ((b, l, false) :: fs) due cnt := by
  obtain ⟨E, Fo, Fv, Fc, go, -, Fm, n1, n2, n3⟩ := D
  have m0 : o ∉ [q, el] := ninS n1 (ninS n2 nin0)
  have mb : b ∉ [q, el] := ninS nb.2.1 (ninS nb.2.2.1 nin0)
  refine ⟨E.keep K, Fo.keep K m0, Fv.keep K m0, Fc.keep K m0, go, DQ, ⟨⟨Eb.keep K, Fl.keep K mb, Fs.keep K mb, g, nb.2.2.2⟩, own_Fm_keep K Fm fun f hf => ninS (n3 f hf).2.1 (ninS (n3 f hf).2.2 nin0)⟩, n1, n2, fun f hf => ?_⟩
  rcases List.mem_cons.mp hf with rfl | hf
  · exact ⟨nb.1, nb.2.1, nb.2.2.1⟩
  · exact n3 f hf
theorem own_DO_pop (D : own_DO Z h o q el k n0 ((f, l, s) :: r) due cnt) (K : Keep h h' [q, el]) (DQ : own_DQ Z h' q el k n0 (r.map Prod.fst)) : own_DO Z h' o q el k n0 r due cnt ∧ Fld Z h' f "com/example/gabarit/gabarit/shacl/DescriptionOrder$Frame" "started" "Z" (.int (own_b s)) ∧ f ≠ o := by
  obtain ⟨E, Fo, Fv, Fc, go, -, Fm, n1, n2, n3⟩ := D
  have m0 : o ∉ [q, el] := ninS n1 (ninS n2 nin0)
  have n4 : ∀ x ∈ r, x.1 ≠ o ∧ x.1 ≠ q ∧ x.1 ≠ el := fun x hx => n3 x (List.mem_cons_of_mem _ hx)
  have nf := n3 (f, l, s) (List.mem_cons_self ..)
  exact ⟨⟨E.keep K, Fo.keep K m0, Fv.keep K m0, Fc.keep K m0, go, DQ, own_Fm_keep K Fm.2 fun x hx => ninS (n4 x hx).2.1 (ninS (n4 x hx).2.2 nin0), n1, n2, n4⟩, Fm.1.2.2.1.keep K (ninS nf.2.1 (ninS nf.2.2 nin0)), nf.1⟩
theorem own_DO_cnt (hw : ∀ d ∈ tables_1, d.before a0 Z = true) (D : own_DO Z h o q el k n0 fs due cnt) {c' : Int32} (W : Wr h h' o (Jvm.RoadKit.slotOf Z "com/example/gabarit/gabarit/shacl/DescriptionOrder" "blankNodesOpen" "I") (.int c')) : own_DO Z h' o q el k n0 fs due c' := by
  obtain ⟨E, Fo, Fv, Fc, go, DQ, Fm, n1, n2, n3⟩ := D
  exact ⟨E.wr W, Fo.other W (Or.inr (slot_ne (Or.inr (hw _ (List.mem_of_getElem? (i := 27) rfl))) (Or.inl (hw _ (List.mem_of_getElem? (i := 68) rfl))) (by decide) (t := (.object "java/util/Deque")) (t' := .int) (by decide) (by decide))), Fv.other W (Or.inr (slot_ne (Or.inl (hw _ (List.mem_of_getElem? (i := 95) rfl))) (Or.inl (hw _ (List.mem_of_getElem? (i := 68) rfl))) (by decide) (t := .boolean) (t' := .int) (by decide) (by decide))), Fc.same W, go, own_DQ_keep DQ (Keep.of_wr W) (ninS n1.symm nin0) (ninS n2.symm nin0), own_Fm_keep (Keep.of_wr W) Fm fun x hx => ninS (n3 x hx).1 nin0, n1, n2, n3⟩
theorem own_DO_due (hw : ∀ d ∈ tables_1, d.before a0 Z = true) (D : own_DO Z h o q el k n0 fs due cnt) (d' : Bool) (W : Wr h h' o (Jvm.RoadKit.slotOf Z "com/example/gabarit/gabarit/shacl/DescriptionOrder" "valueDue" "Z") (.int (own_b d'))) : own_DO Z h' o q el k n0 fs d' cnt := by
  obtain ⟨E, Fo, Fv, Fc, go, DQ, Fm, n1, n2, n3⟩ := D
  exact ⟨E.wr W, Fo.other W (Or.inr (slot_ne (Or.inr (hw _ (List.mem_of_getElem? (i := 27) rfl))) (Or.inl (hw _ (List.mem_of_getElem? (i := 95) rfl))) (by decide) (t := (.object "java/util/Deque")) (t' := .boolean) (by decide) (by decide))), Fv.same W, Fc.other W (Or.inr (slot_ne (Or.inl (hw _ (List.mem_of_getElem? (i := 68) rfl))) (Or.inl (hw _ (List.mem_of_getElem? (i := 95) rfl))) (by decide) (t := .int) (t' := .boolean) (by decide) (by decide))), go, own_DQ_keep DQ (Keep.of_wr W) (ninS n1.symm nin0) (ninS n2.symm nin0), own_Fm_keep (Keep.of_wr W) Fm fun x hx => ninS (n3 x hx).1 nin0, n1, n2, n3⟩
theorem own_DO_sta (hw : ∀ d ∈ tables_1, d.before a0 Z = true) (D : own_DO Z h o q el k n0 ((f, l, s) :: r) due cnt) (s' : Bool) (W : Wr h h' f (Jvm.RoadKit.slotOf Z "com/example/gabarit/gabarit/shacl/DescriptionOrder$Frame" "started" "Z") (.int (own_b s'))) : own_DO Z h' o q el k n0 ((f, l, s') :: r) due cnt := by
  obtain ⟨E, Fo, Fv, Fc, go, DQ, ⟨⟨Ef, Fl, Fs, gf, nd⟩, Fm⟩, n1, n2, n3⟩ := D
  have nf := n3 (f, l, s) (List.mem_cons_self ..)
  have K := Keep.of_wr W
  refine ⟨E.wr W, Fo.other W (Or.inl nf.1.symm), Fv.other W (Or.inl nf.1.symm), Fc.other W (Or.inl nf.1.symm), go, own_DQ_keep DQ K (ninS nf.2.1.symm nin0) (ninS nf.2.2.symm nin0), ⟨⟨Ef.wr W, Fl.other W (Or.inr (slot_ne (Or.inr (hw _ (List.mem_of_getElem? (i := 54) rfl))) (Or.inl (hw _ (List.mem_of_getElem? (i := 97) rfl))) (by decide) (t := .boolean) (t' := .boolean) (by decide) (by decide))), Fs.same W, gf, nd⟩, own_Fm_keep K Fm fun x hx => ninS (nd x hx) nin0⟩, n1, n2, fun x hx => ?_⟩
  rcases List.mem_cons.mp hx with rfl | hx
  · exact nf
  · exact n3 x (List.mem_cons_of_mem _ hx)
end OwnD
theorem own_last (f : Addr) (r : List Addr) : ((f :: r).reverse.map Value.ref).getD r.length .null = .ref f := by
  simp [List.getD]
theorem own_pushL (f : Addr) (as : List Addr) : (as.reverse.map Value.ref ++ List.replicate 1 Value.null).set as.length (.ref f) = (f :: as).reverse.map Value.ref := by
  rw [List.set_append_right _ _ (by simp)]
  simp
theorem own_popL (f : Addr) (r : List Addr) : ((f :: r).reverse.map Value.ref).set r.length .null = r.reverse.map Value.ref ++ List.replicate 1 Value.null := by
  rw [List.reverse_cons, List.map_append, List.set_append_right _ _ (by simp)]
  simp
def own_emp (t : Int32) : Int32 := if (0 : Int32) = t then 1 else 0
theorem own_djdk_22_1_0 : decode jdk_22_method_1_code 0 = .ok (.aload_n 0, 1) := by decide +kernel
theorem own_djdk_22_1_1 : decode jdk_22_method_1_code 1 = .ok (.invokespecial 1, 3) := by decide +kernel
theorem own_djdk_22_1_4 : decode jdk_22_method_1_code 4 = .ok (.return_, 1) := by decide +kernel
theorem own_pn_java_util_AbstractCollection : plainName "java/util/AbstractCollection" = true := by first | (simp [plainName, overriddenIn]; done) | decide +kernel
theorem own_ef_ac (m : MethodId) (x0 : Addr) : entryFrame m #[(.ref x0)] 1 = mkF m 0 #[.val (.ref x0)] [] := by first | (simp [entryFrame, mkF, argsToLocals, Value.category]; done) | rfl
def Q_ac (Z : State) (a1 : Addr) (h0 : Heap) (n0 : Nat) (v : Option Value) (h : Heap) (L : List Loc) : Prop := v = none ∧ Fr n0 L ∧ h = h0
set_option maxRecDepth 65536 in
set_option maxHeartbeats 40000000 in
theorem rm_ac (l : Launch) (Z : State) (a0 : Array Value) (hw : ∀ d ∈ tables_1, d.before a0 Z = true) (ws : List Jvm.Cond) (a1 : Addr) (h0 : Heap) (n0 : Nat) (Z0 : n0 ≤ h0.size)  :
    MetFree l (⟨"java/util/AbstractCollection", "<init>", "()V"⟩ : MethodName) (head1 (Jvm.Cond.code (⟨"java/util/AbstractCollection", "<init>", "()V"⟩ : MethodName) jdk_22_method_1_code 1 none :: ws) ({ frames := 1, cells := 0, slots := 0, locals := 12 } : Room)) (fun a U => a = #[(.ref a1)] ∧ Z.Warmed39 U.vm ∧ U.heap = h0) (fun _ _ _ _ _ => True) (fun _ U o U' => ∃ v L, o = .returned v ∧ Q_ac Z a1 h0 n0 v U'.heap L ∧ FrameEnd U o U' L ({ frames := 1, cells := 0, slots := 0, locals := 12 } : Room).cells ({ frames := 1, cells := 0, slots := 0, locals := 12 } : Room).slots) := by
  refine MetFree.of_bodySF (plainFor_of_name own_pn_java_util_AbstractCollection) hisR ?_
  intro p e s m args below meth c s₁ Bd hml0 hP hK
  obtain ⟨rfl, hZ, hh⟩ := hP
  have hx := Bd.exec
  have hby := Bd.bytes
  have hml : c.maxLocals = 1 := hml0
  have hown : s.vm.findClass "java/util/AbstractCollection" = some m.cls := findClass_of_methodNamed Bd.named
  have hnm := (name_of_methodNamed Bd.named Bd.method).1
  have X0 : Stand p l e ({ frames := 1, cells := 0, slots := 0, locals := 12 } : Room) s m #[(.ref a1)] below meth c s₁ [] 0 0 := Stand.of_body Bd
  have e0 : s₁.heap = h0 := by rw [← hh, Bd.state]; rfl
  have N0 := Fr.nil n0
  have pre0 : ∀ t, Steps p.tables e below (s₁.setTop (mkF m 0 #[.val (.ref a1)] [])) t → Steps p.tables e below (s₁.setTop (entryFrame m #[(.ref a1)] 1)) t := fun t k => castTop (own_ef_ac m a1) k
  obtain ⟨T1, X1, e1, st1⟩ := initO X0 hx hZ hown (hw _ (List.mem_of_getElem? (i := 21) rfl)) (hw _ (List.mem_of_getElem? (i := 7) rfl)) (hw _ (List.mem_of_getElem? (i := 8) rfl)) e0 (g := (mkF m 1 #[.val (.ref a1)] [(.ref a1)])) rfl (by rw [hml]; rfl) rfl (hb hby own_djdk_22_1_1) (by decide) (W := 0) (by show 2 * 0 + _ ≤ _; exact Nat.le_of_eq rfl) (by decide)
  obtain ⟨fs, hr, hrun, hended, hW, hsame⟩ := X1.leave (v := none) (fun _ => rfl)
  refine ⟨_, _, pre0 _ ?_, hrun, hended, _, _, rfl, ?_, ⟨_, rfl⟩, hW, hsame.mono (by decide) (by decide)⟩
  · show Steps p.tables e below (s₁.setTop (mkF m 0 #[.val (.ref a1)] [])) _
    refine XS.aloadN X0.here hx rfl (hb hby own_djdk_22_1_0) rfl rfl ?_
    show Steps p.tables e below (s₁.setTop (mkF m 1 #[.val (.ref a1)] [(.ref a1)])) _
    refine st1 _ ?_
    show Steps p.tables e below (T1.setTop (mkF m 4 #[.val (.ref a1)] [])) _
    exact X1.returnOut hx Bd.returns (hb hby own_djdk_22_1_4) hr
  · show Q_ac Z a1 h0 n0 _ T1.heap _
    rw [e1]
    exact ⟨rfl, N0, rfl⟩
theorem own_djdk_21_3_0 : decode jdk_21_method_3_code 0 = .ok (.aload_n 0, 1) := by decide +kernel
theorem own_djdk_21_3_1 : decode jdk_21_method_3_code 1 = .ok (.invokespecial 42, 3) := by decide +kernel
theorem own_djdk_21_3_4 : decode jdk_21_method_3_code 4 = .ok (.aload_n 0, 1) := by decide +kernel
theorem own_djdk_21_3_5 : decode jdk_21_method_3_code 5 = .ok (.bipush 17, 2) := by decide +kernel
theorem own_djdk_21_3_7 : decode jdk_21_method_3_code 7 = .ok (.anewarray 47, 3) := by decide +kernel
theorem own_djdk_21_3_10 : decode jdk_21_method_3_code 10 = .ok (.putfield 3, 3) := by decide +kernel
theorem own_djdk_21_3_13 : decode jdk_21_method_3_code 13 = .ok (.return_, 1) := by decide +kernel
theorem own_pd0 : parseMethodDescriptor "()V" = some ⟨[], none⟩ := by decide +kernel
theorem own_pn_java_util_ArrayDeque : plainName "java/util/ArrayDeque" = true := by first | (simp [plainName, overriddenIn]; done) | decide +kernel
theorem own_ef_adi (m : MethodId) (x0 : Addr) : entryFrame m #[(.ref x0)] 1 = mkF m 0 #[.val (.ref x0)] [] := by first | (simp [entryFrame, mkF, argsToLocals, Value.category]; done) | rfl
def Q_adi (Z : State) (a1 : Addr) (u1 : Value) (h0 : Heap) (n0 : Nat) (v : Option Value) (h : Heap) (L : List Loc) : Prop := v = none ∧ Fr n0 L ∧ Keep h0 h [a1] ∧ ∃ (el : Addr) (k : ClassId), h0.size ≤ el ∧ own_DQ Z h a1 el k n0 []
set_option maxRecDepth 65536 in
set_option maxHeartbeats 40000000 in
theorem rm_adi (l : Launch) (Z : State) (a0 : Array Value) (hw : ∀ d ∈ tables_1, d.before a0 Z = true) (ws : List Jvm.Cond) (a1 : Addr) (u1 : Value) (h0 : Heap) (n0 : Nat) (Z0 : n0 ≤ h0.size) (E : Exa Z h0 a1 "java/util/ArrayDeque") (F1 : Fld Z h0 a1 "java/util/ArrayDeque" "elements" "[Ljava/lang/Object;" u1) (F2 : Fld Z h0 a1 "java/util/ArrayDeque" "head" "I" (.int 0)) (F3 : Fld Z h0 a1 "java/util/ArrayDeque" "tail" "I" (.int 0)) (g : n0 ≤ a1) :
    MetFree l (⟨"java/util/ArrayDeque", "<init>", "()V"⟩ : MethodName) (head1 (Jvm.Cond.code (⟨"java/util/ArrayDeque", "<init>", "()V"⟩ : MethodName) jdk_21_method_3_code 1 none :: ws) ({ frames := 2, cells := 1, slots := 17, locals := 24 } : Room)) (fun a U => a = #[(.ref a1)] ∧ Z.Warmed39 U.vm ∧ U.heap = h0) (fun _ _ _ _ _ => True) (fun _ U o U' => ∃ v L, o = .returned v ∧ Q_adi Z a1 u1 h0 n0 v U'.heap L ∧ FrameEnd U o U' L ({ frames := 2, cells := 1, slots := 17, locals := 24 } : Room).cells ({ frames := 2, cells := 1, slots := 17, locals := 24 } : Room).slots) := by
  refine MetFree.of_bodySF (plainFor_of_name own_pn_java_util_ArrayDeque) hisR ?_
  intro p e s m args below meth c s₁ Bd hml0 hP hK
  obtain ⟨rfl, hZ, hh⟩ := hP
  have hx := Bd.exec
  have hby := Bd.bytes
  have hml : c.maxLocals = 1 := hml0
  have hown : s.vm.findClass "java/util/ArrayDeque" = some m.cls := findClass_of_methodNamed Bd.named
  have hnm := (name_of_methodNamed Bd.named Bd.method).1
  have X0 : Stand p l e ({ frames := 2, cells := 1, slots := 17, locals := 24 } : Room) s m #[(.ref a1)] below meth c s₁ [] 0 0 := Stand.of_body Bd
  have e0 : s₁.heap = h0 := by rw [← hh, Bd.state]; rfl
  have N0 := Fr.nil n0
  have pre0 : ∀ t, Steps p.tables e below (s₁.setTop (mkF m 0 #[.val (.ref a1)] [])) t → Steps p.tables e below (s₁.setTop (entryFrame m #[(.ref a1)] 1)) t := fun t k => castTop (own_ef_adi m a1) k
  obtain ⟨_, _, ⟨T1, L1, k1, n1⟩, -, X1, ⟨Lc1, hQ1, l1, y1, z1⟩, st1⟩ := X0.specialBack hx (y := (⟨"java/util/AbstractCollection", "<init>", "()V"⟩ : MethodName)) rfl hown (mvT hZ (hw _ (List.mem_of_getElem? (i := 15) rfl))) (mvT hZ (hw _ (List.mem_of_getElem? (i := 16) rfl))) (mvT hZ (hw _ (List.mem_of_getElem? (i := 20) rfl))) (by decide) (backOf (W := 0) (rm_ac l Z a0 hw [] a1 h0 n0 Z0) hZ (hw _ (List.mem_of_getElem? (i := 20) rfl)) (hw _ (List.mem_of_getElem? (i := 19) rfl)) (by decide) (by decide)) (g := (mkF m 1 #[.val (.ref a1)] [(.ref a1)])) rfl (by rw [hml]; rfl) (Steps.refl _) (a := a1) (argsL := []) (rest := []) (lenOf own_pd0 rfl) rfl (by show 2 * 0 + _ ≤ _; exact Nat.le_of_eq rfl) (hb hby own_djdk_21_3_1) (fun _ _ => ⟨rfl, e0, (by decide : 0 + 0 ≤ _), (by decide : 0 + 0 ≤ _)⟩)
  dsimp only [Pt.U, Pt.locs, Pt.cells, Pt.slots] at X1 l1 y1 z1 st1 hQ1
  rw [l1, y1, z1] at X1
  obtain ⟨rfl, Nq1, e1⟩ := hQ1
  have N1 := Fr.app N0 Nq1
  obtain ⟨T2, h2, k2, X2, e2, E2, A2, O2, st2⟩ := newR X1 hx hZ hown (hw _ (List.mem_of_getElem? (i := 22) rfl)) (hw _ (List.mem_of_getElem? (i := 23) rfl)) e1 (g := (mkF m 7 #[.val (.ref a1)] [(.int (17 : Int32)), (.ref a1)])) rfl (hb hby own_djdk_21_3_7) rfl (by decide) (cap := 17) (by decide) (by decide) (by decide) (by decide)
  obtain ⟨b, g2⟩ : ∃ z, z = h0.size := ⟨_, rfl⟩
  rw [← g2] at A2 st2
  have gn_b : n0 ≤ b := Nat.le_trans Z0 (Nat.le_of_eq g2.symm)
  have sz2 : n0 ≤ h2.size := Nat.le_trans Z0 E2.1
  have Xe1 := E2
  have ze1 := g2
  have V1 := Arv.new A2 (by decide)
  have O1 := O2
  have hab : a1 ≠ b := Nat.ne_of_lt (Nat.lt_of_lt_of_le E.lt (Nat.le_of_eq ze1.symm))
  obtain ⟨T3, h3, X3, e3, W3, st3⟩ := putF X2 hx hZ hown (host := "") (Or.inl (hw _ (List.mem_of_getElem? (i := 24) rfl))) Via.refl e2 (F1.ext Xe1) (E.ext Xe1) (Or.inl (hw _ (List.mem_of_getElem? (i := 25) rfl))) (hw _ (List.mem_of_getElem? (i := 10) rfl)) (ty := (.array (.object "java/lang/Object"))) (by decide) rfl rfl (g := (mkF m 10 #[.val (.ref a1)] [(.ref b), (.ref a1)])) rfl rfl (hb hby own_djdk_21_3_10)
  have N3 := Fr.snoc X3 N1 g
  have sz3 : n0 ≤ h3.size := Nat.le_trans sz2 (Keep.of_wr W3).1
  have F1a := (F1.ext Xe1).same W3
  have F2a := ((F2.ext Xe1).other W3 (Or.inr (slot_ne (Or.inl (hw _ (List.mem_of_getElem? (i := 43) rfl))) (Or.inl (hw _ (List.mem_of_getElem? (i := 25) rfl))) (by decide) (t := .int) (t' := (.array (.object "java/lang/Object"))) (by decide) (by decide))))
  have F3a := ((F3.ext Xe1).other W3 (Or.inr (slot_ne (Or.inl (hw _ (List.mem_of_getElem? (i := 45) rfl))) (Or.inl (hw _ (List.mem_of_getElem? (i := 25) rfl))) (by decide) (t := .int) (t' := (.array (.object "java/lang/Object"))) (by decide) (by decide))))
  have V2 := V1.other W3 hab.symm
  have E1 := (E.ext Xe1).wr W3
  have K1 : Keep h0 h3 [a1] := ((Keep.refl h0 [a1]).ext Xe1).wr W3 (Or.inl (List.mem_of_getElem? (i := 0) rfl))
  obtain ⟨fs, hr, hrun, hended, hW, hsame⟩ := X3.leave (v := none) (fun _ => rfl)
  refine ⟨_, _, pre0 _ ?_, hrun, hended, _, _, rfl, ?_, ⟨_, rfl⟩, hW, hsame.mono (by decide) (by decide)⟩
  · show Steps p.tables e below (s₁.setTop (mkF m 0 #[.val (.ref a1)] [])) _
    refine XS.aloadN X0.here hx rfl (hb hby own_djdk_21_3_0) rfl rfl ?_
    show Steps p.tables e below (s₁.setTop (mkF m 1 #[.val (.ref a1)] [(.ref a1)])) _
    refine st1.trans ?_
    show Steps p.tables e below (T1.setTop (mkF m 4 #[.val (.ref a1)] [])) _
    refine XS.aloadN X1.here hx rfl (hb hby own_djdk_21_3_4) rfl rfl ?_
    show Steps p.tables e below (T1.setTop (mkF m 5 #[.val (.ref a1)] [(.ref a1)])) _
    refine XS.bipush X1.here hx rfl (hb hby own_djdk_21_3_5) ?_
    show Steps p.tables e below (T1.setTop (mkF m 7 #[.val (.ref a1)] [(.int (17 : Int32)), (.ref a1)])) _
    refine st2 _ ?_
    show Steps p.tables e below (T2.setTop (mkF m 10 #[.val (.ref a1)] [(.ref b), (.ref a1)])) _
    refine st3 _ ?_
    show Steps p.tables e below (T3.setTop (mkF m 13 #[.val (.ref a1)] [])) _
    exact X3.returnOut hx Bd.returns (hb hby own_djdk_21_3_13) hr
  · show Q_adi Z a1 u1 h0 n0 _ T3.heap _
    rw [e3]
    exact ⟨rfl, N3, K1, b, _, Nat.le_of_eq ze1.symm, E1, F1a, F2a, F3a, V2, O1, g, gn_b, hab⟩
theorem own_djdk_21_38_0 : decode jdk_21_method_38_code 0 = .ok (.aload_n 0, 1) := by decide +kernel
theorem own_djdk_21_38_1 : decode jdk_21_method_38_code 1 = .ok (.getfield 24, 3) := by decide +kernel
theorem own_djdk_21_38_4 : decode jdk_21_method_38_code 4 = .ok (.aload_n 0, 1) := by decide +kernel
theorem own_djdk_21_38_5 : decode jdk_21_method_38_code 5 = .ok (.getfield 20, 3) := by decide +kernel
theorem own_djdk_21_38_8 : decode jdk_21_method_38_code 8 = .ok (.if_icmp .ne 7, 3) := by decide +kernel
theorem own_djdk_21_38_11 : decode jdk_21_method_38_code 11 = .ok (.iconst 1, 1) := by decide +kernel
theorem own_djdk_21_38_12 : decode jdk_21_method_38_code 12 = .ok (.goto 4, 3) := by decide +kernel
theorem own_djdk_21_38_15 : decode jdk_21_method_38_code 15 = .ok (.iconst 0, 1) := by decide +kernel
theorem own_djdk_21_38_16 : decode jdk_21_method_38_code 16 = .ok (.ireturn, 1) := by decide +kernel
theorem own_ef_emp (m : MethodId) (x0 : Addr) : entryFrame m #[(.ref x0)] 1 = mkF m 0 #[.val (.ref x0)] [] := by first | (simp [entryFrame, mkF, argsToLocals, Value.category]; done) | rfl
def Q_emp (Z : State) (a1 : Addr) (t : Int32) (h0 : Heap) (n0 : Nat) (v : Option Value) (h : Heap) (L : List Loc) : Prop := v = some (.int (own_emp t)) ∧ Fr n0 L ∧ h = h0
set_option maxRecDepth 65536 in
set_option maxHeartbeats 40000000 in
theorem rm_emp (l : Launch) (Z : State) (a0 : Array Value) (hw : ∀ d ∈ tables_1, d.before a0 Z = true) (ws : List Jvm.Cond) (a1 : Addr) (t : Int32) (h0 : Heap) (n0 : Nat) (Z0 : n0 ≤ h0.size) (F2 : Fld Z h0 a1 "java/util/ArrayDeque" "head" "I" (.int 0)) (F3 : Fld Z h0 a1 "java/util/ArrayDeque" "tail" "I" (.int t)) :
    MetFree l (⟨"java/util/ArrayDeque", "isEmpty", "()Z"⟩ : MethodName) (head1 (Jvm.Cond.code (⟨"java/util/ArrayDeque", "isEmpty", "()Z"⟩ : MethodName) jdk_21_method_38_code 1 (some .boolean) :: ws) ({ frames := 0, cells := 0, slots := 0, locals := 0 } : Room)) (fun a U => a = #[(.ref a1)] ∧ Z.Warmed39 U.vm ∧ U.heap = h0) (fun _ _ _ _ _ => True) (fun _ U o U' => ∃ v L, o = .returned v ∧ Q_emp Z a1 t h0 n0 v U'.heap L ∧ FrameEnd U o U' L ({ frames := 0, cells := 0, slots := 0, locals := 0 } : Room).cells ({ frames := 0, cells := 0, slots := 0, locals := 0 } : Room).slots) := by
  refine MetFree.of_bodySF (plainFor_of_name own_pn_java_util_ArrayDeque) hisR ?_
  intro p e s m args below meth c s₁ Bd hml0 hP hK
  obtain ⟨rfl, hZ, hh⟩ := hP
  have hx := Bd.exec
  have hby := Bd.bytes
  have hml : c.maxLocals = 1 := hml0
  have hown : s.vm.findClass "java/util/ArrayDeque" = some m.cls := findClass_of_methodNamed Bd.named
  have hnm := (name_of_methodNamed Bd.named Bd.method).1
  have X0 : Stand p l e ({ frames := 0, cells := 0, slots := 0, locals := 0 } : Room) s m #[(.ref a1)] below meth c s₁ [] 0 0 := Stand.of_body Bd
  have e0 : s₁.heap = h0 := by rw [← hh, Bd.state]; rfl
  have N0 := Fr.nil n0
  have pre0 : ∀ t, Steps p.tables e below (s₁.setTop (mkF m 0 #[.val (.ref a1)] [])) t → Steps p.tables e below (s₁.setTop (entryFrame m #[(.ref a1)] 1)) t := fun t k => castTop (own_ef_emp m a1) k
  obtain ⟨T1, X1, e1, st1⟩ := getF X0 hx hZ hown (host := "") (Or.inl (hw _ (List.mem_of_getElem? (i := 42) rfl))) Via.refl e0 F2 (g := (mkF m 1 #[.val (.ref a1)] [(.ref a1)])) rfl rfl (hb hby own_djdk_21_38_1)
  obtain ⟨T2, X2, e2, st2⟩ := getF X1 hx hZ hown (host := "") (Or.inl (hw _ (List.mem_of_getElem? (i := 44) rfl))) Via.refl e1 F3 (g := (mkF m 5 #[.val (.ref a1)] [(.ref a1), (.int (0 : Int32))])) rfl rfl (hb hby own_djdk_21_38_5)
  by_cases hc : (0 : Int32) = t
  · obtain ⟨fs, hr, hrun, hended, hW, hsame⟩ := X2.leave (v := some (.int (1 : Int32))) (fun h => by rw [Bd.returns] at h; cases h)
    refine ⟨_, _, pre0 _ ?_, hrun, hended, _, _, rfl, ?_, ⟨_, rfl⟩, hW, hsame.mono (by decide) (by decide)⟩
    · show Steps p.tables e below (s₁.setTop (mkF m 0 #[.val (.ref a1)] [])) _
      refine XS.aloadN X0.here hx rfl (hb hby own_djdk_21_38_0) rfl rfl ?_
      show Steps p.tables e below (s₁.setTop (mkF m 1 #[.val (.ref a1)] [(.ref a1)])) _
      refine st1 _ ?_
      show Steps p.tables e below (T1.setTop (mkF m 4 #[.val (.ref a1)] [(.int (0 : Int32))])) _
      refine XS.aloadN X1.here hx rfl (hb hby own_djdk_21_38_4) rfl rfl ?_
      show Steps p.tables e below (T1.setTop (mkF m 5 #[.val (.ref a1)] [(.ref a1), (.int (0 : Int32))])) _
      refine st2 _ ?_
      show Steps p.tables e below (T2.setTop (mkF m 8 #[.val (.ref a1)] [(.int t), (.int (0 : Int32))])) _
      refine XS.icmpNo X2.here hx rfl (hb hby own_djdk_21_38_8) rfl (teq hc).2 ?_
      show Steps p.tables e below (T2.setTop (mkF m 11 #[.val (.ref a1)] [])) _
      refine XS.iconst X2.here hx rfl (hb hby own_djdk_21_38_11) ?_
      show Steps p.tables e below (T2.setTop (mkF m 12 #[.val (.ref a1)] [(.int (1 : Int32))])) _
      refine XS.goto X2.here hx rfl (pc0 := 12) (pc' := 16) rfl (hb hby own_djdk_21_38_12) (by decide) (by decide) ?_
      show Steps p.tables e below (T2.setTop (mkF m 16 #[.val (.ref a1)] [(.int (1 : Int32))])) _
      exact retN X2 hx (t := .boolean) Bd.returns (by simp) (hb hby own_djdk_21_38_16) hr
    · show Q_emp Z a1 t h0 n0 _ T2.heap _
      rw [e2]
      exact ⟨(by unfold own_emp; rw [if_pos hc]), N0, rfl⟩
  · obtain ⟨fs, hr, hrun, hended, hW, hsame⟩ := X2.leave (v := some (.int (0 : Int32))) (fun h => by rw [Bd.returns] at h; cases h)
    refine ⟨_, _, pre0 _ ?_, hrun, hended, _, _, rfl, ?_, ⟨_, rfl⟩, hW, hsame.mono (by decide) (by decide)⟩
    · show Steps p.tables e below (s₁.setTop (mkF m 0 #[.val (.ref a1)] [])) _
      refine XS.aloadN X0.here hx rfl (hb hby own_djdk_21_38_0) rfl rfl ?_
      show Steps p.tables e below (s₁.setTop (mkF m 1 #[.val (.ref a1)] [(.ref a1)])) _
      refine st1 _ ?_
      show Steps p.tables e below (T1.setTop (mkF m 4 #[.val (.ref a1)] [(.int (0 : Int32))])) _
      refine XS.aloadN X1.here hx rfl (hb hby own_djdk_21_38_4) rfl rfl ?_
      show Steps p.tables e below (T1.setTop (mkF m 5 #[.val (.ref a1)] [(.ref a1), (.int (0 : Int32))])) _
      refine st2 _ ?_
      show Steps p.tables e below (T2.setTop (mkF m 8 #[.val (.ref a1)] [(.int t), (.int (0 : Int32))])) _
      refine XS.icmpYes X2.here hx rfl (pc0 := 8) (pc' := 15) rfl (hb hby own_djdk_21_38_8) rfl (feq hc).2 (by decide) (by decide) ?_
      show Steps p.tables e below (T2.setTop (mkF m 15 #[.val (.ref a1)] [])) _
      refine XS.iconst X2.here hx rfl (hb hby own_djdk_21_38_15) ?_
      show Steps p.tables e below (T2.setTop (mkF m 16 #[.val (.ref a1)] [(.int (0 : Int32))])) _
      exact retN X2 hx (t := .boolean) Bd.returns (by simp) (hb hby own_djdk_21_38_16) hr
    · show Q_emp Z a1 t h0 n0 _ T2.heap _
      rw [e2]
      exact ⟨(by unfold own_emp; rw [if_neg hc]), N0, rfl⟩
theorem own_djdk_21_6_0 : decode jdk_21_method_6_code 0 = .ok (.iinc 0 1, 3) := by decide +kernel
theorem own_djdk_21_6_3 : decode jdk_21_method_6_code 3 = .ok (.iload_n 0, 1) := by decide +kernel
theorem own_djdk_21_6_4 : decode jdk_21_method_6_code 4 = .ok (.iload_n 1, 1) := by decide +kernel
theorem own_djdk_21_6_5 : decode jdk_21_method_6_code 5 = .ok (.if_icmp .lt 5, 3) := by decide +kernel
theorem own_djdk_21_6_10 : decode jdk_21_method_6_code 10 = .ok (.iload_n 0, 1) := by decide +kernel
theorem own_djdk_21_6_11 : decode jdk_21_method_6_code 11 = .ok (.ireturn, 1) := by decide +kernel
theorem own_ef_inc (m : MethodId) (x0 : Int32) (x1 : Int32) : entryFrame m #[(.int x0), (.int x1)] 2 = mkF m 0 #[.val (.int x0), .val (.int x1)] [] := by first | (simp [entryFrame, mkF, argsToLocals, Value.category]; done) | rfl
def Q_inc (Z : State) (p1 : Int32) (p2 : Int32) (h0 : Heap) (n0 : Nat) (v : Option Value) (h : Heap) (L : List Loc) : Prop := v = some (.int (p1 + (1 : Int32))) ∧ Fr n0 L ∧ h = h0
set_option maxRecDepth 65536 in
set_option maxHeartbeats 40000000 in
theorem rm_inc (l : Launch) (Z : State) (a0 : Array Value) (hw : ∀ d ∈ tables_1, d.before a0 Z = true) (ws : List Jvm.Cond) (p1 : Int32) (p2 : Int32) (h0 : Heap) (n0 : Nat) (Z0 : n0 ≤ h0.size) (hlt : p1 + (1 : Int32) < p2) :
    MetFree l (⟨"java/util/ArrayDeque", "inc", "(II)I"⟩ : MethodName) (head1 (Jvm.Cond.code (⟨"java/util/ArrayDeque", "inc", "(II)I"⟩ : MethodName) jdk_21_method_6_code 2 (some .int) :: ws) ({ frames := 0, cells := 0, slots := 0, locals := 0 } : Room)) (fun a U => a = #[(.int p1), (.int p2)] ∧ Z.Warmed39 U.vm ∧ U.heap = h0) (fun _ _ _ _ _ => True) (fun _ U o U' => ∃ v L, o = .returned v ∧ Q_inc Z p1 p2 h0 n0 v U'.heap L ∧ FrameEnd U o U' L ({ frames := 0, cells := 0, slots := 0, locals := 0 } : Room).cells ({ frames := 0, cells := 0, slots := 0, locals := 0 } : Room).slots) := by
  refine MetFree.of_bodySF (plainFor_of_name own_pn_java_util_ArrayDeque) hisR ?_
  intro p e s m args below meth c s₁ Bd hml0 hP hK
  obtain ⟨rfl, hZ, hh⟩ := hP
  have hx := Bd.exec
  have hby := Bd.bytes
  have hml : c.maxLocals = 2 := hml0
  have hown : s.vm.findClass "java/util/ArrayDeque" = some m.cls := findClass_of_methodNamed Bd.named
  have hnm := (name_of_methodNamed Bd.named Bd.method).1
  have X0 : Stand p l e ({ frames := 0, cells := 0, slots := 0, locals := 0 } : Room) s m #[(.int p1), (.int p2)] below meth c s₁ [] 0 0 := Stand.of_body Bd
  have e0 : s₁.heap = h0 := by rw [← hh, Bd.state]; rfl
  have N0 := Fr.nil n0
  have pre0 : ∀ t, Steps p.tables e below (s₁.setTop (mkF m 0 #[.val (.int p1), .val (.int p2)] [])) t → Steps p.tables e below (s₁.setTop (entryFrame m #[(.int p1), (.int p2)] 2)) t := fun t k => castTop (own_ef_inc m p1 p2) k
  obtain ⟨fs, hr, hrun, hended, hW, hsame⟩ := X0.leave (v := some (.int (p1 + (1 : Int32)))) (fun h => by rw [Bd.returns] at h; cases h)
  refine ⟨_, _, pre0 _ ?_, hrun, hended, _, _, rfl, ?_, ⟨_, rfl⟩, hW, hsame.mono (by decide) (by decide)⟩
  · show Steps p.tables e below (s₁.setTop (mkF m 0 #[.val (.int p1), .val (.int p2)] [])) _
    refine XS.iinc X0.here hx rfl (hb hby own_djdk_21_6_0) rfl (l' := #[.val (.int (p1 + (1 : Int32))), .val (.int p2)]) rfl ?_
    show Steps p.tables e below (s₁.setTop (mkF m 3 #[.val (.int (p1 + (1 : Int32))), .val (.int p2)] [])) _
    refine XS.iloadN X0.here hx rfl (hb hby own_djdk_21_6_3) rfl ?_
    show Steps p.tables e below (s₁.setTop (mkF m 4 #[.val (.int (p1 + (1 : Int32))), .val (.int p2)] [(.int (p1 + (1 : Int32)))])) _
    refine XS.iloadN X0.here hx rfl (hb hby own_djdk_21_6_4) rfl ?_
    show Steps p.tables e below (s₁.setTop (mkF m 5 #[.val (.int (p1 + (1 : Int32))), .val (.int p2)] [(.int p2), (.int (p1 + (1 : Int32)))])) _
    refine XS.icmpYes X0.here hx rfl (pc0 := 5) (pc' := 10) rfl (hb hby own_djdk_21_6_5) rfl (tlt hlt).1 (by decide) (by decide) ?_
    show Steps p.tables e below (s₁.setTop (mkF m 10 #[.val (.int (p1 + (1 : Int32))), .val (.int p2)] [])) _
    refine XS.iloadN X0.here hx rfl (hb hby own_djdk_21_6_10) rfl ?_
    show Steps p.tables e below (s₁.setTop (mkF m 11 #[.val (.int (p1 + (1 : Int32))), .val (.int p2)] [(.int (p1 + (1 : Int32)))])) _
    exact retOut X0 hx Bd.returns rfl (Or.inl ⟨rfl, Or.inl rfl, _, rfl⟩) (hb hby own_djdk_21_6_11) hr
  · show Q_inc Z p1 p2 h0 n0 _ s₁.heap _
    rw [e0]
    exact ⟨rfl, N0, rfl⟩
theorem own_djdk_21_7_0 : decode jdk_21_method_7_code 0 = .ok (.iinc 0 (-1), 3) := by decide +kernel
theorem own_djdk_21_7_3 : decode jdk_21_method_7_code 3 = .ok (.iload_n 0, 1) := by decide +kernel
theorem own_djdk_21_7_4 : decode jdk_21_method_7_code 4 = .ok (.ifCond .ge 7, 3) := by decide +kernel
theorem own_djdk_21_7_11 : decode jdk_21_method_7_code 11 = .ok (.iload_n 0, 1) := by decide +kernel
theorem own_djdk_21_7_12 : decode jdk_21_method_7_code 12 = .ok (.ireturn, 1) := by decide +kernel
theorem own_ef_dec (m : MethodId) (x0 : Int32) (x1 : Int32) : entryFrame m #[(.int x0), (.int x1)] 2 = mkF m 0 #[.val (.int x0), .val (.int x1)] [] := by first | (simp [entryFrame, mkF, argsToLocals, Value.category]; done) | rfl
def Q_dec (Z : State) (p1 : Int32) (p2 : Int32) (h0 : Heap) (n0 : Nat) (v : Option Value) (h : Heap) (L : List Loc) : Prop := v = some (.int (p1 + (-1 : Int32))) ∧ Fr n0 L ∧ h = h0
set_option maxRecDepth 65536 in
set_option maxHeartbeats 40000000 in
theorem rm_dec (l : Launch) (Z : State) (a0 : Array Value) (hw : ∀ d ∈ tables_1, d.before a0 Z = true) (ws : List Jvm.Cond) (p1 : Int32) (p2 : Int32) (h0 : Heap) (n0 : Nat) (Z0 : n0 ≤ h0.size) (hge : ¬ p1 + (-1 : Int32) < 0) :
    MetFree l (⟨"java/util/ArrayDeque", "dec", "(II)I"⟩ : MethodName) (head1 (Jvm.Cond.code (⟨"java/util/ArrayDeque", "dec", "(II)I"⟩ : MethodName) jdk_21_method_7_code 2 (some .int) :: ws) ({ frames := 0, cells := 0, slots := 0, locals := 0 } : Room)) (fun a U => a = #[(.int p1), (.int p2)] ∧ Z.Warmed39 U.vm ∧ U.heap = h0) (fun _ _ _ _ _ => True) (fun _ U o U' => ∃ v L, o = .returned v ∧ Q_dec Z p1 p2 h0 n0 v U'.heap L ∧ FrameEnd U o U' L ({ frames := 0, cells := 0, slots := 0, locals := 0 } : Room).cells ({ frames := 0, cells := 0, slots := 0, locals := 0 } : Room).slots) := by
  refine MetFree.of_bodySF (plainFor_of_name own_pn_java_util_ArrayDeque) hisR ?_
  intro p e s m args below meth c s₁ Bd hml0 hP hK
  obtain ⟨rfl, hZ, hh⟩ := hP
  have hx := Bd.exec
  have hby := Bd.bytes
  have hml : c.maxLocals = 2 := hml0
  have hown : s.vm.findClass "java/util/ArrayDeque" = some m.cls := findClass_of_methodNamed Bd.named
  have hnm := (name_of_methodNamed Bd.named Bd.method).1
  have X0 : Stand p l e ({ frames := 0, cells := 0, slots := 0, locals := 0 } : Room) s m #[(.int p1), (.int p2)] below meth c s₁ [] 0 0 := Stand.of_body Bd
  have e0 : s₁.heap = h0 := by rw [← hh, Bd.state]; rfl
  have N0 := Fr.nil n0
  have pre0 : ∀ t, Steps p.tables e below (s₁.setTop (mkF m 0 #[.val (.int p1), .val (.int p2)] [])) t → Steps p.tables e below (s₁.setTop (entryFrame m #[(.int p1), (.int p2)] 2)) t := fun t k => castTop (own_ef_dec m p1 p2) k
  obtain ⟨fs, hr, hrun, hended, hW, hsame⟩ := X0.leave (v := some (.int (p1 + (-1 : Int32)))) (fun h => by rw [Bd.returns] at h; cases h)
  refine ⟨_, _, pre0 _ ?_, hrun, hended, _, _, rfl, ?_, ⟨_, rfl⟩, hW, hsame.mono (by decide) (by decide)⟩
  · show Steps p.tables e below (s₁.setTop (mkF m 0 #[.val (.int p1), .val (.int p2)] [])) _
    refine XS.iinc X0.here hx rfl (hb hby own_djdk_21_7_0) rfl (l' := #[.val (.int (p1 + (-1 : Int32))), .val (.int p2)]) rfl ?_
    show Steps p.tables e below (s₁.setTop (mkF m 3 #[.val (.int (p1 + (-1 : Int32))), .val (.int p2)] [])) _
    refine XS.iloadN X0.here hx rfl (hb hby own_djdk_21_7_3) rfl ?_
    show Steps p.tables e below (s₁.setTop (mkF m 4 #[.val (.int (p1 + (-1 : Int32))), .val (.int p2)] [(.int (p1 + (-1 : Int32)))])) _
    refine XS.ifYes X0.here hx rfl (pc0 := 4) (pc' := 11) rfl (hb hby own_djdk_21_7_4) rfl ((if0 _ _).trans (flt hge).2.1) (by decide) (by decide) ?_
    show Steps p.tables e below (s₁.setTop (mkF m 11 #[.val (.int (p1 + (-1 : Int32))), .val (.int p2)] [])) _
    refine XS.iloadN X0.here hx rfl (hb hby own_djdk_21_7_11) rfl ?_
    show Steps p.tables e below (s₁.setTop (mkF m 12 #[.val (.int (p1 + (-1 : Int32))), .val (.int p2)] [(.int (p1 + (-1 : Int32)))])) _
    exact retOut X0 hx Bd.returns rfl (Or.inl ⟨rfl, Or.inl rfl, _, rfl⟩) (hb hby own_djdk_21_7_12) hr
  · show Q_dec Z p1 p2 h0 n0 _ s₁.heap _
    rw [e0]
    exact ⟨rfl, N0, rfl⟩
theorem own_djdk_21_10_0 : decode jdk_21_method_10_code 0 = .ok (.aload_n 0, 1) := by decide +kernel
theorem own_djdk_21_10_1 : decode jdk_21_method_10_code 1 = .ok (.iload_n 1, 1) := by decide +kernel
theorem own_djdk_21_10_2 : decode jdk_21_method_10_code 2 = .ok (.aaload, 1) := by decide +kernel
theorem own_djdk_21_10_3 : decode jdk_21_method_10_code 3 = .ok (.areturn, 1) := by decide +kernel
theorem own_ef_ela (m : MethodId) (x0 : Addr) (x1 : Int32) : entryFrame m #[(.ref x0), (.int x1)] 2 = mkF m 0 #[.val (.ref x0), .val (.int x1)] [] := by first | (simp [entryFrame, mkF, argsToLocals, Value.category]; done) | rfl
def Q_ela (Z : State) (a1 : Addr) (p2 : Int32) (f : Addr) (cl : Cell) (h0 : Heap) (n0 : Nat) (v : Option Value) (h : Heap) (L : List Loc) : Prop := v = some (.ref f) ∧ Fr n0 L ∧ h = h0
set_option maxRecDepth 65536 in
set_option maxHeartbeats 40000000 in
theorem rm_ela (l : Launch) (Z : State) (a0 : Array Value) (hw : ∀ d ∈ tables_1, d.before a0 Z = true) (ws : List Jvm.Cond) (a1 : Addr) (p2 : Int32) (f : Addr) (cl : Cell) (h0 : Heap) (n0 : Nat) (Z0 : n0 ≤ h0.size) (Ar : Arr Z h0 a1 cl (.object "java/lang/Object")) (hin : ¬ (p2 < 0 ∨ cl.slots.size ≤ p2.toNatClampNeg)) (hat : cl.slots[p2.toNatClampNeg]? = some (.ref f)) :
    MetFree l (⟨"java/util/ArrayDeque", "elementAt", "([Ljava/lang/Object;I)Ljava/lang/Object;"⟩ : MethodName) (head1 (Jvm.Cond.code (⟨"java/util/ArrayDeque", "elementAt", "([Ljava/lang/Object;I)Ljava/lang/Object;"⟩ : MethodName) jdk_21_method_10_code 2 (some (.object "java/lang/Object")) :: ws) ({ frames := 0, cells := 0, slots := 0, locals := 0 } : Room)) (fun a U => a = #[(.ref a1), (.int p2)] ∧ Z.Warmed39 U.vm ∧ U.heap = h0) (fun _ _ _ _ _ => True) (fun _ U o U' => ∃ v L, o = .returned v ∧ Q_ela Z a1 p2 f cl h0 n0 v U'.heap L ∧ FrameEnd U o U' L ({ frames := 0, cells := 0, slots := 0, locals := 0 } : Room).cells ({ frames := 0, cells := 0, slots := 0, locals := 0 } : Room).slots) := by
  refine MetFree.of_bodySF (plainFor_of_name own_pn_java_util_ArrayDeque) hisR ?_
  intro p e s m args below meth c s₁ Bd hml0 hP hK
  obtain ⟨rfl, hZ, hh⟩ := hP
  have hx := Bd.exec
  have hby := Bd.bytes
  have hml : c.maxLocals = 2 := hml0
  have hown : s.vm.findClass "java/util/ArrayDeque" = some m.cls := findClass_of_methodNamed Bd.named
  have hnm := (name_of_methodNamed Bd.named Bd.method).1
  have X0 : Stand p l e ({ frames := 0, cells := 0, slots := 0, locals := 0 } : Room) s m #[(.ref a1), (.int p2)] below meth c s₁ [] 0 0 := Stand.of_body Bd
  have e0 : s₁.heap = h0 := by rw [← hh, Bd.state]; rfl
  have N0 := Fr.nil n0
  have pre0 : ∀ t, Steps p.tables e below (s₁.setTop (mkF m 0 #[.val (.ref a1), .val (.int p2)] [])) t → Steps p.tables e below (s₁.setTop (entryFrame m #[(.ref a1), (.int p2)] 2)) t := fun t k => castTop (own_ef_ela m a1 p2) k
  obtain ⟨fs, hr, hrun, hended, hW, hsame⟩ := X0.leave (v := some (.ref f)) (fun h => by rw [Bd.returns] at h; cases h)
  refine ⟨_, _, pre0 _ ?_, hrun, hended, _, _, rfl, ?_, ⟨_, rfl⟩, hW, hsame.mono (by decide) (by decide)⟩
  · show Steps p.tables e below (s₁.setTop (mkF m 0 #[.val (.ref a1), .val (.int p2)] [])) _
    refine XS.aloadN X0.here hx rfl (hb hby own_djdk_21_10_0) rfl rfl ?_
    show Steps p.tables e below (s₁.setTop (mkF m 1 #[.val (.ref a1), .val (.int p2)] [(.ref a1)])) _
    refine XS.iloadN X0.here hx rfl (hb hby own_djdk_21_10_1) rfl ?_
    show Steps p.tables e below (s₁.setTop (mkF m 2 #[.val (.ref a1), .val (.int p2)] [(.int p2), (.ref a1)])) _
    refine X0.aaload hx (j := p2) (v := (.ref f)) (by rw [e0]; exact Ar.1) (State.isArrayOf_alike hZ.alike Ar.2.1) rfl Ar.2.2 hin hat (g := (mkF m 2 #[.val (.ref a1), .val (.int p2)] [(.int p2), (.ref a1)])) rfl rfl (hb hby own_djdk_21_10_2) _ ?_
    show Steps p.tables e below (s₁.setTop (mkF m 3 #[.val (.ref a1), .val (.int p2)] [(.ref f)])) _
    exact retOut X0 hx Bd.returns rfl (Or.inr (Or.inr (Or.inr (Or.inr ⟨rfl, rfl, rfl⟩)))) (hb hby own_djdk_21_10_3) hr
  · show Q_ela Z a1 p2 f cl h0 n0 _ s₁.heap _
    rw [e0]
    exact ⟨rfl, N0, rfl⟩
theorem own_dprog_32_1_0 : decode prog_32_method_1_code 0 = .ok (.aload_n 0, 1) := by decide +kernel
theorem own_dprog_32_1_1 : decode prog_32_method_1_code 1 = .ok (.invokespecial 1, 3) := by decide +kernel
theorem own_dprog_32_1_4 : decode prog_32_method_1_code 4 = .ok (.aload_n 0, 1) := by decide +kernel
theorem own_dprog_32_1_5 : decode prog_32_method_1_code 5 = .ok (.iload_n 1, 1) := by decide +kernel
theorem own_dprog_32_1_6 : decode prog_32_method_1_code 6 = .ok (.putfield 7, 3) := by decide +kernel
theorem own_dprog_32_1_9 : decode prog_32_method_1_code 9 = .ok (.return_, 1) := by decide +kernel
theorem own_pn_com_example_gabarit_gabarit_shacl_DescriptionOrder_Frame : plainName "com/example/gabarit/gabarit/shacl/DescriptionOrder$Frame" = true := by first | (simp [plainName, overriddenIn]; done) | decide +kernel
theorem own_ef_fi (m : MethodId) (x0 : Addr) (x1 : Int32) : entryFrame m #[(.ref x0), (.int x1)] 2 = mkF m 0 #[.val (.ref x0), .val (.int x1)] [] := by first | (simp [entryFrame, mkF, argsToLocals, Value.category]; done) | rfl
def Q_fi (Z : State) (a1 : Addr) (p2 : Int32) (lb : Bool) (u1 : Value) (h0 : Heap) (n0 : Nat) (v : Option Value) (h : Heap) (L : List Loc) : Prop := v = none ∧ Fr n0 L ∧ Keep h0 h [a1] ∧ Exa Z h a1 "com/example/gabarit/gabarit/shacl/DescriptionOrder$Frame" ∧ Fld Z h a1 "com/example/gabarit/gabarit/shacl/DescriptionOrder$Frame" "list" "Z" (.int (own_b lb)) ∧ Fld Z h a1 "com/example/gabarit/gabarit/shacl/DescriptionOrder$Frame" "started" "Z" (.int (own_b false))
set_option maxRecDepth 65536 in
set_option maxHeartbeats 40000000 in
theorem rm_fi (l : Launch) (Z : State) (a0 : Array Value) (hw : ∀ d ∈ tables_1, d.before a0 Z = true) (ws : List Jvm.Cond) (a1 : Addr) (p2 : Int32) (lb : Bool) (u1 : Value) (h0 : Heap) (n0 : Nat) (Z0 : n0 ≤ h0.size) (hp : p2 = own_b lb) (E : Exa Z h0 a1 "com/example/gabarit/gabarit/shacl/DescriptionOrder$Frame") (F1 : Fld Z h0 a1 "com/example/gabarit/gabarit/shacl/DescriptionOrder$Frame" "list" "Z" u1) (F2 : Fld Z h0 a1 "com/example/gabarit/gabarit/shacl/DescriptionOrder$Frame" "started" "Z" (.int 0)) (g : n0 ≤ a1) :
    MetFree l (⟨"com/example/gabarit/gabarit/shacl/DescriptionOrder$Frame", "<init>", "(Z)V"⟩ : MethodName) (head1 (Jvm.Cond.code (⟨"com/example/gabarit/gabarit/shacl/DescriptionOrder$Frame", "<init>", "(Z)V"⟩ : MethodName) prog_32_method_1_code 2 none :: ws) ({ frames := 1, cells := 0, slots := 0, locals := 12 } : Room)) (fun a U => a = #[(.ref a1), (.int p2)] ∧ Z.Warmed39 U.vm ∧ U.heap = h0) (fun _ _ _ _ _ => True) (fun _ U o U' => ∃ v L, o = .returned v ∧ Q_fi Z a1 p2 lb u1 h0 n0 v U'.heap L ∧ FrameEnd U o U' L ({ frames := 1, cells := 0, slots := 0, locals := 12 } : Room).cells ({ frames := 1, cells := 0, slots := 0, locals := 12 } : Room).slots) := by
  refine MetFree.of_bodySF (plainFor_of_name own_pn_com_example_gabarit_gabarit_shacl_DescriptionOrder_Frame) hisR ?_
  intro p e s m args below meth c s₁ Bd hml0 hP hK
  obtain ⟨rfl, hZ, hh⟩ := hP
  have hx := Bd.exec
  have hby := Bd.bytes
  have hml : c.maxLocals = 2 := hml0
  have hown : s.vm.findClass "com/example/gabarit/gabarit/shacl/DescriptionOrder$Frame" = some m.cls := findClass_of_methodNamed Bd.named
  have hnm := (name_of_methodNamed Bd.named Bd.method).1
  have X0 : Stand p l e ({ frames := 1, cells := 0, slots := 0, locals := 12 } : Room) s m #[(.ref a1), (.int p2)] below meth c s₁ [] 0 0 := Stand.of_body Bd
  have e0 : s₁.heap = h0 := by rw [← hh, Bd.state]; rfl
  have N0 := Fr.nil n0
  have pre0 : ∀ t, Steps p.tables e below (s₁.setTop (mkF m 0 #[.val (.ref a1), .val (.int p2)] [])) t → Steps p.tables e below (s₁.setTop (entryFrame m #[(.ref a1), (.int p2)] 2)) t := fun t k => castTop (own_ef_fi m a1 p2) k
  obtain ⟨T1, X1, e1, st1⟩ := initO X0 hx hZ hown (hw _ (List.mem_of_getElem? (i := 52) rfl)) (hw _ (List.mem_of_getElem? (i := 7) rfl)) (hw _ (List.mem_of_getElem? (i := 8) rfl)) e0 (g := (mkF m 1 #[.val (.ref a1), .val (.int p2)] [(.ref a1)])) rfl (by rw [hml]; rfl) rfl (hb hby own_dprog_32_1_1) (by decide) (W := 0) (by show 2 * 0 + _ ≤ _; exact Nat.le_of_eq rfl) (by decide)
  obtain ⟨T2, h2, X2, e2, W2, st2⟩ := putF X1 hx hZ hown (host := "") (Or.inl (hw _ (List.mem_of_getElem? (i := 53) rfl))) Via.refl e1 F1 E (Or.inr ⟨(hw _ (List.mem_of_getElem? (i := 54) rfl)), rfl, hnm⟩) (hw _ (List.mem_of_getElem? (i := 47) rfl)) (ty := .boolean) (by decide) (by rw [hp]; cases lb <;> rfl) (by rw [hp]; cases lb <;> rfl) (g := (mkF m 6 #[.val (.ref a1), .val (.int p2)] [(.int p2), (.ref a1)])) rfl rfl (hb hby own_dprog_32_1_6)
  have N2 := Fr.snoc X2 N0 g
  have sz2 : n0 ≤ h2.size := Nat.le_trans Z0 (Keep.of_wr W2).1
  have F1a := F1.same W2
  have F2a := (F2.other W2 (Or.inr (slot_ne (Or.inl (hw _ (List.mem_of_getElem? (i := 97) rfl))) (Or.inr (hw _ (List.mem_of_getElem? (i := 54) rfl))) (by decide) (t := .boolean) (t' := .boolean) (by decide) (by decide))))
  have E1 := E.wr W2
  have K1 : Keep h0 h2 [a1] := (Keep.refl h0 [a1]).wr W2 (Or.inl (List.mem_of_getElem? (i := 0) rfl))
  obtain ⟨fs, hr, hrun, hended, hW, hsame⟩ := X2.leave (v := none) (fun _ => rfl)
  refine ⟨_, _, pre0 _ ?_, hrun, hended, _, _, rfl, ?_, ⟨_, rfl⟩, hW, hsame.mono (by decide) (by decide)⟩
  · show Steps p.tables e below (s₁.setTop (mkF m 0 #[.val (.ref a1), .val (.int p2)] [])) _
    refine XS.aloadN X0.here hx rfl (hb hby own_dprog_32_1_0) rfl rfl ?_
    show Steps p.tables e below (s₁.setTop (mkF m 1 #[.val (.ref a1), .val (.int p2)] [(.ref a1)])) _
    refine st1 _ ?_
    show Steps p.tables e below (T1.setTop (mkF m 4 #[.val (.ref a1), .val (.int p2)] [])) _
    refine XS.aloadN X1.here hx rfl (hb hby own_dprog_32_1_4) rfl rfl ?_
    show Steps p.tables e below (T1.setTop (mkF m 5 #[.val (.ref a1), .val (.int p2)] [(.ref a1)])) _
    refine XS.iloadN X1.here hx rfl (hb hby own_dprog_32_1_5) rfl ?_
    show Steps p.tables e below (T1.setTop (mkF m 6 #[.val (.ref a1), .val (.int p2)] [(.int p2), (.ref a1)])) _
    refine st2 _ ?_
    show Steps p.tables e below (T2.setTop (mkF m 9 #[.val (.ref a1), .val (.int p2)] [])) _
    exact X2.returnOut hx Bd.returns (hb hby own_dprog_32_1_9) hr
  · show Q_fi Z a1 p2 lb u1 h0 n0 _ T2.heap _
    rw [e2]
    exact ⟨rfl, N2, K1, E1, hp ▸ F1a, F2a⟩
theorem own_djdk_21_13_0 : decode jdk_21_method_13_code 0 = .ok (.aload_n 1, 1) := by decide +kernel
theorem own_djdk_21_13_1 : decode jdk_21_method_13_code 1 = .ok (.ifnonnull 11, 3) := by decide +kernel
theorem own_djdk_21_13_12 : decode jdk_21_method_13_code 12 = .ok (.aload_n 0, 1) := by decide +kernel
theorem own_djdk_21_13_13 : decode jdk_21_method_13_code 13 = .ok (.getfield 3, 3) := by decide +kernel
theorem own_djdk_21_13_16 : decode jdk_21_method_13_code 16 = .ok (.astore_n 2, 1) := by decide +kernel
theorem own_djdk_21_13_17 : decode jdk_21_method_13_code 17 = .ok (.aload_n 2, 1) := by decide +kernel
theorem own_djdk_21_13_18 : decode jdk_21_method_13_code 18 = .ok (.aload_n 0, 1) := by decide +kernel
theorem own_djdk_21_13_19 : decode jdk_21_method_13_code 19 = .ok (.getfield 20, 3) := by decide +kernel
theorem own_djdk_21_13_22 : decode jdk_21_method_13_code 22 = .ok (.aload_n 1, 1) := by decide +kernel
theorem own_djdk_21_13_23 : decode jdk_21_method_13_code 23 = .ok (.aastore, 1) := by decide +kernel
theorem own_djdk_21_13_24 : decode jdk_21_method_13_code 24 = .ok (.aload_n 0, 1) := by decide +kernel
theorem own_djdk_21_13_25 : decode jdk_21_method_13_code 25 = .ok (.getfield 24, 3) := by decide +kernel
theorem own_djdk_21_13_28 : decode jdk_21_method_13_code 28 = .ok (.aload_n 0, 1) := by decide +kernel
theorem own_djdk_21_13_29 : decode jdk_21_method_13_code 29 = .ok (.aload_n 0, 1) := by decide +kernel
theorem own_djdk_21_13_30 : decode jdk_21_method_13_code 30 = .ok (.getfield 20, 3) := by decide +kernel
theorem own_djdk_21_13_33 : decode jdk_21_method_13_code 33 = .ok (.aload_n 2, 1) := by decide +kernel
theorem own_djdk_21_13_34 : decode jdk_21_method_13_code 34 = .ok (.arraylength, 1) := by decide +kernel
theorem own_djdk_21_13_35 : decode jdk_21_method_13_code 35 = .ok (.invokestatic 74, 3) := by decide +kernel
theorem own_djdk_21_13_38 : decode jdk_21_method_13_code 38 = .ok (.dup_x1, 1) := by decide +kernel
theorem own_djdk_21_13_39 : decode jdk_21_method_13_code 39 = .ok (.putfield 20, 3) := by decide +kernel
theorem own_djdk_21_13_42 : decode jdk_21_method_13_code 42 = .ok (.if_icmp .ne 8, 3) := by decide +kernel
theorem own_djdk_21_13_50 : decode jdk_21_method_13_code 50 = .ok (.return_, 1) := by decide +kernel
theorem own_pd1 : parseMethodDescriptor "(II)I" = some ⟨[.int, .int], some .int⟩ := by decide +kernel
theorem own_ef_add (m : MethodId) (x0 : Addr) (x1 : Addr) : entryFrame m #[(.ref x0), (.ref x1)] 3 = mkF m 0 #[.val (.ref x0), .val (.ref x1), .unset] [] := by first | (simp [entryFrame, mkF, argsToLocals, Value.category]; done) | rfl
def Q_add (Z : State) (a1 : Addr) (a2 : Addr) (el : Addr) (k : ClassId) (as : List Addr) (h0 : Heap) (n0 : Nat) (v : Option Value) (h : Heap) (L : List Loc) : Prop := v = none ∧ Fr n0 L ∧ Keep h0 h [a1, el] ∧ own_DQ Z h a1 el k n0 (a2 :: as)
set_option maxRecDepth 65536 in
set_option maxHeartbeats 40000000 in
theorem rm_add (l : Launch) (Z : State) (a0 : Array Value) (hw : ∀ d ∈ tables_1, d.before a0 Z = true) (ws : List Jvm.Cond) (a1 : Addr) (a2 : Addr) (el : Addr) (k : ClassId) (as : List Addr) (h0 : Heap) (n0 : Nat) (Z0 : n0 ≤ h0.size) (D : own_DQ Z h0 a1 el k n0 as) (hlen : as.length ≤ 7) (I : Ins Z h0 a2 "java/lang/Object" true) :
    MetFree l (⟨"java/util/ArrayDeque", "addLast", "(Ljava/lang/Object;)V"⟩ : MethodName) (head1 (Jvm.Cond.code (⟨"java/util/ArrayDeque", "addLast", "(Ljava/lang/Object;)V"⟩ : MethodName) jdk_21_method_13_code 3 none :: ws) ({ frames := 1, cells := 0, slots := 0, locals := 15 } : Room)) (fun a U => a = #[(.ref a1), (.ref a2)] ∧ Z.Warmed39 U.vm ∧ U.heap = h0) (fun _ _ _ _ _ => True) (fun _ U o U' => ∃ v L, o = .returned v ∧ Q_add Z a1 a2 el k as h0 n0 v U'.heap L ∧ FrameEnd U o U' L ({ frames := 1, cells := 0, slots := 0, locals := 15 } : Room).cells ({ frames := 1, cells := 0, slots := 0, locals := 15 } : Room).slots) := by
  refine MetFree.of_bodySF (plainFor_of_name own_pn_java_util_ArrayDeque) hisR ?_
  intro p e s m args below meth c s₁ Bd hml0 hP hK
  obtain ⟨rfl, hZ, hh⟩ := hP
  have hx := Bd.exec
  have hby := Bd.bytes
  have hml : c.maxLocals = 3 := hml0
  have hown : s.vm.findClass "java/util/ArrayDeque" = some m.cls := findClass_of_methodNamed Bd.named
  have hnm := (name_of_methodNamed Bd.named Bd.method).1
  have X0 : Stand p l e ({ frames := 1, cells := 0, slots := 0, locals := 15 } : Room) s m #[(.ref a1), (.ref a2)] below meth c s₁ [] 0 0 := Stand.of_body Bd
  have e0 : s₁.heap = h0 := by rw [← hh, Bd.state]; rfl
  have N0 := Fr.nil n0
  have pre0 : ∀ t, Steps p.tables e below (s₁.setTop (mkF m 0 #[.val (.ref a1), .val (.ref a2), .unset] [])) t → Steps p.tables e below (s₁.setTop (entryFrame m #[(.ref a1), (.ref a2)] 3)) t := fun t k => castTop (own_ef_add m a1 a2) k
  obtain ⟨E, Fe, Fh, Ft, V, Ov, g1, g2, ne⟩ := D
  have hn := own_num ⟨as.length, by omega⟩
  simp only at hn
  have V0 : Arv Z h0 el k (.object "java/lang/Object") (17 : Int32) (as.reverse.map Value.ref ++ List.replicate 1 Value.null) .null := V.pad (pad_rep _ _ 1)
  obtain ⟨cl, Ar, ck, S, Ng, Hs, Gt⟩ := V0
  obtain ⟨T1, X1, e1, st1⟩ := getF X0 hx hZ hown (host := "") (Or.inl (hw _ (List.mem_of_getElem? (i := 24) rfl))) Via.refl e0 Fe (g := (mkF m 13 #[.val (.ref a1), .val (.ref a2), .unset] [(.ref a1)])) rfl rfl (hb hby own_djdk_21_13_13)
  obtain ⟨T2, X2, e2, st2⟩ := getF X1 hx hZ hown (host := "") (Or.inl (hw _ (List.mem_of_getElem? (i := 44) rfl))) Via.refl e1 Ft (g := (mkF m 19 #[.val (.ref a1), .val (.ref a2), .val (.ref el)] [(.ref a1), (.ref el)])) rfl rfl (hb hby own_djdk_21_13_19)
  obtain ⟨T3, h3, X3, e3, W3, st3⟩ := stR X2 hx hZ e2 Ar (j := (Int32.ofNat as.length)) (inb_of S ⟨hn.2.2.2.1, hn.2.2.2.2.2.1⟩) rfl (Sto.ofV Ar ck Ov I) (g := (mkF m 23 #[.val (.ref a1), .val (.ref a2), .val (.ref el)] [(.ref a2), (.int (Int32.ofNat as.length)), (.ref el)])) rfl rfl (hb hby own_djdk_21_13_23)
  have N3 := Fr.snoc X3 N0 g2
  have sz3 : n0 ≤ h3.size := Nat.le_trans Z0 (Keep.of_wr W3).1
  have Vs := Arv.set Ar ck S Ng Hs Gt (v := .ref a2) rfl W3 as.length hn.2.2.2.2.1 (by simp)
  rw [own_pushL] at Vs
  have Ar2 := Ar.same W3
  have S2 := (sz_set cl ((Int32.ofNat as.length)).toNatClampNeg (.ref a2)).trans S
  have Fe2 := Fe.other W3 (Or.inl ne)
  have Fh2 := Fh.other W3 (Or.inl ne)
  have Ft2 := Ft.other W3 (Or.inl ne)
  have E2 := E.wr W3
  have K2 : Keep h0 h3 [a1, el] := (Keep.refl h0 [a1, el]).wr W3 (Or.inl (List.mem_of_getElem? (i := 1) rfl))
  obtain ⟨T4, X4, e4, st4⟩ := getF X3 hx hZ hown (host := "") (Or.inl (hw _ (List.mem_of_getElem? (i := 42) rfl))) Via.refl e3 Fh2 (g := (mkF m 25 #[.val (.ref a1), .val (.ref a2), .val (.ref el)] [(.ref a1)])) rfl rfl (hb hby own_djdk_21_13_25)
  obtain ⟨T5, X5, e5, st5⟩ := getF X4 hx hZ hown (host := "") (Or.inl (hw _ (List.mem_of_getElem? (i := 44) rfl))) Via.refl e4 Ft2 (g := (mkF m 30 #[.val (.ref a1), .val (.ref a2), .val (.ref el)] [(.ref a1), (.ref a1), (.int (0 : Int32))])) rfl rfl (hb hby own_djdk_21_13_30)
  obtain ⟨_, _, ⟨T6, L6, k6, n6⟩, -, X6, ⟨Lc6, hQ6, l6, y6, z6⟩, st6⟩ := Jvm.LawKit.callS X5 hx (y := (⟨"java/util/ArrayDeque", "inc", "(II)I"⟩ : MethodName)) hown (mvT hZ (hw _ (List.mem_of_getElem? (i := 64) rfl))) (mvT hZ (hw _ (List.mem_of_getElem? (i := 65) rfl))) (mvT hZ (hw _ (List.mem_of_getElem? (i := 11) rfl))) (mvT hZ (hw _ (List.mem_of_getElem? (i := 66) rfl))) (by decide) (backOf (W := 2) (rm_inc l Z a0 hw [] (Int32.ofNat as.length) (17 : Int32) h3 n0 sz3 hn.2.1) hZ (hw _ (List.mem_of_getElem? (i := 66) rfl)) (hw _ (List.mem_of_getElem? (i := 11) rfl)) (by decide) (by decide)) (g := (mkF m 35 #[.val (.ref a1), .val (.ref a2), .val (.ref el)] [(.int (17 : Int32)), (.int (Int32.ofNat as.length)), (.ref a1), (.int (0 : Int32))])) rfl (by rw [hml]; rfl) (argsL := [(.int (Int32.ofNat as.length)), (.int (17 : Int32))]) (rest := [(.ref a1), (.int (0 : Int32))]) (lenOf own_pd1 rfl) rfl (by show 2 * 0 + _ ≤ _; exact Nat.le_of_eq rfl) (hb hby own_djdk_21_13_35) (fun _ _ => ⟨rfl, e5, (by decide : 0 + 0 ≤ _), (by decide : 0 + 0 ≤ _)⟩)
  dsimp only [Pt.U, Pt.locs, Pt.cells, Pt.slots] at X6 l6 y6 z6 st6 hQ6
  rw [l6, y6, z6] at X6
  obtain ⟨rfl, Nq6, e6⟩ := hQ6
  have N6 := Fr.app N3 Nq6
  obtain ⟨T7, h7, X7, e7, W7, st7⟩ := putF X6 hx hZ hown (host := "") (Or.inl (hw _ (List.mem_of_getElem? (i := 44) rfl))) Via.refl e6 Ft2 E2 (Or.inl (hw _ (List.mem_of_getElem? (i := 45) rfl))) (hw _ (List.mem_of_getElem? (i := 10) rfl)) (ty := .int) (by decide) rfl rfl (g := (mkF m 39 #[.val (.ref a1), .val (.ref a2), .val (.ref el)] [(.int ((Int32.ofNat as.length) + (1 : Int32))), (.ref a1), (.int ((Int32.ofNat as.length) + (1 : Int32))), (.int (0 : Int32))])) rfl rfl (hb hby own_djdk_21_13_39)
  have N7 := Fr.snoc X7 N6 g1
  have sz7 : n0 ≤ h7.size := Nat.le_trans sz3 (Keep.of_wr W7).1
  have E3 := E2.wr W7
  have Fe3 := (Fe2.other W7 (Or.inr (slot_ne (Or.inl (hw _ (List.mem_of_getElem? (i := 25) rfl))) (Or.inl (hw _ (List.mem_of_getElem? (i := 45) rfl))) (by decide) (t := (.array (.object "java/lang/Object"))) (t' := .int) (by decide) (by decide))))
  have Fh3 := (Fh2.other W7 (Or.inr (slot_ne (Or.inl (hw _ (List.mem_of_getElem? (i := 43) rfl))) (Or.inl (hw _ (List.mem_of_getElem? (i := 45) rfl))) (by decide) (t := .int) (t' := .int) (by decide) (by decide))))
  have Ft3 := Ft2.same W7
  rw [hn.1] at Ft3
  have V3 := Vs.other W7 ne.symm
  have K3 : Keep h0 h7 [a1, el] := K2.wr W7 (Or.inl (List.mem_of_getElem? (i := 0) rfl))
  obtain ⟨fs, hr, hrun, hended, hW, hsame⟩ := X7.leave (v := none) (fun _ => rfl)
  refine ⟨_, _, pre0 _ ?_, hrun, hended, _, _, rfl, ?_, ⟨_, rfl⟩, hW, hsame.mono (by decide) (by decide)⟩
  · show Steps p.tables e below (s₁.setTop (mkF m 0 #[.val (.ref a1), .val (.ref a2), .unset] [])) _
    refine XS.aloadN X0.here hx rfl (hb hby own_djdk_21_13_0) rfl rfl ?_
    show Steps p.tables e below (s₁.setTop (mkF m 1 #[.val (.ref a1), .val (.ref a2), .unset] [(.ref a2)])) _
    refine XS.ifnonnullYes X0.here hx rfl (pc0 := 1) (pc' := 12) rfl (hb hby own_djdk_21_13_1) rfl (by decide) (by decide) ?_
    show Steps p.tables e below (s₁.setTop (mkF m 12 #[.val (.ref a1), .val (.ref a2), .unset] [])) _
    refine XS.aloadN X0.here hx rfl (hb hby own_djdk_21_13_12) rfl rfl ?_
    show Steps p.tables e below (s₁.setTop (mkF m 13 #[.val (.ref a1), .val (.ref a2), .unset] [(.ref a1)])) _
    refine st1 _ ?_
    show Steps p.tables e below (T1.setTop (mkF m 16 #[.val (.ref a1), .val (.ref a2), .unset] [(.ref el)])) _
    refine XS.astoreN X1.here hx rfl (hb hby own_djdk_21_13_16) rfl rfl (l' := #[.val (.ref a1), .val (.ref a2), .val (.ref el)]) rfl ?_
    show Steps p.tables e below (T1.setTop (mkF m 17 #[.val (.ref a1), .val (.ref a2), .val (.ref el)] [])) _
    refine XS.aloadN X1.here hx rfl (hb hby own_djdk_21_13_17) rfl rfl ?_
    show Steps p.tables e below (T1.setTop (mkF m 18 #[.val (.ref a1), .val (.ref a2), .val (.ref el)] [(.ref el)])) _
    refine XS.aloadN X1.here hx rfl (hb hby own_djdk_21_13_18) rfl rfl ?_
    show Steps p.tables e below (T1.setTop (mkF m 19 #[.val (.ref a1), .val (.ref a2), .val (.ref el)] [(.ref a1), (.ref el)])) _
    refine st2 _ ?_
    show Steps p.tables e below (T2.setTop (mkF m 22 #[.val (.ref a1), .val (.ref a2), .val (.ref el)] [(.int (Int32.ofNat as.length)), (.ref el)])) _
    refine XS.aloadN X2.here hx rfl (hb hby own_djdk_21_13_22) rfl rfl ?_
    show Steps p.tables e below (T2.setTop (mkF m 23 #[.val (.ref a1), .val (.ref a2), .val (.ref el)] [(.ref a2), (.int (Int32.ofNat as.length)), (.ref el)])) _
    refine st3 _ ?_
    show Steps p.tables e below (T3.setTop (mkF m 24 #[.val (.ref a1), .val (.ref a2), .val (.ref el)] [])) _
    refine XS.aloadN X3.here hx rfl (hb hby own_djdk_21_13_24) rfl rfl ?_
    show Steps p.tables e below (T3.setTop (mkF m 25 #[.val (.ref a1), .val (.ref a2), .val (.ref el)] [(.ref a1)])) _
    refine st4 _ ?_
    show Steps p.tables e below (T4.setTop (mkF m 28 #[.val (.ref a1), .val (.ref a2), .val (.ref el)] [(.int (0 : Int32))])) _
    refine XS.aloadN X4.here hx rfl (hb hby own_djdk_21_13_28) rfl rfl ?_
    show Steps p.tables e below (T4.setTop (mkF m 29 #[.val (.ref a1), .val (.ref a2), .val (.ref el)] [(.ref a1), (.int (0 : Int32))])) _
    refine XS.aloadN X4.here hx rfl (hb hby own_djdk_21_13_29) rfl rfl ?_
    show Steps p.tables e below (T4.setTop (mkF m 30 #[.val (.ref a1), .val (.ref a2), .val (.ref el)] [(.ref a1), (.ref a1), (.int (0 : Int32))])) _
    refine st5 _ ?_
    show Steps p.tables e below (T5.setTop (mkF m 33 #[.val (.ref a1), .val (.ref a2), .val (.ref el)] [(.int (Int32.ofNat as.length)), (.ref a1), (.int (0 : Int32))])) _
    refine XS.aloadN X5.here hx rfl (hb hby own_djdk_21_13_33) rfl rfl ?_
    show Steps p.tables e below (T5.setTop (mkF m 34 #[.val (.ref a1), .val (.ref a2), .val (.ref el)] [(.ref el), (.int (Int32.ofNat as.length)), (.ref a1), (.int (0 : Int32))])) _
    refine X5.arraylength hx (by rw [e5]; exact Ar2.1) (State.isArrayOf_alike hZ.alike Ar2.2.1) (g := (mkF m 34 #[.val (.ref a1), .val (.ref a2), .val (.ref el)] [(.ref el), (.int (Int32.ofNat as.length)), (.ref a1), (.int (0 : Int32))])) rfl rfl (hb hby own_djdk_21_13_34) _ ?_
    rw [len_of S2 Ng]
    show Steps p.tables e below (T5.setTop (mkF m 35 #[.val (.ref a1), .val (.ref a2), .val (.ref el)] [(.int (17 : Int32)), (.int (Int32.ofNat as.length)), (.ref a1), (.int (0 : Int32))])) _
    refine st6 _ ?_
    show Steps p.tables e below (T6.setTop (mkF m 38 #[.val (.ref a1), .val (.ref a2), .val (.ref el)] [(.int ((Int32.ofNat as.length) + (1 : Int32))), (.ref a1), (.int (0 : Int32))])) _
    refine XS.dupX1 X6.here hx rfl (hb hby own_djdk_21_13_38) rfl rfl rfl ?_
    show Steps p.tables e below (T6.setTop (mkF m 39 #[.val (.ref a1), .val (.ref a2), .val (.ref el)] [(.int ((Int32.ofNat as.length) + (1 : Int32))), (.ref a1), (.int ((Int32.ofNat as.length) + (1 : Int32))), (.int (0 : Int32))])) _
    refine st7 _ ?_
    show Steps p.tables e below (T7.setTop (mkF m 42 #[.val (.ref a1), .val (.ref a2), .val (.ref el)] [(.int ((Int32.ofNat as.length) + (1 : Int32))), (.int (0 : Int32))])) _
    refine XS.icmpYes X7.here hx rfl (pc0 := 42) (pc' := 50) rfl (hb hby own_djdk_21_13_42) rfl (feq hn.2.2.1).2 (by decide) (by decide) ?_
    show Steps p.tables e below (T7.setTop (mkF m 50 #[.val (.ref a1), .val (.ref a2), .val (.ref el)] [])) _
    exact X7.returnOut hx Bd.returns (hb hby own_djdk_21_13_50) hr
  · show Q_add Z a1 a2 el k as h0 n0 _ T7.heap _
    rw [e7]
    exact ⟨rfl, N7, K3, E3, Fe3, Fh3, Ft3, V3, Ov, g1, g2, ne⟩
theorem own_djdk_21_25_0 : decode jdk_21_method_25_code 0 = .ok (.aload_n 0, 1) := by decide +kernel
theorem own_djdk_21_25_1 : decode jdk_21_method_25_code 1 = .ok (.getfield 3, 3) := by decide +kernel
theorem own_djdk_21_25_4 : decode jdk_21_method_25_code 4 = .ok (.dup, 1) := by decide +kernel
theorem own_djdk_21_25_5 : decode jdk_21_method_25_code 5 = .ok (.astore_n 1, 1) := by decide +kernel
theorem own_djdk_21_25_6 : decode jdk_21_method_25_code 6 = .ok (.aload_n 0, 1) := by decide +kernel
theorem own_djdk_21_25_7 : decode jdk_21_method_25_code 7 = .ok (.getfield 20, 3) := by decide +kernel
theorem own_djdk_21_25_10 : decode jdk_21_method_25_code 10 = .ok (.aload_n 1, 1) := by decide +kernel
theorem own_djdk_21_25_11 : decode jdk_21_method_25_code 11 = .ok (.arraylength, 1) := by decide +kernel
theorem own_djdk_21_25_12 : decode jdk_21_method_25_code 12 = .ok (.invokestatic 68, 3) := by decide +kernel
theorem own_djdk_21_25_15 : decode jdk_21_method_25_code 15 = .ok (.invokestatic 103, 3) := by decide +kernel
theorem own_djdk_21_25_18 : decode jdk_21_method_25_code 18 = .ok (.areturn, 1) := by decide +kernel
theorem own_pd2 : parseMethodDescriptor "([Ljava/lang/Object;I)Ljava/lang/Object;" = some ⟨[(.array (.object "java/lang/Object")), .int], some (.object "java/lang/Object")⟩ := by decide +kernel
theorem own_ef_peek (m : MethodId) (x0 : Addr) : entryFrame m #[(.ref x0)] 2 = mkF m 0 #[.val (.ref x0), .unset] [] := by first | (simp [entryFrame, mkF, argsToLocals, Value.category]; done) | rfl
def Q_peek (Z : State) (a1 : Addr) (f : Addr) (el : Addr) (k : ClassId) (r : List Addr) (h0 : Heap) (n0 : Nat) (v : Option Value) (h : Heap) (L : List Loc) : Prop := v = some (.ref f) ∧ Fr n0 L ∧ h = h0
set_option maxRecDepth 65536 in
set_option maxHeartbeats 40000000 in
theorem rm_peek (l : Launch) (Z : State) (a0 : Array Value) (hw : ∀ d ∈ tables_1, d.before a0 Z = true) (ws : List Jvm.Cond) (a1 : Addr) (f : Addr) (el : Addr) (k : ClassId) (r : List Addr) (h0 : Heap) (n0 : Nat) (Z0 : n0 ≤ h0.size) (D : own_DQ Z h0 a1 el k n0 (f :: r)) (hlen : r.length ≤ 7) :
    MetFree l (⟨"java/util/ArrayDeque", "peekLast", "()Ljava/lang/Object;"⟩ : MethodName) (head1 (Jvm.Cond.code (⟨"java/util/ArrayDeque", "peekLast", "()Ljava/lang/Object;"⟩ : MethodName) jdk_21_method_25_code 2 (some (.object "java/lang/Object")) :: ws) ({ frames := 1, cells := 0, slots := 0, locals := 14 } : Room)) (fun a U => a = #[(.ref a1)] ∧ Z.Warmed39 U.vm ∧ U.heap = h0) (fun _ _ _ _ _ => True) (fun _ U o U' => ∃ v L, o = .returned v ∧ Q_peek Z a1 f el k r h0 n0 v U'.heap L ∧ FrameEnd U o U' L ({ frames := 1, cells := 0, slots := 0, locals := 14 } : Room).cells ({ frames := 1, cells := 0, slots := 0, locals := 14 } : Room).slots) := by
  refine MetFree.of_bodySF (plainFor_of_name own_pn_java_util_ArrayDeque) hisR ?_
  intro p e s m args below meth c s₁ Bd hml0 hP hK
  obtain ⟨rfl, hZ, hh⟩ := hP
  have hx := Bd.exec
  have hby := Bd.bytes
  have hml : c.maxLocals = 2 := hml0
  have hown : s.vm.findClass "java/util/ArrayDeque" = some m.cls := findClass_of_methodNamed Bd.named
  have hnm := (name_of_methodNamed Bd.named Bd.method).1
  have X0 : Stand p l e ({ frames := 1, cells := 0, slots := 0, locals := 14 } : Room) s m #[(.ref a1)] below meth c s₁ [] 0 0 := Stand.of_body Bd
  have e0 : s₁.heap = h0 := by rw [← hh, Bd.state]; rfl
  have N0 := Fr.nil n0
  have pre0 : ∀ t, Steps p.tables e below (s₁.setTop (mkF m 0 #[.val (.ref a1), .unset] [])) t → Steps p.tables e below (s₁.setTop (entryFrame m #[(.ref a1)] 2)) t := fun t k => castTop (own_ef_peek m a1) k
  obtain ⟨E, Fe, Fh, Ft, V, Ov, g1, g2, ne⟩ := D
  have hn := own_num ⟨r.length, by omega⟩
  simp only at hn
  obtain ⟨cl, Ar, ck, S, Ng, Hs, Gt⟩ := V
  have hin := inb_of (j := Int32.ofNat r.length) S ⟨hn.2.2.2.1, hn.2.2.2.2.2.1⟩
  have hat := Hs.at hin (v := .ref f) (by rw [hn.2.2.2.2.1]; exact own_last f r)
  have hdec := hn.2.2.2.2.2.2.1
  obtain ⟨T1, X1, e1, st1⟩ := getF X0 hx hZ hown (host := "") (Or.inl (hw _ (List.mem_of_getElem? (i := 24) rfl))) Via.refl e0 Fe (g := (mkF m 1 #[.val (.ref a1), .unset] [(.ref a1)])) rfl rfl (hb hby own_djdk_21_25_1)
  obtain ⟨T2, X2, e2, st2⟩ := getF X1 hx hZ hown (host := "") (Or.inl (hw _ (List.mem_of_getElem? (i := 44) rfl))) Via.refl e1 Ft (g := (mkF m 7 #[.val (.ref a1), .val (.ref el)] [(.ref a1), (.ref el)])) rfl rfl (hb hby own_djdk_21_25_7)
  obtain ⟨_, _, ⟨T3, L3, k3, n3⟩, -, X3, ⟨Lc3, hQ3, l3, y3, z3⟩, st3⟩ := Jvm.LawKit.callS X2 hx (y := (⟨"java/util/ArrayDeque", "dec", "(II)I"⟩ : MethodName)) hown (mvT hZ (hw _ (List.mem_of_getElem? (i := 86) rfl))) (mvT hZ (hw _ (List.mem_of_getElem? (i := 87) rfl))) (mvT hZ (hw _ (List.mem_of_getElem? (i := 11) rfl))) (mvT hZ (hw _ (List.mem_of_getElem? (i := 88) rfl))) (by decide) (backOf (W := 1) (rm_dec l Z a0 hw [] (Int32.ofNat (r.length + 1)) (17 : Int32) h0 n0 Z0 hn.2.2.2.2.2.2.2.1) hZ (hw _ (List.mem_of_getElem? (i := 88) rfl)) (hw _ (List.mem_of_getElem? (i := 11) rfl)) (by decide) (by decide)) (g := (mkF m 12 #[.val (.ref a1), .val (.ref el)] [(.int (17 : Int32)), (.int (Int32.ofNat (r.length + 1))), (.ref el)])) rfl (by rw [hml]; rfl) (argsL := [(.int (Int32.ofNat (r.length + 1))), (.int (17 : Int32))]) (rest := [(.ref el)]) (lenOf own_pd1 rfl) rfl (by show 2 * 0 + _ ≤ _; exact Nat.le_of_eq rfl) (hb hby own_djdk_21_25_12) (fun _ _ => ⟨rfl, e2, (by decide : 0 + 0 ≤ _), (by decide : 0 + 0 ≤ _)⟩)
  dsimp only [Pt.U, Pt.locs, Pt.cells, Pt.slots] at X3 l3 y3 z3 st3 hQ3
  rw [l3, y3, z3] at X3
  obtain ⟨rfl, Nq3, e3⟩ := hQ3
  have N3 := Fr.app N0 Nq3
  obtain ⟨_, _, ⟨T4, L4, k4, n4⟩, -, X4, ⟨Lc4, hQ4, l4, y4, z4⟩, st4⟩ := Jvm.LawKit.callS X3 hx (y := (⟨"java/util/ArrayDeque", "elementAt", "([Ljava/lang/Object;I)Ljava/lang/Object;"⟩ : MethodName)) hown (mvT hZ (hw _ (List.mem_of_getElem? (i := 89) rfl))) (mvT hZ (hw _ (List.mem_of_getElem? (i := 90) rfl))) (mvT hZ (hw _ (List.mem_of_getElem? (i := 11) rfl))) (mvT hZ (hw _ (List.mem_of_getElem? (i := 91) rfl))) (by decide) (backOf (W := 0) (rm_ela l Z a0 hw [] el (Int32.ofNat r.length) f cl h0 n0 Z0 Ar hin hat) hZ (hw _ (List.mem_of_getElem? (i := 91) rfl)) (hw _ (List.mem_of_getElem? (i := 11) rfl)) (by decide) (by decide)) (g := (mkF m 15 #[.val (.ref a1), .val (.ref el)] [(.int (Int32.ofNat r.length)), (.ref el)])) rfl (by rw [hml]; rfl) (argsL := [(.ref el), (.int (Int32.ofNat r.length))]) (rest := []) (lenOf own_pd2 rfl) rfl (by show 2 * 0 + _ ≤ _; exact Nat.le_of_eq rfl) (hb hby own_djdk_21_25_15) (fun _ _ => ⟨rfl, e3, (by decide : 0 + 0 ≤ _), (by decide : 0 + 0 ≤ _)⟩)
  dsimp only [Pt.U, Pt.locs, Pt.cells, Pt.slots] at X4 l4 y4 z4 st4 hQ4
  rw [l4, y4, z4] at X4
  obtain ⟨rfl, Nq4, e4⟩ := hQ4
  have N4 := Fr.app N3 Nq4
  obtain ⟨fs, hr, hrun, hended, hW, hsame⟩ := X4.leave (v := some (.ref f)) (fun h => by rw [Bd.returns] at h; cases h)
  refine ⟨_, _, pre0 _ ?_, hrun, hended, _, _, rfl, ?_, ⟨_, rfl⟩, hW, hsame.mono (by decide) (by decide)⟩
  · show Steps p.tables e below (s₁.setTop (mkF m 0 #[.val (.ref a1), .unset] [])) _
    refine XS.aloadN X0.here hx rfl (hb hby own_djdk_21_25_0) rfl rfl ?_
    show Steps p.tables e below (s₁.setTop (mkF m 1 #[.val (.ref a1), .unset] [(.ref a1)])) _
    refine st1 _ ?_
    show Steps p.tables e below (T1.setTop (mkF m 4 #[.val (.ref a1), .unset] [(.ref el)])) _
    refine XS.dup X1.here hx rfl (hb hby own_djdk_21_25_4) rfl rfl ?_
    show Steps p.tables e below (T1.setTop (mkF m 5 #[.val (.ref a1), .unset] [(.ref el), (.ref el)])) _
    refine XS.astoreN X1.here hx rfl (hb hby own_djdk_21_25_5) rfl rfl (l' := #[.val (.ref a1), .val (.ref el)]) rfl ?_
    show Steps p.tables e below (T1.setTop (mkF m 6 #[.val (.ref a1), .val (.ref el)] [(.ref el)])) _
    refine XS.aloadN X1.here hx rfl (hb hby own_djdk_21_25_6) rfl rfl ?_
    show Steps p.tables e below (T1.setTop (mkF m 7 #[.val (.ref a1), .val (.ref el)] [(.ref a1), (.ref el)])) _
    refine st2 _ ?_
    show Steps p.tables e below (T2.setTop (mkF m 10 #[.val (.ref a1), .val (.ref el)] [(.int (Int32.ofNat (r.length + 1))), (.ref el)])) _
    refine XS.aloadN X2.here hx rfl (hb hby own_djdk_21_25_10) rfl rfl ?_
    show Steps p.tables e below (T2.setTop (mkF m 11 #[.val (.ref a1), .val (.ref el)] [(.ref el), (.int (Int32.ofNat (r.length + 1))), (.ref el)])) _
    refine X2.arraylength hx (by rw [e2]; exact Ar.1) (State.isArrayOf_alike hZ.alike Ar.2.1) (g := (mkF m 11 #[.val (.ref a1), .val (.ref el)] [(.ref el), (.int (Int32.ofNat (r.length + 1))), (.ref el)])) rfl rfl (hb hby own_djdk_21_25_11) _ ?_
    rw [len_of S Ng]
    show Steps p.tables e below (T2.setTop (mkF m 12 #[.val (.ref a1), .val (.ref el)] [(.int (17 : Int32)), (.int (Int32.ofNat (r.length + 1))), (.ref el)])) _
    refine st3 _ ?_
    show Steps p.tables e below (T3.setTop (mkF m 15 #[.val (.ref a1), .val (.ref el)] [(.int ((Int32.ofNat (r.length + 1)) + (-1 : Int32))), (.ref el)])) _
    rw [hdec]
    show Steps p.tables e below (T3.setTop (mkF m 15 #[.val (.ref a1), .val (.ref el)] [(.int (Int32.ofNat r.length)), (.ref el)])) _
    refine st4 _ ?_
    show Steps p.tables e below (T4.setTop (mkF m 18 #[.val (.ref a1), .val (.ref el)] [(.ref f)])) _
    exact retOut X4 hx Bd.returns rfl (Or.inr (Or.inr (Or.inr (Or.inr ⟨rfl, rfl, rfl⟩)))) (hb hby own_djdk_21_25_18) hr
  · show Q_peek Z a1 f el k r h0 n0 _ T4.heap _
    rw [e4]
    exact ⟨rfl, N4, rfl⟩
theorem own_djdk_21_21_0 : decode jdk_21_method_21_code 0 = .ok (.aload_n 0, 1) := by decide +kernel
theorem own_djdk_21_21_1 : decode jdk_21_method_21_code 1 = .ok (.getfield 3, 3) := by decide +kernel
theorem own_djdk_21_21_4 : decode jdk_21_method_21_code 4 = .ok (.dup, 1) := by decide +kernel
theorem own_djdk_21_21_5 : decode jdk_21_method_21_code 5 = .ok (.astore_n 1, 1) := by decide +kernel
theorem own_djdk_21_21_6 : decode jdk_21_method_21_code 6 = .ok (.aload_n 0, 1) := by decide +kernel
theorem own_djdk_21_21_7 : decode jdk_21_method_21_code 7 = .ok (.getfield 20, 3) := by decide +kernel
theorem own_djdk_21_21_10 : decode jdk_21_method_21_code 10 = .ok (.aload_n 1, 1) := by decide +kernel
theorem own_djdk_21_21_11 : decode jdk_21_method_21_code 11 = .ok (.arraylength, 1) := by decide +kernel
theorem own_djdk_21_21_12 : decode jdk_21_method_21_code 12 = .ok (.invokestatic 68, 3) := by decide +kernel
theorem own_djdk_21_21_15 : decode jdk_21_method_21_code 15 = .ok (.dup, 1) := by decide +kernel
theorem own_djdk_21_21_16 : decode jdk_21_method_21_code 16 = .ok (.istore_n 2, 1) := by decide +kernel
theorem own_djdk_21_21_17 : decode jdk_21_method_21_code 17 = .ok (.invokestatic 103, 3) := by decide +kernel
theorem own_djdk_21_21_20 : decode jdk_21_method_21_code 20 = .ok (.astore_n 3, 1) := by decide +kernel
theorem own_djdk_21_21_21 : decode jdk_21_method_21_code 21 = .ok (.aload_n 3, 1) := by decide +kernel
theorem own_djdk_21_21_22 : decode jdk_21_method_21_code 22 = .ok (.ifnull 12, 3) := by decide +kernel
theorem own_djdk_21_21_25 : decode jdk_21_method_21_code 25 = .ok (.aload_n 1, 1) := by decide +kernel
theorem own_djdk_21_21_26 : decode jdk_21_method_21_code 26 = .ok (.aload_n 0, 1) := by decide +kernel
theorem own_djdk_21_21_27 : decode jdk_21_method_21_code 27 = .ok (.iload_n 2, 1) := by decide +kernel
theorem own_djdk_21_21_28 : decode jdk_21_method_21_code 28 = .ok (.dup_x1, 1) := by decide +kernel
theorem own_djdk_21_21_29 : decode jdk_21_method_21_code 29 = .ok (.putfield 20, 3) := by decide +kernel
theorem own_djdk_21_21_32 : decode jdk_21_method_21_code 32 = .ok (.aconst_null, 1) := by decide +kernel
theorem own_djdk_21_21_33 : decode jdk_21_method_21_code 33 = .ok (.aastore, 1) := by decide +kernel
theorem own_djdk_21_21_34 : decode jdk_21_method_21_code 34 = .ok (.aload_n 3, 1) := by decide +kernel
theorem own_djdk_21_21_35 : decode jdk_21_method_21_code 35 = .ok (.areturn, 1) := by decide +kernel
theorem own_ef_poll (m : MethodId) (x0 : Addr) : entryFrame m #[(.ref x0)] 4 = mkF m 0 #[.val (.ref x0), .unset, .unset, .unset] [] := by first | (simp [entryFrame, mkF, argsToLocals, Value.category]; done) | rfl
def Q_poll (Z : State) (a1 : Addr) (f : Addr) (el : Addr) (k : ClassId) (r : List Addr) (h0 : Heap) (n0 : Nat) (v : Option Value) (h : Heap) (L : List Loc) : Prop := v = some (.ref f) ∧ Fr n0 L ∧ Keep h0 h [a1, el] ∧ own_DQ Z h a1 el k n0 r
set_option maxRecDepth 65536 in
set_option maxHeartbeats 40000000 in
theorem rm_poll (l : Launch) (Z : State) (a0 : Array Value) (hw : ∀ d ∈ tables_1, d.before a0 Z = true) (ws : List Jvm.Cond) (a1 : Addr) (f : Addr) (el : Addr) (k : ClassId) (r : List Addr) (h0 : Heap) (n0 : Nat) (Z0 : n0 ≤ h0.size) (D : own_DQ Z h0 a1 el k n0 (f :: r)) (hlen : r.length ≤ 7) :
    MetFree l (⟨"java/util/ArrayDeque", "pollLast", "()Ljava/lang/Object;"⟩ : MethodName) (head1 (Jvm.Cond.code (⟨"java/util/ArrayDeque", "pollLast", "()Ljava/lang/Object;"⟩ : MethodName) jdk_21_method_21_code 4 (some (.object "java/lang/Object")) :: ws) ({ frames := 1, cells := 0, slots := 0, locals := 14 } : Room)) (fun a U => a = #[(.ref a1)] ∧ Z.Warmed39 U.vm ∧ U.heap = h0) (fun _ _ _ _ _ => True) (fun _ U o U' => ∃ v L, o = .returned v ∧ Q_poll Z a1 f el k r h0 n0 v U'.heap L ∧ FrameEnd U o U' L ({ frames := 1, cells := 0, slots := 0, locals := 14 } : Room).cells ({ frames := 1, cells := 0, slots := 0, locals := 14 } : Room).slots) := by
  refine MetFree.of_bodySF (plainFor_of_name own_pn_java_util_ArrayDeque) hisR ?_
  intro p e s m args below meth c s₁ Bd hml0 hP hK
  obtain ⟨rfl, hZ, hh⟩ := hP
  have hx := Bd.exec
  have hby := Bd.bytes
  have hml : c.maxLocals = 4 := hml0
  have hown : s.vm.findClass "java/util/ArrayDeque" = some m.cls := findClass_of_methodNamed Bd.named
  have hnm := (name_of_methodNamed Bd.named Bd.method).1
  have X0 : Stand p l e ({ frames := 1, cells := 0, slots := 0, locals := 14 } : Room) s m #[(.ref a1)] below meth c s₁ [] 0 0 := Stand.of_body Bd
  have e0 : s₁.heap = h0 := by rw [← hh, Bd.state]; rfl
  have N0 := Fr.nil n0
  have pre0 : ∀ t, Steps p.tables e below (s₁.setTop (mkF m 0 #[.val (.ref a1), .unset, .unset, .unset] [])) t → Steps p.tables e below (s₁.setTop (entryFrame m #[(.ref a1)] 4)) t := fun t k => castTop (own_ef_poll m a1) k
  obtain ⟨E, Fe, Fh, Ft, V, Ov, g1, g2, ne⟩ := D
  have hn := own_num ⟨r.length, by omega⟩
  simp only at hn
  obtain ⟨cl, Ar, ck, S, Ng, Hs, Gt⟩ := V
  have hin := inb_of (j := Int32.ofNat r.length) S ⟨hn.2.2.2.1, hn.2.2.2.2.2.1⟩
  have hat := Hs.at hin (v := .ref f) (by rw [hn.2.2.2.2.1]; exact own_last f r)
  have hdec := hn.2.2.2.2.2.2.1
  obtain ⟨T1, X1, e1, st1⟩ := getF X0 hx hZ hown (host := "") (Or.inl (hw _ (List.mem_of_getElem? (i := 24) rfl))) Via.refl e0 Fe (g := (mkF m 1 #[.val (.ref a1), .unset, .unset, .unset] [(.ref a1)])) rfl rfl (hb hby own_djdk_21_21_1)
  obtain ⟨T2, X2, e2, st2⟩ := getF X1 hx hZ hown (host := "") (Or.inl (hw _ (List.mem_of_getElem? (i := 44) rfl))) Via.refl e1 Ft (g := (mkF m 7 #[.val (.ref a1), .val (.ref el), .unset, .unset] [(.ref a1), (.ref el)])) rfl rfl (hb hby own_djdk_21_21_7)
  obtain ⟨_, _, ⟨T3, L3, k3, n3⟩, -, X3, ⟨Lc3, hQ3, l3, y3, z3⟩, st3⟩ := Jvm.LawKit.callS X2 hx (y := (⟨"java/util/ArrayDeque", "dec", "(II)I"⟩ : MethodName)) hown (mvT hZ (hw _ (List.mem_of_getElem? (i := 86) rfl))) (mvT hZ (hw _ (List.mem_of_getElem? (i := 87) rfl))) (mvT hZ (hw _ (List.mem_of_getElem? (i := 11) rfl))) (mvT hZ (hw _ (List.mem_of_getElem? (i := 88) rfl))) (by decide) (backOf (W := 1) (rm_dec l Z a0 hw [] (Int32.ofNat (r.length + 1)) (17 : Int32) h0 n0 Z0 hn.2.2.2.2.2.2.2.1) hZ (hw _ (List.mem_of_getElem? (i := 88) rfl)) (hw _ (List.mem_of_getElem? (i := 11) rfl)) (by decide) (by decide)) (g := (mkF m 12 #[.val (.ref a1), .val (.ref el), .unset, .unset] [(.int (17 : Int32)), (.int (Int32.ofNat (r.length + 1))), (.ref el)])) rfl (by rw [hml]; rfl) (argsL := [(.int (Int32.ofNat (r.length + 1))), (.int (17 : Int32))]) (rest := [(.ref el)]) (lenOf own_pd1 rfl) rfl (by show 2 * 0 + _ ≤ _; exact Nat.le_of_eq rfl) (hb hby own_djdk_21_21_12) (fun _ _ => ⟨rfl, e2, (by decide : 0 + 0 ≤ _), (by decide : 0 + 0 ≤ _)⟩)
  dsimp only [Pt.U, Pt.locs, Pt.cells, Pt.slots] at X3 l3 y3 z3 st3 hQ3
  rw [l3, y3, z3] at X3
  obtain ⟨rfl, Nq3, e3⟩ := hQ3
  have N3 := Fr.app N0 Nq3
  obtain ⟨_, _, ⟨T4, L4, k4, n4⟩, -, X4, ⟨Lc4, hQ4, l4, y4, z4⟩, st4⟩ := Jvm.LawKit.callS X3 hx (y := (⟨"java/util/ArrayDeque", "elementAt", "([Ljava/lang/Object;I)Ljava/lang/Object;"⟩ : MethodName)) hown (mvT hZ (hw _ (List.mem_of_getElem? (i := 89) rfl))) (mvT hZ (hw _ (List.mem_of_getElem? (i := 90) rfl))) (mvT hZ (hw _ (List.mem_of_getElem? (i := 11) rfl))) (mvT hZ (hw _ (List.mem_of_getElem? (i := 91) rfl))) (by decide) (backOf (W := 0) (rm_ela l Z a0 hw [] el (Int32.ofNat r.length) f cl h0 n0 Z0 Ar hin hat) hZ (hw _ (List.mem_of_getElem? (i := 91) rfl)) (hw _ (List.mem_of_getElem? (i := 11) rfl)) (by decide) (by decide)) (g := (mkF m 17 #[.val (.ref a1), .val (.ref el), .val (.int (Int32.ofNat r.length)), .unset] [(.int (Int32.ofNat r.length)), (.ref el)])) rfl (by rw [hml]; rfl) (argsL := [(.ref el), (.int (Int32.ofNat r.length))]) (rest := []) (lenOf own_pd2 rfl) rfl (by show 2 * 0 + _ ≤ _; exact Nat.le_of_eq rfl) (hb hby own_djdk_21_21_17) (fun _ _ => ⟨rfl, e3, (by decide : 0 + 0 ≤ _), (by decide : 0 + 0 ≤ _)⟩)
  dsimp only [Pt.U, Pt.locs, Pt.cells, Pt.slots] at X4 l4 y4 z4 st4 hQ4
  rw [l4, y4, z4] at X4
  obtain ⟨rfl, Nq4, e4⟩ := hQ4
  have N4 := Fr.app N3 Nq4
  obtain ⟨T5, h5, X5, e5, W5, st5⟩ := putF X4 hx hZ hown (host := "") (Or.inl (hw _ (List.mem_of_getElem? (i := 44) rfl))) Via.refl e4 Ft E (Or.inl (hw _ (List.mem_of_getElem? (i := 45) rfl))) (hw _ (List.mem_of_getElem? (i := 10) rfl)) (ty := .int) (by decide) rfl rfl (g := (mkF m 29 #[.val (.ref a1), .val (.ref el), .val (.int (Int32.ofNat r.length)), .val (.ref f)] [(.int (Int32.ofNat r.length)), (.ref a1), (.int (Int32.ofNat r.length)), (.ref el)])) rfl rfl (hb hby own_djdk_21_21_29)
  have N5 := Fr.snoc X5 N4 g1
  have sz5 : n0 ≤ h5.size := Nat.le_trans Z0 (Keep.of_wr W5).1
  have E2 := E.wr W5
  have Fe2 := (Fe.other W5 (Or.inr (slot_ne (Or.inl (hw _ (List.mem_of_getElem? (i := 25) rfl))) (Or.inl (hw _ (List.mem_of_getElem? (i := 45) rfl))) (by decide) (t := (.array (.object "java/lang/Object"))) (t' := .int) (by decide) (by decide))))
  have Fh2 := (Fh.other W5 (Or.inr (slot_ne (Or.inl (hw _ (List.mem_of_getElem? (i := 43) rfl))) (Or.inl (hw _ (List.mem_of_getElem? (i := 45) rfl))) (by decide) (t := .int) (t' := .int) (by decide) (by decide))))
  have Ft2 := Ft.same W5
  have Ar2 := Ar.other W5 ne.symm
  have K2 : Keep h0 h5 [a1, el] := (Keep.refl h0 [a1, el]).wr W5 (Or.inl (List.mem_of_getElem? (i := 0) rfl))
  obtain ⟨T6, h6, X6, e6, W6, st6⟩ := stR X5 hx hZ e5 Ar2 (j := (Int32.ofNat r.length)) hin rfl (Or.inl rfl) (g := (mkF m 33 #[.val (.ref a1), .val (.ref el), .val (.int (Int32.ofNat r.length)), .val (.ref f)] [.null, (.int (Int32.ofNat r.length)), (.ref el)])) rfl rfl (hb hby own_djdk_21_21_33)
  have N6 := Fr.snoc X6 N5 g2
  have sz6 : n0 ≤ h6.size := Nat.le_trans sz5 (Keep.of_wr W6).1
  have Vs := Arv.set Ar2 ck S Ng Hs Gt (v := .null) rfl W6 r.length hn.2.2.2.2.1 (by simp)
  rw [own_popL] at Vs
  have V3 := Vs.pad (fun i => (pad_rep (r.reverse.map Value.ref) Value.null 1 i).symm)
  have E3 := E2.wr W6
  have Fe3 := Fe2.other W6 (Or.inl ne)
  have Fh3 := Fh2.other W6 (Or.inl ne)
  have Ft3 := Ft2.other W6 (Or.inl ne)
  have K3 : Keep h0 h6 [a1, el] := K2.wr W6 (Or.inl (List.mem_of_getElem? (i := 1) rfl))
  obtain ⟨fs, hr, hrun, hended, hW, hsame⟩ := X6.leave (v := some (.ref f)) (fun h => by rw [Bd.returns] at h; cases h)
  refine ⟨_, _, pre0 _ ?_, hrun, hended, _, _, rfl, ?_, ⟨_, rfl⟩, hW, hsame.mono (by decide) (by decide)⟩
  · show Steps p.tables e below (s₁.setTop (mkF m 0 #[.val (.ref a1), .unset, .unset, .unset] [])) _
    refine XS.aloadN X0.here hx rfl (hb hby own_djdk_21_21_0) rfl rfl ?_
    show Steps p.tables e below (s₁.setTop (mkF m 1 #[.val (.ref a1), .unset, .unset, .unset] [(.ref a1)])) _
    refine st1 _ ?_
    show Steps p.tables e below (T1.setTop (mkF m 4 #[.val (.ref a1), .unset, .unset, .unset] [(.ref el)])) _
    refine XS.dup X1.here hx rfl (hb hby own_djdk_21_21_4) rfl rfl ?_
    show Steps p.tables e below (T1.setTop (mkF m 5 #[.val (.ref a1), .unset, .unset, .unset] [(.ref el), (.ref el)])) _
    refine XS.astoreN X1.here hx rfl (hb hby own_djdk_21_21_5) rfl rfl (l' := #[.val (.ref a1), .val (.ref el), .unset, .unset]) rfl ?_
    show Steps p.tables e below (T1.setTop (mkF m 6 #[.val (.ref a1), .val (.ref el), .unset, .unset] [(.ref el)])) _
    refine XS.aloadN X1.here hx rfl (hb hby own_djdk_21_21_6) rfl rfl ?_
    show Steps p.tables e below (T1.setTop (mkF m 7 #[.val (.ref a1), .val (.ref el), .unset, .unset] [(.ref a1), (.ref el)])) _
    refine st2 _ ?_
    show Steps p.tables e below (T2.setTop (mkF m 10 #[.val (.ref a1), .val (.ref el), .unset, .unset] [(.int (Int32.ofNat (r.length + 1))), (.ref el)])) _
    refine XS.aloadN X2.here hx rfl (hb hby own_djdk_21_21_10) rfl rfl ?_
    show Steps p.tables e below (T2.setTop (mkF m 11 #[.val (.ref a1), .val (.ref el), .unset, .unset] [(.ref el), (.int (Int32.ofNat (r.length + 1))), (.ref el)])) _
    refine X2.arraylength hx (by rw [e2]; exact Ar.1) (State.isArrayOf_alike hZ.alike Ar.2.1) (g := (mkF m 11 #[.val (.ref a1), .val (.ref el), .unset, .unset] [(.ref el), (.int (Int32.ofNat (r.length + 1))), (.ref el)])) rfl rfl (hb hby own_djdk_21_21_11) _ ?_
    rw [len_of S Ng]
    show Steps p.tables e below (T2.setTop (mkF m 12 #[.val (.ref a1), .val (.ref el), .unset, .unset] [(.int (17 : Int32)), (.int (Int32.ofNat (r.length + 1))), (.ref el)])) _
    refine st3 _ ?_
    show Steps p.tables e below (T3.setTop (mkF m 15 #[.val (.ref a1), .val (.ref el), .unset, .unset] [(.int ((Int32.ofNat (r.length + 1)) + (-1 : Int32))), (.ref el)])) _
    rw [hdec]
    show Steps p.tables e below (T3.setTop (mkF m 15 #[.val (.ref a1), .val (.ref el), .unset, .unset] [(.int (Int32.ofNat r.length)), (.ref el)])) _
    refine XS.dup X3.here hx rfl (hb hby own_djdk_21_21_15) rfl rfl ?_
    show Steps p.tables e below (T3.setTop (mkF m 16 #[.val (.ref a1), .val (.ref el), .unset, .unset] [(.int (Int32.ofNat r.length)), (.int (Int32.ofNat r.length)), (.ref el)])) _
    refine XS.istoreN X3.here hx rfl (hb hby own_djdk_21_21_16) rfl (l' := #[.val (.ref a1), .val (.ref el), .val (.int (Int32.ofNat r.length)), .unset]) rfl ?_
    show Steps p.tables e below (T3.setTop (mkF m 17 #[.val (.ref a1), .val (.ref el), .val (.int (Int32.ofNat r.length)), .unset] [(.int (Int32.ofNat r.length)), (.ref el)])) _
    refine st4 _ ?_
    show Steps p.tables e below (T4.setTop (mkF m 20 #[.val (.ref a1), .val (.ref el), .val (.int (Int32.ofNat r.length)), .unset] [(.ref f)])) _
    refine XS.astoreN X4.here hx rfl (hb hby own_djdk_21_21_20) rfl rfl (l' := #[.val (.ref a1), .val (.ref el), .val (.int (Int32.ofNat r.length)), .val (.ref f)]) rfl ?_
    show Steps p.tables e below (T4.setTop (mkF m 21 #[.val (.ref a1), .val (.ref el), .val (.int (Int32.ofNat r.length)), .val (.ref f)] [])) _
    refine XS.aloadN X4.here hx rfl (hb hby own_djdk_21_21_21) rfl rfl ?_
    show Steps p.tables e below (T4.setTop (mkF m 22 #[.val (.ref a1), .val (.ref el), .val (.int (Int32.ofNat r.length)), .val (.ref f)] [(.ref f)])) _
    refine XS.ifnullNo X4.here hx rfl (hb hby own_djdk_21_21_22) rfl ?_
    show Steps p.tables e below (T4.setTop (mkF m 25 #[.val (.ref a1), .val (.ref el), .val (.int (Int32.ofNat r.length)), .val (.ref f)] [])) _
    refine XS.aloadN X4.here hx rfl (hb hby own_djdk_21_21_25) rfl rfl ?_
    show Steps p.tables e below (T4.setTop (mkF m 26 #[.val (.ref a1), .val (.ref el), .val (.int (Int32.ofNat r.length)), .val (.ref f)] [(.ref el)])) _
    refine XS.aloadN X4.here hx rfl (hb hby own_djdk_21_21_26) rfl rfl ?_
    show Steps p.tables e below (T4.setTop (mkF m 27 #[.val (.ref a1), .val (.ref el), .val (.int (Int32.ofNat r.length)), .val (.ref f)] [(.ref a1), (.ref el)])) _
    refine XS.iloadN X4.here hx rfl (hb hby own_djdk_21_21_27) rfl ?_
    show Steps p.tables e below (T4.setTop (mkF m 28 #[.val (.ref a1), .val (.ref el), .val (.int (Int32.ofNat r.length)), .val (.ref f)] [(.int (Int32.ofNat r.length)), (.ref a1), (.ref el)])) _
    refine XS.dupX1 X4.here hx rfl (hb hby own_djdk_21_21_28) rfl rfl rfl ?_
    show Steps p.tables e below (T4.setTop (mkF m 29 #[.val (.ref a1), .val (.ref el), .val (.int (Int32.ofNat r.length)), .val (.ref f)] [(.int (Int32.ofNat r.length)), (.ref a1), (.int (Int32.ofNat r.length)), (.ref el)])) _
    refine st5 _ ?_
    show Steps p.tables e below (T5.setTop (mkF m 32 #[.val (.ref a1), .val (.ref el), .val (.int (Int32.ofNat r.length)), .val (.ref f)] [(.int (Int32.ofNat r.length)), (.ref el)])) _
    refine XS.aconstNull X5.here hx rfl (hb hby own_djdk_21_21_32) ?_
    show Steps p.tables e below (T5.setTop (mkF m 33 #[.val (.ref a1), .val (.ref el), .val (.int (Int32.ofNat r.length)), .val (.ref f)] [.null, (.int (Int32.ofNat r.length)), (.ref el)])) _
    refine st6 _ ?_
    show Steps p.tables e below (T6.setTop (mkF m 34 #[.val (.ref a1), .val (.ref el), .val (.int (Int32.ofNat r.length)), .val (.ref f)] [])) _
    refine XS.aloadN X6.here hx rfl (hb hby own_djdk_21_21_34) rfl rfl ?_
    show Steps p.tables e below (T6.setTop (mkF m 35 #[.val (.ref a1), .val (.ref el), .val (.int (Int32.ofNat r.length)), .val (.ref f)] [(.ref f)])) _
    exact retOut X6 hx Bd.returns rfl (Or.inr (Or.inr (Or.inr (Or.inr ⟨rfl, rfl, rfl⟩)))) (hb hby own_djdk_21_21_35) hr
  · show Q_poll Z a1 f el k r h0 n0 _ T6.heap _
    rw [e6]
    exact ⟨rfl, N6, K3, E3, Fe3, Fh3, Ft3, V3, Ov, g1, g2, ne⟩
theorem own_djdk_21_19_0 : decode jdk_21_method_19_code 0 = .ok (.aload_n 0, 1) := by decide +kernel
theorem own_djdk_21_19_1 : decode jdk_21_method_19_code 1 = .ok (.invokevirtual 100, 3) := by decide +kernel
theorem own_djdk_21_19_4 : decode jdk_21_method_19_code 4 = .ok (.astore_n 1, 1) := by decide +kernel
theorem own_djdk_21_19_5 : decode jdk_21_method_19_code 5 = .ok (.aload_n 1, 1) := by decide +kernel
theorem own_djdk_21_19_6 : decode jdk_21_method_19_code 6 = .ok (.ifnonnull 11, 3) := by decide +kernel
theorem own_djdk_21_19_17 : decode jdk_21_method_19_code 17 = .ok (.aload_n 1, 1) := by decide +kernel
theorem own_djdk_21_19_18 : decode jdk_21_method_19_code 18 = .ok (.areturn, 1) := by decide +kernel
theorem own_pd3 : parseMethodDescriptor "()Ljava/lang/Object;" = some ⟨[], some (.object "java/lang/Object")⟩ := by decide +kernel
theorem own_ef_rem (m : MethodId) (x0 : Addr) : entryFrame m #[(.ref x0)] 2 = mkF m 0 #[.val (.ref x0), .unset] [] := by first | (simp [entryFrame, mkF, argsToLocals, Value.category]; done) | rfl
def Q_rem (Z : State) (a1 : Addr) (f : Addr) (el : Addr) (k : ClassId) (r : List Addr) (h0 : Heap) (n0 : Nat) (v : Option Value) (h : Heap) (L : List Loc) : Prop := v = some (.ref f) ∧ Fr n0 L ∧ Keep h0 h [a1, el] ∧ own_DQ Z h a1 el k n0 r
set_option maxRecDepth 65536 in
set_option maxHeartbeats 40000000 in
theorem rm_rem (l : Launch) (Z : State) (a0 : Array Value) (hw : ∀ d ∈ tables_1, d.before a0 Z = true) (ws : List Jvm.Cond) (a1 : Addr) (f : Addr) (el : Addr) (k : ClassId) (r : List Addr) (h0 : Heap) (n0 : Nat) (Z0 : n0 ≤ h0.size) (D : own_DQ Z h0 a1 el k n0 (f :: r)) (hlen : r.length ≤ 7) :
    MetFree l (⟨"java/util/ArrayDeque", "removeLast", "()Ljava/lang/Object;"⟩ : MethodName) (head1 (Jvm.Cond.code (⟨"java/util/ArrayDeque", "removeLast", "()Ljava/lang/Object;"⟩ : MethodName) jdk_21_method_19_code 2 (some (.object "java/lang/Object")) :: ws) ({ frames := 2, cells := 0, slots := 0, locals := 29 } : Room)) (fun a U => a = #[(.ref a1)] ∧ Z.Warmed39 U.vm ∧ U.heap = h0) (fun _ _ _ _ _ => True) (fun _ U o U' => ∃ v L, o = .returned v ∧ Q_rem Z a1 f el k r h0 n0 v U'.heap L ∧ FrameEnd U o U' L ({ frames := 2, cells := 0, slots := 0, locals := 29 } : Room).cells ({ frames := 2, cells := 0, slots := 0, locals := 29 } : Room).slots) := by
  refine MetFree.of_bodySF (plainFor_of_name own_pn_java_util_ArrayDeque) hisR ?_
  intro p e s m args below meth c s₁ Bd hml0 hP hK
  obtain ⟨rfl, hZ, hh⟩ := hP
  have hx := Bd.exec
  have hby := Bd.bytes
  have hml : c.maxLocals = 2 := hml0
  have hown : s.vm.findClass "java/util/ArrayDeque" = some m.cls := findClass_of_methodNamed Bd.named
  have hnm := (name_of_methodNamed Bd.named Bd.method).1
  have X0 : Stand p l e ({ frames := 2, cells := 0, slots := 0, locals := 29 } : Room) s m #[(.ref a1)] below meth c s₁ [] 0 0 := Stand.of_body Bd
  have e0 : s₁.heap = h0 := by rw [← hh, Bd.state]; rfl
  have N0 := Fr.nil n0
  have pre0 : ∀ t, Steps p.tables e below (s₁.setTop (mkF m 0 #[.val (.ref a1), .unset] [])) t → Steps p.tables e below (s₁.setTop (entryFrame m #[(.ref a1)] 2)) t := fun t k => castTop (own_ef_rem m a1) k
  obtain ⟨cq1, kq1, q1a, q1b, q1c⟩ := isOf hZ e0 (D.1)
  obtain ⟨_, _, ⟨T1, L1, k1, n1⟩, -, X1, ⟨Lc1, hQ1, l1, y1, z1⟩, st1⟩ := X0.virtualBack hx (y := (⟨"java/util/ArrayDeque", "pollLast", "()Ljava/lang/Object;"⟩ : MethodName)) (z := (⟨"java/util/ArrayDeque", "pollLast", "()Ljava/lang/Object;"⟩ : MethodName)) hown (mvT hZ (hw _ (List.mem_of_getElem? (i := 122) rfl))) (mvT hZ (hw _ (List.mem_of_getElem? (i := 123) rfl))) (notFace_of_selects (args := #[]) (mvT hZ (hw _ (List.mem_of_getElem? (i := 125) rfl)))) (mvT hZ (hw _ (List.mem_of_getElem? (i := 125) rfl))) (mvT hZ (hw _ (List.mem_of_getElem? (i := 124) rfl))) (by decide) (backOf (W := 0) (rm_poll l Z a0 hw [] a1 f el k r h0 n0 Z0 D hlen) hZ (hw _ (List.mem_of_getElem? (i := 126) rfl)) (hw _ (List.mem_of_getElem? (i := 11) rfl)) (by decide) (by decide)) q1a q1c (g := (mkF m 1 #[.val (.ref a1), .unset] [(.ref a1)])) rfl (by rw [hml]; rfl) (Steps.refl _) (argsL := []) (rest := []) (lenOf own_pd3 rfl) rfl (by show 2 * 0 + _ ≤ _; exact Nat.le_of_eq rfl) (hb hby own_djdk_21_19_1) (fun _ _ => ⟨rfl, e0, (by decide : 0 + 0 ≤ _), (by decide : 0 + 0 ≤ _)⟩)
  dsimp only [Pt.U, Pt.locs, Pt.cells, Pt.slots] at X1 l1 y1 z1 st1 hQ1
  rw [l1, y1, z1] at X1
  obtain ⟨rfl, Nq1, K1, D1⟩ := hQ1
  have sz1 : n0 ≤ T1.heap.size := Nat.le_trans Z0 K1.1
  have N1 := Fr.app N0 Nq1
  obtain ⟨fs, hr, hrun, hended, hW, hsame⟩ := X1.leave (v := some (.ref f)) (fun h => by rw [Bd.returns] at h; cases h)
  refine ⟨_, _, pre0 _ ?_, hrun, hended, _, _, rfl, ?_, ⟨_, rfl⟩, hW, hsame.mono (by decide) (by decide)⟩
  · show Steps p.tables e below (s₁.setTop (mkF m 0 #[.val (.ref a1), .unset] [])) _
    refine XS.aloadN X0.here hx rfl (hb hby own_djdk_21_19_0) rfl rfl ?_
    show Steps p.tables e below (s₁.setTop (mkF m 1 #[.val (.ref a1), .unset] [(.ref a1)])) _
    refine st1.trans ?_
    show Steps p.tables e below (T1.setTop (mkF m 4 #[.val (.ref a1), .unset] [(.ref f)])) _
    refine XS.astoreN X1.here hx rfl (hb hby own_djdk_21_19_4) rfl rfl (l' := #[.val (.ref a1), .val (.ref f)]) rfl ?_
    show Steps p.tables e below (T1.setTop (mkF m 5 #[.val (.ref a1), .val (.ref f)] [])) _
    refine XS.aloadN X1.here hx rfl (hb hby own_djdk_21_19_5) rfl rfl ?_
    show Steps p.tables e below (T1.setTop (mkF m 6 #[.val (.ref a1), .val (.ref f)] [(.ref f)])) _
    refine XS.ifnonnullYes X1.here hx rfl (pc0 := 6) (pc' := 17) rfl (hb hby own_djdk_21_19_6) rfl (by decide) (by decide) ?_
    show Steps p.tables e below (T1.setTop (mkF m 17 #[.val (.ref a1), .val (.ref f)] [])) _
    refine XS.aloadN X1.here hx rfl (hb hby own_djdk_21_19_17) rfl rfl ?_
    show Steps p.tables e below (T1.setTop (mkF m 18 #[.val (.ref a1), .val (.ref f)] [(.ref f)])) _
    exact retOut X1 hx Bd.returns rfl (Or.inr (Or.inr (Or.inr (Or.inr ⟨rfl, rfl, rfl⟩)))) (hb hby own_djdk_21_19_18) hr
  · show Q_rem Z a1 f el k r h0 n0 _ T1.heap _
    exact ⟨rfl, N1, K1, D1⟩
theorem own_dprog_31_1_0 : decode prog_31_method_1_code 0 = .ok (.aload_n 0, 1) := by decide +kernel
theorem own_dprog_31_1_1 : decode prog_31_method_1_code 1 = .ok (.invokespecial 1, 3) := by decide +kernel
theorem own_dprog_31_1_4 : decode prog_31_method_1_code 4 = .ok (.aload_n 0, 1) := by decide +kernel
theorem own_dprog_31_1_5 : decode prog_31_method_1_code 5 = .ok (.new 7, 3) := by decide +kernel
theorem own_dprog_31_1_8 : decode prog_31_method_1_code 8 = .ok (.dup, 1) := by decide +kernel
theorem own_dprog_31_1_9 : decode prog_31_method_1_code 9 = .ok (.invokespecial 9, 3) := by decide +kernel
theorem own_dprog_31_1_12 : decode prog_31_method_1_code 12 = .ok (.putfield 10, 3) := by decide +kernel
theorem own_dprog_31_1_15 : decode prog_31_method_1_code 15 = .ok (.return_, 1) := by decide +kernel
theorem own_pn_com_example_gabarit_gabarit_shacl_DescriptionOrder : plainName "com/example/gabarit/gabarit/shacl/DescriptionOrder" = true := by first | (simp [plainName, overriddenIn]; done) | decide +kernel
theorem own_ef_do (m : MethodId) (x0 : Addr) : entryFrame m #[(.ref x0)] 1 = mkF m 0 #[.val (.ref x0)] [] := by first | (simp [entryFrame, mkF, argsToLocals, Value.category]; done) | rfl
def Q_do (Z : State) (a1 : Addr) (u1 : Value) (h0 : Heap) (n0 : Nat) (v : Option Value) (h : Heap) (L : List Loc) : Prop := v = none ∧ Fr n0 L ∧ Keep h0 h [a1] ∧ ∃ (q el : Addr) (k : ClassId), own_DO Z h a1 q el k n0 [] false 0
set_option maxRecDepth 65536 in
set_option maxHeartbeats 40000000 in
theorem rm_do (l : Launch) (Z : State) (a0 : Array Value) (hw : ∀ d ∈ tables_1, d.before a0 Z = true) (ws : List Jvm.Cond) (a1 : Addr) (u1 : Value) (h0 : Heap) (n0 : Nat) (Z0 : n0 ≤ h0.size) (E : Exa Z h0 a1 "com/example/gabarit/gabarit/shacl/DescriptionOrder") (F1 : Fld Z h0 a1 "com/example/gabarit/gabarit/shacl/DescriptionOrder" "open" "Ljava/util/Deque;" u1) (F2 : Fld Z h0 a1 "com/example/gabarit/gabarit/shacl/DescriptionOrder" "valueDue" "Z" (.int 0)) (F3 : Fld Z h0 a1 "com/example/gabarit/gabarit/shacl/DescriptionOrder" "blankNodesOpen" "I" (.int 0)) (g : n0 ≤ a1) :
    MetFree l (⟨"com/example/gabarit/gabarit/shacl/DescriptionOrder", "<init>", "()V"⟩ : MethodName) (head1 (Jvm.Cond.code (⟨"com/example/gabarit/gabarit/shacl/DescriptionOrder", "<init>", "()V"⟩ : MethodName) prog_31_method_1_code 1 none :: ws) ({ frames := 3, cells := 2, slots := 20, locals := 38 } : Room)) (fun a U => a = #[(.ref a1)] ∧ Z.Warmed39 U.vm ∧ U.heap = h0) (fun _ _ _ _ _ => True) (fun _ U o U' => ∃ v L, o = .returned v ∧ Q_do Z a1 u1 h0 n0 v U'.heap L ∧ FrameEnd U o U' L ({ frames := 3, cells := 2, slots := 20, locals := 38 } : Room).cells ({ frames := 3, cells := 2, slots := 20, locals := 38 } : Room).slots) := by
  refine MetFree.of_bodySF (plainFor_of_name own_pn_com_example_gabarit_gabarit_shacl_DescriptionOrder) hisR ?_
  intro p e s m args below meth c s₁ Bd hml0 hP hK
  obtain ⟨rfl, hZ, hh⟩ := hP
  have hx := Bd.exec
  have hby := Bd.bytes
  have hml : c.maxLocals = 1 := hml0
  have hown : s.vm.findClass "com/example/gabarit/gabarit/shacl/DescriptionOrder" = some m.cls := findClass_of_methodNamed Bd.named
  have hnm := (name_of_methodNamed Bd.named Bd.method).1
  have X0 : Stand p l e ({ frames := 3, cells := 2, slots := 20, locals := 38 } : Room) s m #[(.ref a1)] below meth c s₁ [] 0 0 := Stand.of_body Bd
  have e0 : s₁.heap = h0 := by rw [← hh, Bd.state]; rfl
  have N0 := Fr.nil n0
  have pre0 : ∀ t, Steps p.tables e below (s₁.setTop (mkF m 0 #[.val (.ref a1)] [])) t → Steps p.tables e below (s₁.setTop (entryFrame m #[(.ref a1)] 1)) t := fun t k => castTop (own_ef_do m a1) k
  obtain ⟨T1, X1, e1, st1⟩ := initO X0 hx hZ hown (hw _ (List.mem_of_getElem? (i := 6) rfl)) (hw _ (List.mem_of_getElem? (i := 7) rfl)) (hw _ (List.mem_of_getElem? (i := 8) rfl)) e0 (g := (mkF m 1 #[.val (.ref a1)] [(.ref a1)])) rfl (by rw [hml]; rfl) rfl (hb hby own_dprog_31_1_1) (by decide) (W := 0) (by show 2 * 0 + _ ≤ _; exact Nat.le_of_eq rfl) (by decide)
  obtain ⟨T2, h2, X2, e2, E2, A2, D2, -, st2⟩ := newO X1 hx hZ hown (hw _ (List.mem_of_getElem? (i := 9) rfl)) (hw _ (List.mem_of_getElem? (i := 10) rfl)) (hw _ (List.mem_of_getElem? (i := 11) rfl)) e1 (g := (mkF m 5 #[.val (.ref a1)] [(.ref a1)])) rfl (hb hby own_dprog_31_1_5) (by decide) (by decide)
  obtain ⟨b, g2⟩ : ∃ z, z = h0.size := ⟨_, rfl⟩
  rw [← g2] at A2 D2 st2
  have gn_b : n0 ≤ b := Nat.le_trans Z0 (Nat.le_of_eq g2.symm)
  have sz2 : n0 ≤ h2.size := Nat.le_trans Z0 E2.1
  have Xe1 := E2
  have ze1 := g2
  have E_b := A2
  have G1 := D2 (Or.inl (hw _ (List.mem_of_getElem? (i := 25) rfl))) (ty := .array (.object "java/lang/Object")) (by decide)
  have G2 := D2 (Or.inl (hw _ (List.mem_of_getElem? (i := 43) rfl))) (ty := .int) (by decide)
  have G3 := D2 (Or.inl (hw _ (List.mem_of_getElem? (i := 45) rfl))) (ty := .int) (by decide)
  have ne1 : a1 ≠ b := Nat.ne_of_lt (Nat.lt_of_lt_of_le E.lt (Nat.le_of_eq ze1.symm))
  obtain ⟨_, _, ⟨T3, L3, k3, n3⟩, -, X3, ⟨Lc3, hQ3, l3, y3, z3⟩, st3⟩ := X2.specialBack hx (y := (⟨"java/util/ArrayDeque", "<init>", "()V"⟩ : MethodName)) rfl hown (mvT hZ (hw _ (List.mem_of_getElem? (i := 12) rfl))) (mvT hZ (hw _ (List.mem_of_getElem? (i := 13) rfl))) (mvT hZ (hw _ (List.mem_of_getElem? (i := 14) rfl))) (by decide) (backOf (W := 2) (rm_adi l Z a0 hw [] b _ h2 n0 sz2 E_b G1 G2 G3 gn_b) hZ (hw _ (List.mem_of_getElem? (i := 14) rfl)) (hw _ (List.mem_of_getElem? (i := 11) rfl)) (by decide) (by decide)) (g := (mkF m 9 #[.val (.ref a1)] [(.ref b), (.ref b), (.ref a1)])) rfl (by rw [hml]; rfl) (Steps.refl _) (a := b) (argsL := []) (rest := [(.ref b), (.ref a1)]) (lenOf own_pd0 rfl) rfl (by show 2 * 0 + _ ≤ _; exact Nat.le_of_eq rfl) (hb hby own_dprog_31_1_9) (fun _ _ => ⟨rfl, e2, (by decide : 1 + 1 ≤ _), (by decide : 3 + 17 ≤ _)⟩)
  dsimp only [Pt.U, Pt.locs, Pt.cells, Pt.slots] at X3 l3 y3 z3 st3 hQ3
  rw [l3, y3, z3] at X3
  obtain ⟨rfl, Nq3, K1, el, k, ge, DQ⟩ := hQ3
  have sz3 : n0 ≤ T3.heap.size := Nat.le_trans sz2 K1.1
  have N3 := Fr.app N0 Nq3
  have Ea := (E.ext Xe1).keep K1
  have F1a := (F1.ext Xe1).keep K1 (ninS ne1 nin0)
  have F2a := (F2.ext Xe1).keep K1 (ninS ne1 nin0)
  have F3a := (F3.ext Xe1).keep K1 (ninS ne1 nin0)
  have ne2 : a1 ≠ el := Nat.ne_of_lt (Nat.lt_of_lt_of_le (E.ext Xe1).lt ge)
  have Ka : Keep h0 T3.heap [a1] := ((Keep.refl h0 [a1]).ext Xe1).trans K1 (fun x hx => Or.inr (by cases List.mem_singleton.mp hx; exact Nat.le_of_eq ze1.symm))
  obtain ⟨T4, h4, X4, e4, W4, st4⟩ := putF X3 hx hZ hown (host := "") (Or.inl (hw _ (List.mem_of_getElem? (i := 26) rfl))) Via.refl rfl F1a Ea (Or.inr ⟨(hw _ (List.mem_of_getElem? (i := 27) rfl)), rfl, hnm⟩) (hw _ (List.mem_of_getElem? (i := 1) rfl)) (ty := (.object "java/util/Deque")) (by decide) rfl rfl (g := (mkF m 12 #[.val (.ref a1)] [(.ref b), (.ref a1)])) rfl rfl (hb hby own_dprog_31_1_12)
  have N4 := Fr.snoc X4 N3 g
  have sz4 : n0 ≤ h4.size := Nat.le_trans sz3 (Keep.of_wr W4).1
  have Eb := Ea.wr W4
  have F1b := F1a.same W4
  have F2b := (F2a.other W4 (Or.inr (slot_ne (Or.inl (hw _ (List.mem_of_getElem? (i := 95) rfl))) (Or.inr (hw _ (List.mem_of_getElem? (i := 27) rfl))) (by decide) (t := .boolean) (t' := (.object "java/util/Deque")) (by decide) (by decide))))
  have F3b := (F3a.other W4 (Or.inr (slot_ne (Or.inl (hw _ (List.mem_of_getElem? (i := 68) rfl))) (Or.inr (hw _ (List.mem_of_getElem? (i := 27) rfl))) (by decide) (t := .int) (t' := (.object "java/util/Deque")) (by decide) (by decide))))
  have DQ2 := own_DQ_keep DQ (Keep.of_wr W4) (ninS ne1.symm nin0) (ninS ne2.symm nin0)
  have Kb : Keep h0 h4 [a1] := Ka.wr W4 (Or.inl (List.mem_of_getElem? (i := 0) rfl))
  obtain ⟨fs, hr, hrun, hended, hW, hsame⟩ := X4.leave (v := none) (fun _ => rfl)
  refine ⟨_, _, pre0 _ ?_, hrun, hended, _, _, rfl, ?_, ⟨_, rfl⟩, hW, hsame.mono (by decide) (by decide)⟩
  · show Steps p.tables e below (s₁.setTop (mkF m 0 #[.val (.ref a1)] [])) _
    refine XS.aloadN X0.here hx rfl (hb hby own_dprog_31_1_0) rfl rfl ?_
    show Steps p.tables e below (s₁.setTop (mkF m 1 #[.val (.ref a1)] [(.ref a1)])) _
    refine st1 _ ?_
    show Steps p.tables e below (T1.setTop (mkF m 4 #[.val (.ref a1)] [])) _
    refine XS.aloadN X1.here hx rfl (hb hby own_dprog_31_1_4) rfl rfl ?_
    show Steps p.tables e below (T1.setTop (mkF m 5 #[.val (.ref a1)] [(.ref a1)])) _
    refine st2 _ ?_
    show Steps p.tables e below (T2.setTop (mkF m 8 #[.val (.ref a1)] [(.ref b), (.ref a1)])) _
    refine XS.dup X2.here hx rfl (hb hby own_dprog_31_1_8) rfl rfl ?_
    show Steps p.tables e below (T2.setTop (mkF m 9 #[.val (.ref a1)] [(.ref b), (.ref b), (.ref a1)])) _
    refine st3.trans ?_
    show Steps p.tables e below (T3.setTop (mkF m 12 #[.val (.ref a1)] [(.ref b), (.ref a1)])) _
    refine st4 _ ?_
    show Steps p.tables e below (T4.setTop (mkF m 15 #[.val (.ref a1)] [])) _
    exact X4.returnOut hx Bd.returns (hb hby own_dprog_31_1_15) hr
  · show Q_do Z a1 u1 h0 n0 _ T4.heap _
    rw [e4]
    exact ⟨rfl, N4, Kb, b, el, k, Eb, F1b, F2b, F3b, g, DQ2, trivial, ne1, ne2, (fun _ q => nomatch q)⟩
theorem own_dprog_31_10_0 : decode prog_31_method_10_code 0 = .ok (.aload_n 0, 1) := by decide +kernel
theorem own_dprog_31_10_1 : decode prog_31_method_10_code 1 = .ok (.getfield 10, 3) := by decide +kernel
theorem own_dprog_31_10_4 : decode prog_31_method_10_code 4 = .ok (.invokeinterface 69 1, 5) := by decide +kernel
theorem own_dprog_31_10_9 : decode prog_31_method_10_code 9 = .ok (.checkcast 25, 3) := by decide +kernel
theorem own_dprog_31_10_12 : decode prog_31_method_10_code 12 = .ok (.astore_n 1, 1) := by decide +kernel
theorem own_dprog_31_10_13 : decode prog_31_method_10_code 13 = .ok (.aload_n 1, 1) := by decide +kernel
theorem own_dprog_31_10_14 : decode prog_31_method_10_code 14 = .ok (.ifnonnull 13, 3) := by decide +kernel
theorem own_dprog_31_10_27 : decode prog_31_method_10_code 27 = .ok (.aload_n 1, 1) := by decide +kernel
theorem own_dprog_31_10_28 : decode prog_31_method_10_code 28 = .ok (.areturn, 1) := by decide +kernel
theorem own_ef_inn (m : MethodId) (x0 : Addr) : entryFrame m #[(.ref x0)] 2 = mkF m 0 #[.val (.ref x0), .unset] [] := by first | (simp [entryFrame, mkF, argsToLocals, Value.category]; done) | rfl
def Q_inn (Z : State) (a1 : Addr) (q : Addr) (el : Addr) (k : ClassId) (f : Addr) (lb : Bool) (sb : Bool) (r : List (Addr × Bool × Bool)) (due : Bool) (cnt : Int32) (h0 : Heap) (n0 : Nat) (v : Option Value) (h : Heap) (L : List Loc) : Prop := v = some (.ref f) ∧ Fr n0 L ∧ h = h0
set_option maxRecDepth 65536 in
set_option maxHeartbeats 40000000 in
theorem rm_inn (l : Launch) (Z : State) (a0 : Array Value) (hw : ∀ d ∈ tables_1, d.before a0 Z = true) (ws : List Jvm.Cond) (a1 : Addr) (q : Addr) (el : Addr) (k : ClassId) (f : Addr) (lb : Bool) (sb : Bool) (r : List (Addr × Bool × Bool)) (due : Bool) (cnt : Int32) (h0 : Heap) (n0 : Nat) (Z0 : n0 ≤ h0.size) (D : own_DO Z h0 a1 q el k n0 ((f, lb, sb) :: r) due cnt) (hlen : r.length ≤ 7) :
    MetFree l (⟨"com/example/gabarit/gabarit/shacl/DescriptionOrder", "innermost", "()Lcom/example/gabarit/gabarit/shacl/DescriptionOrder$Frame;"⟩ : MethodName) (head1 (Jvm.Cond.code (⟨"com/example/gabarit/gabarit/shacl/DescriptionOrder", "innermost", "()Lcom/example/gabarit/gabarit/shacl/DescriptionOrder$Frame;"⟩ : MethodName) prog_31_method_10_code 2 (some (.object "com/example/gabarit/gabarit/shacl/DescriptionOrder$Frame")) :: ws) ({ frames := 2, cells := 0, slots := 0, locals := 27 } : Room)) (fun a U => a = #[(.ref a1)] ∧ Z.Warmed39 U.vm ∧ U.heap = h0) (fun _ _ _ _ _ => True) (fun _ U o U' => ∃ v L, o = .returned v ∧ Q_inn Z a1 q el k f lb sb r due cnt h0 n0 v U'.heap L ∧ FrameEnd U o U' L ({ frames := 2, cells := 0, slots := 0, locals := 27 } : Room).cells ({ frames := 2, cells := 0, slots := 0, locals := 27 } : Room).slots) := by
  refine MetFree.of_bodySF (plainFor_of_name own_pn_com_example_gabarit_gabarit_shacl_DescriptionOrder) hisR ?_
  intro p e s m args below meth c s₁ Bd hml0 hP hK
  obtain ⟨rfl, hZ, hh⟩ := hP
  have hx := Bd.exec
  have hby := Bd.bytes
  have hml : c.maxLocals = 2 := hml0
  have hown : s.vm.findClass "com/example/gabarit/gabarit/shacl/DescriptionOrder" = some m.cls := findClass_of_methodNamed Bd.named
  have hnm := (name_of_methodNamed Bd.named Bd.method).1
  have X0 : Stand p l e ({ frames := 2, cells := 0, slots := 0, locals := 27 } : Room) s m #[(.ref a1)] below meth c s₁ [] 0 0 := Stand.of_body Bd
  have e0 : s₁.heap = h0 := by rw [← hh, Bd.state]; rfl
  have N0 := Fr.nil n0
  have pre0 : ∀ t, Steps p.tables e below (s₁.setTop (mkF m 0 #[.val (.ref a1), .unset] [])) t → Steps p.tables e below (s₁.setTop (entryFrame m #[(.ref a1)] 2)) t := fun t k => castTop (own_ef_inn m a1) k
  obtain ⟨T1, X1, e1, st1⟩ := getF X0 hx hZ hown (host := "") (Or.inl (hw _ (List.mem_of_getElem? (i := 26) rfl))) Via.refl e0 D.2.1 (g := (mkF m 1 #[.val (.ref a1), .unset] [(.ref a1)])) rfl rfl (hb hby own_dprog_31_10_1)
  obtain ⟨cq2, kq2, q2a, q2b, q2c⟩ := isOf hZ e1 (D.2.2.2.2.2.1.1)
  obtain ⟨_, _, ⟨T2, L2, k2, n2⟩, -, X2, ⟨Lc2, hQ2, l2, y2, z2⟩, st2⟩ := X1.interfaceBack hx (xi := (⟨"java/util/Deque", "peekLast", "()Ljava/lang/Object;"⟩ : MethodName)) (y := (⟨"java/util/ArrayDeque", "peekLast", "()Ljava/lang/Object;"⟩ : MethodName)) hown (mvT hZ (hw _ (List.mem_of_getElem? (i := 78) rfl))) (mvT hZ (hw _ (List.mem_of_getElem? (i := 79) rfl))) (mvT hZ (hw _ (List.mem_of_getElem? (i := 80) rfl))) (mvT hZ (hw _ (List.mem_of_getElem? (i := 81) rfl))) (mvT hZ (hw _ (List.mem_of_getElem? (i := 82) rfl))) (mvT hZ (hw _ (List.mem_of_getElem? (i := 83) rfl))) (mvT hZ (hw _ (List.mem_of_getElem? (i := 84) rfl))) (mvT hZ (hw _ (List.mem_of_getElem? (i := 40) rfl))) (by decide) (backOf (W := 0) (rm_peek l Z a0 hw [] q f el k (r.map Prod.fst) h0 n0 Z0 D.2.2.2.2.2.1 (by simpa using hlen)) hZ (hw _ (List.mem_of_getElem? (i := 85) rfl)) (hw _ (List.mem_of_getElem? (i := 11) rfl)) (by decide) (by decide)) q2a q2b q2c (g := (mkF m 4 #[.val (.ref a1), .unset] [(.ref q)])) rfl (by rw [hml]; rfl) (Steps.refl _) (argsL := []) (rest := []) (lenOf own_pd3 rfl) rfl (by show 2 * 0 + _ ≤ _; exact Nat.le_of_eq rfl) (hb hby own_dprog_31_10_4) (fun _ _ => ⟨rfl, e1, (by decide : 0 + 0 ≤ _), (by decide : 0 + 0 ≤ _)⟩)
  dsimp only [Pt.U, Pt.locs, Pt.cells, Pt.slots] at X2 l2 y2 z2 st2 hQ2
  rw [l2, y2, z2] at X2
  obtain ⟨rfl, Nq2, e2⟩ := hQ2
  have N2 := Fr.app N0 Nq2
  obtain ⟨T3, X3, e3, st3⟩ := castY X2 hx hZ hown (hw _ (List.mem_of_getElem? (i := 46) rfl)) e2 (Ins.self D.2.2.2.2.2.2.1.1.1) (g := (mkF m 9 #[.val (.ref a1), .unset] [(.ref f)])) rfl rfl (hb hby own_dprog_31_10_9)
  obtain ⟨fs, hr, hrun, hended, hW, hsame⟩ := X3.leave (v := some (.ref f)) (fun h => by rw [Bd.returns] at h; cases h)
  refine ⟨_, _, pre0 _ ?_, hrun, hended, _, _, rfl, ?_, ⟨_, rfl⟩, hW, hsame.mono (by decide) (by decide)⟩
  · show Steps p.tables e below (s₁.setTop (mkF m 0 #[.val (.ref a1), .unset] [])) _
    refine XS.aloadN X0.here hx rfl (hb hby own_dprog_31_10_0) rfl rfl ?_
    show Steps p.tables e below (s₁.setTop (mkF m 1 #[.val (.ref a1), .unset] [(.ref a1)])) _
    refine st1 _ ?_
    show Steps p.tables e below (T1.setTop (mkF m 4 #[.val (.ref a1), .unset] [(.ref q)])) _
    refine st2.trans ?_
    show Steps p.tables e below (T2.setTop (mkF m 9 #[.val (.ref a1), .unset] [(.ref f)])) _
    refine st3 _ ?_
    show Steps p.tables e below (T3.setTop (mkF m 12 #[.val (.ref a1), .unset] [(.ref f)])) _
    refine XS.astoreN X3.here hx rfl (hb hby own_dprog_31_10_12) rfl rfl (l' := #[.val (.ref a1), .val (.ref f)]) rfl ?_
    show Steps p.tables e below (T3.setTop (mkF m 13 #[.val (.ref a1), .val (.ref f)] [])) _
    refine XS.aloadN X3.here hx rfl (hb hby own_dprog_31_10_13) rfl rfl ?_
    show Steps p.tables e below (T3.setTop (mkF m 14 #[.val (.ref a1), .val (.ref f)] [(.ref f)])) _
    refine XS.ifnonnullYes X3.here hx rfl (pc0 := 14) (pc' := 27) rfl (hb hby own_dprog_31_10_14) rfl (by decide) (by decide) ?_
    show Steps p.tables e below (T3.setTop (mkF m 27 #[.val (.ref a1), .val (.ref f)] [])) _
    refine XS.aloadN X3.here hx rfl (hb hby own_dprog_31_10_27) rfl rfl ?_
    show Steps p.tables e below (T3.setTop (mkF m 28 #[.val (.ref a1), .val (.ref f)] [(.ref f)])) _
    exact retOut X3 hx Bd.returns rfl (Or.inr (Or.inr (Or.inr (Or.inr ⟨rfl, rfl, rfl⟩)))) (hb hby own_dprog_31_10_28) hr
  · show Q_inn Z a1 q el k f lb sb r due cnt h0 n0 _ T3.heap _
    rw [e3]
    exact ⟨rfl, N2, rfl⟩
theorem own_dprog_31_4_0 : decode prog_31_method_4_code 0 = .ok (.aload_n 0, 1) := by decide +kernel
theorem own_dprog_31_4_1 : decode prog_31_method_4_code 1 = .ok (.invokevirtual 38, 3) := by decide +kernel
theorem own_dprog_31_4_4 : decode prog_31_method_4_code 4 = .ok (.astore_n 1, 1) := by decide +kernel
theorem own_dprog_31_4_5 : decode prog_31_method_4_code 5 = .ok (.aload_n 1, 1) := by decide +kernel
theorem own_dprog_31_4_6 : decode prog_31_method_4_code 6 = .ok (.getfield 42, 3) := by decide +kernel
theorem own_dprog_31_4_9 : decode prog_31_method_4_code 9 = .ok (.ifCond .ne 10, 3) := by decide +kernel
theorem own_dprog_31_4_12 : decode prog_31_method_4_code 12 = .ok (.aload_n 0, 1) := by decide +kernel
theorem own_dprog_31_4_13 : decode prog_31_method_4_code 13 = .ok (.getfield 46, 3) := by decide +kernel
theorem own_dprog_31_4_16 : decode prog_31_method_4_code 16 = .ok (.ifCond .eq 13, 3) := by decide +kernel
theorem own_dprog_31_4_29 : decode prog_31_method_4_code 29 = .ok (.aload_n 1, 1) := by decide +kernel
theorem own_dprog_31_4_30 : decode prog_31_method_4_code 30 = .ok (.getfield 60, 3) := by decide +kernel
theorem own_dprog_31_4_33 : decode prog_31_method_4_code 33 = .ok (.istore_n 2, 1) := by decide +kernel
theorem own_dprog_31_4_34 : decode prog_31_method_4_code 34 = .ok (.aload_n 1, 1) := by decide +kernel
theorem own_dprog_31_4_35 : decode prog_31_method_4_code 35 = .ok (.iconst 1, 1) := by decide +kernel
theorem own_dprog_31_4_36 : decode prog_31_method_4_code 36 = .ok (.putfield 60, 3) := by decide +kernel
theorem own_dprog_31_4_39 : decode prog_31_method_4_code 39 = .ok (.aload_n 0, 1) := by decide +kernel
theorem own_dprog_31_4_40 : decode prog_31_method_4_code 40 = .ok (.iconst 1, 1) := by decide +kernel
theorem own_dprog_31_4_41 : decode prog_31_method_4_code 41 = .ok (.putfield 46, 3) := by decide +kernel
theorem own_dprog_31_4_44 : decode prog_31_method_4_code 44 = .ok (.iload_n 2, 1) := by decide +kernel
theorem own_dprog_31_4_45 : decode prog_31_method_4_code 45 = .ok (.ireturn, 1) := by decide +kernel
theorem own_pd4 : parseMethodDescriptor "()Lcom/example/gabarit/gabarit/shacl/DescriptionOrder$Frame;" = some ⟨[], some (.object "com/example/gabarit/gabarit/shacl/DescriptionOrder$Frame")⟩ := by decide +kernel
theorem own_ef_prop (m : MethodId) (x0 : Addr) : entryFrame m #[(.ref x0)] 3 = mkF m 0 #[.val (.ref x0), .unset, .unset] [] := by first | (simp [entryFrame, mkF, argsToLocals, Value.category]; done) | rfl
def Q_prop (Z : State) (a1 : Addr) (q : Addr) (el : Addr) (k : ClassId) (f : Addr) (sb : Bool) (r : List (Addr × Bool × Bool)) (cnt : Int32) (h0 : Heap) (n0 : Nat) (v : Option Value) (h : Heap) (L : List Loc) : Prop := v = some (.int (own_b sb)) ∧ Fr n0 L ∧ h0.size ≤ h.size ∧ own_DO Z h a1 q el k n0 ((f, false, true) :: r) true cnt
set_option maxRecDepth 65536 in
set_option maxHeartbeats 40000000 in
theorem rm_prop (l : Launch) (Z : State) (a0 : Array Value) (hw : ∀ d ∈ tables_1, d.before a0 Z = true) (ws : List Jvm.Cond) (a1 : Addr) (q : Addr) (el : Addr) (k : ClassId) (f : Addr) (sb : Bool) (r : List (Addr × Bool × Bool)) (cnt : Int32) (h0 : Heap) (n0 : Nat) (Z0 : n0 ≤ h0.size) (D : own_DO Z h0 a1 q el k n0 ((f, false, sb) :: r) false cnt) (hlen : r.length ≤ 7) :
    MetFree l (⟨"com/example/gabarit/gabarit/shacl/DescriptionOrder", "property", "()Z"⟩ : MethodName) (head1 (Jvm.Cond.code (⟨"com/example/gabarit/gabarit/shacl/DescriptionOrder", "property", "()Z"⟩ : MethodName) prog_31_method_4_code 3 (some .boolean) :: ws) ({ frames := 3, cells := 0, slots := 0, locals := 40 } : Room)) (fun a U => a = #[(.ref a1)] ∧ Z.Warmed39 U.vm ∧ U.heap = h0) (fun _ _ _ _ _ => True) (fun _ U o U' => ∃ v L, o = .returned v ∧ Q_prop Z a1 q el k f sb r cnt h0 n0 v U'.heap L ∧ FrameEnd U o U' L ({ frames := 3, cells := 0, slots := 0, locals := 40 } : Room).cells ({ frames := 3, cells := 0, slots := 0, locals := 40 } : Room).slots) := by
  refine MetFree.of_bodySF (plainFor_of_name own_pn_com_example_gabarit_gabarit_shacl_DescriptionOrder) hisR ?_
  intro p e s m args below meth c s₁ Bd hml0 hP hK
  obtain ⟨rfl, hZ, hh⟩ := hP
  have hx := Bd.exec
  have hby := Bd.bytes
  have hml : c.maxLocals = 3 := hml0
  have hown : s.vm.findClass "com/example/gabarit/gabarit/shacl/DescriptionOrder" = some m.cls := findClass_of_methodNamed Bd.named
  have hnm := (name_of_methodNamed Bd.named Bd.method).1
  have X0 : Stand p l e ({ frames := 3, cells := 0, slots := 0, locals := 40 } : Room) s m #[(.ref a1)] below meth c s₁ [] 0 0 := Stand.of_body Bd
  have e0 : s₁.heap = h0 := by rw [← hh, Bd.state]; rfl
  have N0 := Fr.nil n0
  have pre0 : ∀ t, Steps p.tables e below (s₁.setTop (mkF m 0 #[.val (.ref a1), .unset, .unset] [])) t → Steps p.tables e below (s₁.setTop (entryFrame m #[(.ref a1)] 3)) t := fun t k => castTop (own_ef_prop m a1) k
  obtain ⟨cq1, q1, q1'⟩ := (D.1).cell
  rw [← e0] at q1
  obtain ⟨_, _, ⟨T1, L1, k1, n1⟩, -, X1, ⟨Lc1, hQ1, l1, y1, z1⟩, st1⟩ := X0.privateBack hx (y := (⟨"com/example/gabarit/gabarit/shacl/DescriptionOrder", "innermost", "()Lcom/example/gabarit/gabarit/shacl/DescriptionOrder$Frame;"⟩ : MethodName)) hown (mvT hZ (hw _ (List.mem_of_getElem? (i := 74) rfl))) (mvT hZ (hw _ (List.mem_of_getElem? (i := 75) rfl))) (own_sel (y := (⟨"com/example/gabarit/gabarit/shacl/DescriptionOrder", "innermost", "()Lcom/example/gabarit/gabarit/shacl/DescriptionOrder$Frame;"⟩ : MethodName)) (z := (⟨"com/example/gabarit/gabarit/shacl/DescriptionOrder", "value", "()V"⟩ : MethodName)) rfl (mvT hZ (hw _ (List.mem_of_getElem? (i := 101) rfl))) (mvP hZ (hw _ (List.mem_of_getElem? (i := 76) rfl))) (mvT hZ (hw _ (List.mem_of_getElem? (i := 75) rfl))) (by decide)) (Cond.privateMethod_at (mvP hZ (hw _ (List.mem_of_getElem? (i := 76) rfl)) (args := #[]))) (mvT hZ (hw _ (List.mem_of_getElem? (i := 77) rfl))) (by decide) (backOf (W := 0) (rm_inn l Z a0 hw [] a1 q el k f false sb r false cnt h0 n0 Z0 D hlen) hZ (hw _ (List.mem_of_getElem? (i := 77) rfl)) (hw _ (List.mem_of_getElem? (i := 2) rfl)) (by decide) (by decide)) (g := (mkF m 1 #[.val (.ref a1), .unset, .unset] [(.ref a1)])) rfl (by rw [hml]; rfl) (Steps.refl _) (a := a1) q1 q1' (argsL := []) (rest := []) (lenOf own_pd4 rfl) rfl (by show 2 * 0 + _ ≤ _; exact Nat.le_of_eq rfl) (hb hby own_dprog_31_4_1) (fun _ _ => ⟨rfl, e0, (by decide : 0 + 0 ≤ _), (by decide : 0 + 0 ≤ _)⟩)
  dsimp only [Pt.U, Pt.locs, Pt.cells, Pt.slots] at X1 l1 y1 z1 st1 hQ1
  rw [l1, y1, z1] at X1
  obtain ⟨rfl, Nq1, e1⟩ := hQ1
  have N1 := Fr.app N0 Nq1
  obtain ⟨T2, X2, e2, st2⟩ := getF X1 hx hZ hown (host := "") (Or.inl (hw _ (List.mem_of_getElem? (i := 93) rfl))) Via.refl e1 D.2.2.2.2.2.2.1.1.2.1 (g := (mkF m 6 #[.val (.ref a1), .val (.ref f), .unset] [(.ref f)])) rfl rfl (hb hby own_dprog_31_4_6)
  obtain ⟨T3, X3, e3, st3⟩ := getF X2 hx hZ hown (host := "") (Or.inl (hw _ (List.mem_of_getElem? (i := 94) rfl))) Via.refl e2 D.2.2.1 (g := (mkF m 13 #[.val (.ref a1), .val (.ref f), .unset] [(.ref a1)])) rfl rfl (hb hby own_dprog_31_4_13)
  obtain ⟨T4, X4, e4, st4⟩ := getF X3 hx hZ hown (host := "") (Or.inl (hw _ (List.mem_of_getElem? (i := 96) rfl))) Via.refl e3 D.2.2.2.2.2.2.1.1.2.2.1 (g := (mkF m 30 #[.val (.ref a1), .val (.ref f), .unset] [(.ref f)])) rfl rfl (hb hby own_dprog_31_4_30)
  obtain ⟨T5, h5, X5, e5, W5, st5⟩ := putF X4 hx hZ hown (host := "") (Or.inl (hw _ (List.mem_of_getElem? (i := 96) rfl))) Via.refl e4 D.2.2.2.2.2.2.1.1.2.2.1 D.2.2.2.2.2.2.1.1.1 (Or.inl (hw _ (List.mem_of_getElem? (i := 97) rfl))) (hw _ (List.mem_of_getElem? (i := 47) rfl)) (ty := .boolean) (by decide) rfl rfl (g := (mkF m 36 #[.val (.ref a1), .val (.ref f), .val (.int (own_b sb))] [(.int (1 : Int32)), (.ref f)])) rfl rfl (hb hby own_dprog_31_4_36)
  have N5 := Fr.snoc X5 N1 D.2.2.2.2.2.2.1.1.2.2.2.1
  have sz5 : n0 ≤ h5.size := Nat.le_trans Z0 (Keep.of_wr W5).1
  have D1 := own_DO_sta hw D true W5
  have ze1 := Nat.le_of_eq W5.size.symm
  obtain ⟨T6, h6, X6, e6, W6, st6⟩ := putF X5 hx hZ hown (host := "") (Or.inl (hw _ (List.mem_of_getElem? (i := 94) rfl))) Via.refl e5 D1.2.2.1 D1.1 (Or.inl (hw _ (List.mem_of_getElem? (i := 95) rfl))) (hw _ (List.mem_of_getElem? (i := 1) rfl)) (ty := .boolean) (by decide) rfl rfl (g := (mkF m 41 #[.val (.ref a1), .val (.ref f), .val (.int (own_b sb))] [(.int (1 : Int32)), (.ref a1)])) rfl rfl (hb hby own_dprog_31_4_41)
  have N6 := Fr.snoc X6 N5 D1.2.2.2.2.1
  have sz6 : n0 ≤ h6.size := Nat.le_trans sz5 (Keep.of_wr W6).1
  have D2 := own_DO_due hw D1 true W6
  have z2 := Nat.le_trans ze1 (Nat.le_of_eq W6.size.symm)
  obtain ⟨fs, hr, hrun, hended, hW, hsame⟩ := X6.leave (v := some (.int (own_b sb))) (fun h => by rw [Bd.returns] at h; cases h)
  refine ⟨_, _, pre0 _ ?_, hrun, hended, _, _, rfl, ?_, ⟨_, rfl⟩, hW, hsame.mono (by decide) (by decide)⟩
  · show Steps p.tables e below (s₁.setTop (mkF m 0 #[.val (.ref a1), .unset, .unset] [])) _
    refine XS.aloadN X0.here hx rfl (hb hby own_dprog_31_4_0) rfl rfl ?_
    show Steps p.tables e below (s₁.setTop (mkF m 1 #[.val (.ref a1), .unset, .unset] [(.ref a1)])) _
    refine st1.trans ?_
    show Steps p.tables e below (T1.setTop (mkF m 4 #[.val (.ref a1), .unset, .unset] [(.ref f)])) _
    refine XS.astoreN X1.here hx rfl (hb hby own_dprog_31_4_4) rfl rfl (l' := #[.val (.ref a1), .val (.ref f), .unset]) rfl ?_
    show Steps p.tables e below (T1.setTop (mkF m 5 #[.val (.ref a1), .val (.ref f), .unset] [])) _
    refine XS.aloadN X1.here hx rfl (hb hby own_dprog_31_4_5) rfl rfl ?_
    show Steps p.tables e below (T1.setTop (mkF m 6 #[.val (.ref a1), .val (.ref f), .unset] [(.ref f)])) _
    refine st2 _ ?_
    show Steps p.tables e below (T2.setTop (mkF m 9 #[.val (.ref a1), .val (.ref f), .unset] [(.int (own_b false))])) _
    refine XS.ifNo X2.here hx rfl (hb hby own_dprog_31_4_9) rfl ((if0 _ _).trans (teq rfl).2) ?_
    show Steps p.tables e below (T2.setTop (mkF m 12 #[.val (.ref a1), .val (.ref f), .unset] [])) _
    refine XS.aloadN X2.here hx rfl (hb hby own_dprog_31_4_12) rfl rfl ?_
    show Steps p.tables e below (T2.setTop (mkF m 13 #[.val (.ref a1), .val (.ref f), .unset] [(.ref a1)])) _
    refine st3 _ ?_
    show Steps p.tables e below (T3.setTop (mkF m 16 #[.val (.ref a1), .val (.ref f), .unset] [(.int (own_b false))])) _
    refine XS.ifYes X3.here hx rfl (pc0 := 16) (pc' := 29) rfl (hb hby own_dprog_31_4_16) rfl ((if0 _ _).trans (teq rfl).1) (by decide) (by decide) ?_
    show Steps p.tables e below (T3.setTop (mkF m 29 #[.val (.ref a1), .val (.ref f), .unset] [])) _
    refine XS.aloadN X3.here hx rfl (hb hby own_dprog_31_4_29) rfl rfl ?_
    show Steps p.tables e below (T3.setTop (mkF m 30 #[.val (.ref a1), .val (.ref f), .unset] [(.ref f)])) _
    refine st4 _ ?_
    show Steps p.tables e below (T4.setTop (mkF m 33 #[.val (.ref a1), .val (.ref f), .unset] [(.int (own_b sb))])) _
    refine XS.istoreN X4.here hx rfl (hb hby own_dprog_31_4_33) rfl (l' := #[.val (.ref a1), .val (.ref f), .val (.int (own_b sb))]) rfl ?_
    show Steps p.tables e below (T4.setTop (mkF m 34 #[.val (.ref a1), .val (.ref f), .val (.int (own_b sb))] [])) _
    refine XS.aloadN X4.here hx rfl (hb hby own_dprog_31_4_34) rfl rfl ?_
    show Steps p.tables e below (T4.setTop (mkF m 35 #[.val (.ref a1), .val (.ref f), .val (.int (own_b sb))] [(.ref f)])) _
    refine XS.iconst X4.here hx rfl (hb hby own_dprog_31_4_35) ?_
    show Steps p.tables e below (T4.setTop (mkF m 36 #[.val (.ref a1), .val (.ref f), .val (.int (own_b sb))] [(.int (1 : Int32)), (.ref f)])) _
    refine st5 _ ?_
    show Steps p.tables e below (T5.setTop (mkF m 39 #[.val (.ref a1), .val (.ref f), .val (.int (own_b sb))] [])) _
    refine XS.aloadN X5.here hx rfl (hb hby own_dprog_31_4_39) rfl rfl ?_
    show Steps p.tables e below (T5.setTop (mkF m 40 #[.val (.ref a1), .val (.ref f), .val (.int (own_b sb))] [(.ref a1)])) _
    refine XS.iconst X5.here hx rfl (hb hby own_dprog_31_4_40) ?_
    show Steps p.tables e below (T5.setTop (mkF m 41 #[.val (.ref a1), .val (.ref f), .val (.int (own_b sb))] [(.int (1 : Int32)), (.ref a1)])) _
    refine st6 _ ?_
    show Steps p.tables e below (T6.setTop (mkF m 44 #[.val (.ref a1), .val (.ref f), .val (.int (own_b sb))] [])) _
    refine XS.iloadN X6.here hx rfl (hb hby own_dprog_31_4_44) rfl ?_
    show Steps p.tables e below (T6.setTop (mkF m 45 #[.val (.ref a1), .val (.ref f), .val (.int (own_b sb))] [(.int (own_b sb))])) _
    exact retN X6 hx (t := .boolean) Bd.returns (by simp) (hb hby own_dprog_31_4_45) (by rw [own_narb]; exact hr)
  · show Q_prop Z a1 q el k f sb r cnt h0 n0 _ T6.heap _
    rw [e6]
    exact ⟨rfl, N6, z2, D2⟩
theorem own_dprog_31_5_0 : decode prog_31_method_5_code 0 = .ok (.aload_n 0, 1) := by decide +kernel
theorem own_dprog_31_5_1 : decode prog_31_method_5_code 1 = .ok (.invokevirtual 38, 3) := by decide +kernel
theorem own_dprog_31_5_4 : decode prog_31_method_5_code 4 = .ok (.astore_n 1, 1) := by decide +kernel
theorem own_dprog_31_5_5 : decode prog_31_method_5_code 5 = .ok (.aload_n 1, 1) := by decide +kernel
theorem own_dprog_31_5_6 : decode prog_31_method_5_code 6 = .ok (.getfield 42, 3) := by decide +kernel
theorem own_dprog_31_5_9 : decode prog_31_method_5_code 9 = .ok (.ifCond .ne 20, 3) := by decide +kernel
theorem own_dprog_31_5_12 : decode prog_31_method_5_code 12 = .ok (.aload_n 0, 1) := by decide +kernel
theorem own_dprog_31_5_13 : decode prog_31_method_5_code 13 = .ok (.getfield 46, 3) := by decide +kernel
theorem own_dprog_31_5_16 : decode prog_31_method_5_code 16 = .ok (.ifCond .ne 13, 3) := by decide +kernel
theorem own_dprog_31_5_29 : decode prog_31_method_5_code 29 = .ok (.aload_n 1, 1) := by decide +kernel
theorem own_dprog_31_5_30 : decode prog_31_method_5_code 30 = .ok (.iconst 1, 1) := by decide +kernel
theorem own_dprog_31_5_31 : decode prog_31_method_5_code 31 = .ok (.putfield 60, 3) := by decide +kernel
theorem own_dprog_31_5_34 : decode prog_31_method_5_code 34 = .ok (.aload_n 0, 1) := by decide +kernel
theorem own_dprog_31_5_35 : decode prog_31_method_5_code 35 = .ok (.iconst 0, 1) := by decide +kernel
theorem own_dprog_31_5_36 : decode prog_31_method_5_code 36 = .ok (.putfield 46, 3) := by decide +kernel
theorem own_dprog_31_5_39 : decode prog_31_method_5_code 39 = .ok (.return_, 1) := by decide +kernel
theorem own_ef_val (m : MethodId) (x0 : Addr) : entryFrame m #[(.ref x0)] 2 = mkF m 0 #[.val (.ref x0), .unset] [] := by first | (simp [entryFrame, mkF, argsToLocals, Value.category]; done) | rfl
def Q_val (Z : State) (a1 : Addr) (q : Addr) (el : Addr) (k : ClassId) (f : Addr) (lb : Bool) (sb : Bool) (r : List (Addr × Bool × Bool)) (due : Bool) (cnt : Int32) (h0 : Heap) (n0 : Nat) (v : Option Value) (h : Heap) (L : List Loc) : Prop := v = none ∧ Fr n0 L ∧ h0.size ≤ h.size ∧ own_DO Z h a1 q el k n0 ((f, lb, true) :: r) false cnt
set_option maxRecDepth 65536 in
set_option maxHeartbeats 40000000 in
theorem rm_val (l : Launch) (Z : State) (a0 : Array Value) (hw : ∀ d ∈ tables_1, d.before a0 Z = true) (ws : List Jvm.Cond) (a1 : Addr) (q : Addr) (el : Addr) (k : ClassId) (f : Addr) (lb : Bool) (sb : Bool) (r : List (Addr × Bool × Bool)) (due : Bool) (cnt : Int32) (h0 : Heap) (n0 : Nat) (Z0 : n0 ≤ h0.size) (D : own_DO Z h0 a1 q el k n0 ((f, lb, sb) :: r) due cnt) (hlen : r.length ≤ 7) (hv : lb = true ∨ due = true) :
    MetFree l (⟨"com/example/gabarit/gabarit/shacl/DescriptionOrder", "value", "()V"⟩ : MethodName) (head1 (Jvm.Cond.code (⟨"com/example/gabarit/gabarit/shacl/DescriptionOrder", "value", "()V"⟩ : MethodName) prog_31_method_5_code 2 none :: ws) ({ frames := 3, cells := 0, slots := 0, locals := 40 } : Room)) (fun a U => a = #[(.ref a1)] ∧ Z.Warmed39 U.vm ∧ U.heap = h0) (fun _ _ _ _ _ => True) (fun _ U o U' => ∃ v L, o = .returned v ∧ Q_val Z a1 q el k f lb sb r due cnt h0 n0 v U'.heap L ∧ FrameEnd U o U' L ({ frames := 3, cells := 0, slots := 0, locals := 40 } : Room).cells ({ frames := 3, cells := 0, slots := 0, locals := 40 } : Room).slots) := by
  refine MetFree.of_bodySF (plainFor_of_name own_pn_com_example_gabarit_gabarit_shacl_DescriptionOrder) hisR ?_
  intro p e s m args below meth c s₁ Bd hml0 hP hK
  obtain ⟨rfl, hZ, hh⟩ := hP
  have hx := Bd.exec
  have hby := Bd.bytes
  have hml : c.maxLocals = 2 := hml0
  have hown : s.vm.findClass "com/example/gabarit/gabarit/shacl/DescriptionOrder" = some m.cls := findClass_of_methodNamed Bd.named
  have hnm := (name_of_methodNamed Bd.named Bd.method).1
  have X0 : Stand p l e ({ frames := 3, cells := 0, slots := 0, locals := 40 } : Room) s m #[(.ref a1)] below meth c s₁ [] 0 0 := Stand.of_body Bd
  have e0 : s₁.heap = h0 := by rw [← hh, Bd.state]; rfl
  have N0 := Fr.nil n0
  have pre0 : ∀ t, Steps p.tables e below (s₁.setTop (mkF m 0 #[.val (.ref a1), .unset] [])) t → Steps p.tables e below (s₁.setTop (entryFrame m #[(.ref a1)] 2)) t := fun t k => castTop (own_ef_val m a1) k
  obtain ⟨cq1, q1, q1'⟩ := (D.1).cell
  rw [← e0] at q1
  obtain ⟨_, _, ⟨T1, L1, k1, n1⟩, -, X1, ⟨Lc1, hQ1, l1, y1, z1⟩, st1⟩ := X0.privateBack hx (y := (⟨"com/example/gabarit/gabarit/shacl/DescriptionOrder", "innermost", "()Lcom/example/gabarit/gabarit/shacl/DescriptionOrder$Frame;"⟩ : MethodName)) hown (mvT hZ (hw _ (List.mem_of_getElem? (i := 74) rfl))) (mvT hZ (hw _ (List.mem_of_getElem? (i := 75) rfl))) (own_sel (y := (⟨"com/example/gabarit/gabarit/shacl/DescriptionOrder", "innermost", "()Lcom/example/gabarit/gabarit/shacl/DescriptionOrder$Frame;"⟩ : MethodName)) (z := (⟨"com/example/gabarit/gabarit/shacl/DescriptionOrder", "value", "()V"⟩ : MethodName)) rfl (mvT hZ (hw _ (List.mem_of_getElem? (i := 101) rfl))) (mvP hZ (hw _ (List.mem_of_getElem? (i := 76) rfl))) (mvT hZ (hw _ (List.mem_of_getElem? (i := 75) rfl))) (by decide)) (Cond.privateMethod_at (mvP hZ (hw _ (List.mem_of_getElem? (i := 76) rfl)) (args := #[]))) (mvT hZ (hw _ (List.mem_of_getElem? (i := 77) rfl))) (by decide) (backOf (W := 0) (rm_inn l Z a0 hw [] a1 q el k f lb sb r due cnt h0 n0 Z0 D hlen) hZ (hw _ (List.mem_of_getElem? (i := 77) rfl)) (hw _ (List.mem_of_getElem? (i := 2) rfl)) (by decide) (by decide)) (g := (mkF m 1 #[.val (.ref a1), .unset] [(.ref a1)])) rfl (by rw [hml]; rfl) (Steps.refl _) (a := a1) q1 q1' (argsL := []) (rest := []) (lenOf own_pd4 rfl) rfl (by show 2 * 0 + _ ≤ _; exact Nat.le_of_eq rfl) (hb hby own_dprog_31_5_1) (fun _ _ => ⟨rfl, e0, (by decide : 0 + 0 ≤ _), (by decide : 0 + 0 ≤ _)⟩)
  dsimp only [Pt.U, Pt.locs, Pt.cells, Pt.slots] at X1 l1 y1 z1 st1 hQ1
  rw [l1, y1, z1] at X1
  obtain ⟨rfl, Nq1, e1⟩ := hQ1
  have N1 := Fr.app N0 Nq1
  obtain ⟨T2, X2, e2, st2⟩ := getF X1 hx hZ hown (host := "") (Or.inl (hw _ (List.mem_of_getElem? (i := 93) rfl))) Via.refl e1 D.2.2.2.2.2.2.1.1.2.1 (g := (mkF m 6 #[.val (.ref a1), .val (.ref f)] [(.ref f)])) rfl rfl (hb hby own_dprog_31_5_6)
  by_cases hl : lb = true
  · obtain ⟨T3, h3, X3, e3, W3, st3⟩ := putF X2 hx hZ hown (host := "") (Or.inl (hw _ (List.mem_of_getElem? (i := 96) rfl))) Via.refl e2 D.2.2.2.2.2.2.1.1.2.2.1 D.2.2.2.2.2.2.1.1.1 (Or.inl (hw _ (List.mem_of_getElem? (i := 97) rfl))) (hw _ (List.mem_of_getElem? (i := 47) rfl)) (ty := .boolean) (by decide) rfl rfl (g := (mkF m 31 #[.val (.ref a1), .val (.ref f)] [(.int (1 : Int32)), (.ref f)])) rfl rfl (hb hby own_dprog_31_5_31)
    have N3 := Fr.snoc X3 N1 D.2.2.2.2.2.2.1.1.2.2.2.1
    have sz3 : n0 ≤ h3.size := Nat.le_trans Z0 (Keep.of_wr W3).1
    have D1 := own_DO_sta hw D true W3
    have ze1 := Nat.le_of_eq W3.size.symm
    obtain ⟨T4, h4, X4, e4, W4, st4⟩ := putF X3 hx hZ hown (host := "") (Or.inl (hw _ (List.mem_of_getElem? (i := 94) rfl))) Via.refl e3 D1.2.2.1 D1.1 (Or.inl (hw _ (List.mem_of_getElem? (i := 95) rfl))) (hw _ (List.mem_of_getElem? (i := 1) rfl)) (ty := .boolean) (by decide) rfl rfl (g := (mkF m 36 #[.val (.ref a1), .val (.ref f)] [(.int (0 : Int32)), (.ref a1)])) rfl rfl (hb hby own_dprog_31_5_36)
    have N4 := Fr.snoc X4 N3 D1.2.2.2.2.1
    have sz4 : n0 ≤ h4.size := Nat.le_trans sz3 (Keep.of_wr W4).1
    have D2 := own_DO_due hw D1 false W4
    have z2 := Nat.le_trans ze1 (Nat.le_of_eq W4.size.symm)
    obtain ⟨fs, hr, hrun, hended, hW, hsame⟩ := X4.leave (v := none) (fun _ => rfl)
    refine ⟨_, _, pre0 _ ?_, hrun, hended, _, _, rfl, ?_, ⟨_, rfl⟩, hW, hsame.mono (by decide) (by decide)⟩
    · show Steps p.tables e below (s₁.setTop (mkF m 0 #[.val (.ref a1), .unset] [])) _
      refine XS.aloadN X0.here hx rfl (hb hby own_dprog_31_5_0) rfl rfl ?_
      show Steps p.tables e below (s₁.setTop (mkF m 1 #[.val (.ref a1), .unset] [(.ref a1)])) _
      refine st1.trans ?_
      show Steps p.tables e below (T1.setTop (mkF m 4 #[.val (.ref a1), .unset] [(.ref f)])) _
      refine XS.astoreN X1.here hx rfl (hb hby own_dprog_31_5_4) rfl rfl (l' := #[.val (.ref a1), .val (.ref f)]) rfl ?_
      show Steps p.tables e below (T1.setTop (mkF m 5 #[.val (.ref a1), .val (.ref f)] [])) _
      refine XS.aloadN X1.here hx rfl (hb hby own_dprog_31_5_5) rfl rfl ?_
      show Steps p.tables e below (T1.setTop (mkF m 6 #[.val (.ref a1), .val (.ref f)] [(.ref f)])) _
      refine st2 _ ?_
      show Steps p.tables e below (T2.setTop (mkF m 9 #[.val (.ref a1), .val (.ref f)] [(.int (own_b lb))])) _
      refine XS.ifYes X2.here hx rfl (pc0 := 9) (pc' := 29) rfl (hb hby own_dprog_31_5_9) rfl ((if0 _ _).trans (feq (by rw [hl]; decide)).2) (by decide) (by decide) ?_
      show Steps p.tables e below (T2.setTop (mkF m 29 #[.val (.ref a1), .val (.ref f)] [])) _
      refine XS.aloadN X2.here hx rfl (hb hby own_dprog_31_5_29) rfl rfl ?_
      show Steps p.tables e below (T2.setTop (mkF m 30 #[.val (.ref a1), .val (.ref f)] [(.ref f)])) _
      refine XS.iconst X2.here hx rfl (hb hby own_dprog_31_5_30) ?_
      show Steps p.tables e below (T2.setTop (mkF m 31 #[.val (.ref a1), .val (.ref f)] [(.int (1 : Int32)), (.ref f)])) _
      refine st3 _ ?_
      show Steps p.tables e below (T3.setTop (mkF m 34 #[.val (.ref a1), .val (.ref f)] [])) _
      refine XS.aloadN X3.here hx rfl (hb hby own_dprog_31_5_34) rfl rfl ?_
      show Steps p.tables e below (T3.setTop (mkF m 35 #[.val (.ref a1), .val (.ref f)] [(.ref a1)])) _
      refine XS.iconst X3.here hx rfl (hb hby own_dprog_31_5_35) ?_
      show Steps p.tables e below (T3.setTop (mkF m 36 #[.val (.ref a1), .val (.ref f)] [(.int (0 : Int32)), (.ref a1)])) _
      refine st4 _ ?_
      show Steps p.tables e below (T4.setTop (mkF m 39 #[.val (.ref a1), .val (.ref f)] [])) _
      exact X4.returnOut hx Bd.returns (hb hby own_dprog_31_5_39) hr
    · show Q_val Z a1 q el k f lb sb r due cnt h0 n0 _ T4.heap _
      rw [e4]
      exact ⟨rfl, N4, z2, D2⟩
  · have hd : due = true := hv.resolve_left hl
    have hl2 : lb = false := by cases lb <;> simp_all
    obtain ⟨T5, X5, e5, st5⟩ := getF X2 hx hZ hown (host := "") (Or.inl (hw _ (List.mem_of_getElem? (i := 94) rfl))) Via.refl e2 D.2.2.1 (g := (mkF m 13 #[.val (.ref a1), .val (.ref f)] [(.ref a1)])) rfl rfl (hb hby own_dprog_31_5_13)
    obtain ⟨T6, h6, X6, e6, W6, st6⟩ := putF X5 hx hZ hown (host := "") (Or.inl (hw _ (List.mem_of_getElem? (i := 96) rfl))) Via.refl e5 D.2.2.2.2.2.2.1.1.2.2.1 D.2.2.2.2.2.2.1.1.1 (Or.inl (hw _ (List.mem_of_getElem? (i := 97) rfl))) (hw _ (List.mem_of_getElem? (i := 47) rfl)) (ty := .boolean) (by decide) rfl rfl (g := (mkF m 31 #[.val (.ref a1), .val (.ref f)] [(.int (1 : Int32)), (.ref f)])) rfl rfl (hb hby own_dprog_31_5_31)
    have N6 := Fr.snoc X6 N1 D.2.2.2.2.2.2.1.1.2.2.2.1
    have sz6 : n0 ≤ h6.size := Nat.le_trans Z0 (Keep.of_wr W6).1
    have D1 := own_DO_sta hw D true W6
    have ze1 := Nat.le_of_eq W6.size.symm
    obtain ⟨T7, h7, X7, e7, W7, st7⟩ := putF X6 hx hZ hown (host := "") (Or.inl (hw _ (List.mem_of_getElem? (i := 94) rfl))) Via.refl e6 D1.2.2.1 D1.1 (Or.inl (hw _ (List.mem_of_getElem? (i := 95) rfl))) (hw _ (List.mem_of_getElem? (i := 1) rfl)) (ty := .boolean) (by decide) rfl rfl (g := (mkF m 36 #[.val (.ref a1), .val (.ref f)] [(.int (0 : Int32)), (.ref a1)])) rfl rfl (hb hby own_dprog_31_5_36)
    have N7 := Fr.snoc X7 N6 D1.2.2.2.2.1
    have sz7 : n0 ≤ h7.size := Nat.le_trans sz6 (Keep.of_wr W7).1
    have D2 := own_DO_due hw D1 false W7
    have z2 := Nat.le_trans ze1 (Nat.le_of_eq W7.size.symm)
    obtain ⟨fs, hr, hrun, hended, hW, hsame⟩ := X7.leave (v := none) (fun _ => rfl)
    refine ⟨_, _, pre0 _ ?_, hrun, hended, _, _, rfl, ?_, ⟨_, rfl⟩, hW, hsame.mono (by decide) (by decide)⟩
    · show Steps p.tables e below (s₁.setTop (mkF m 0 #[.val (.ref a1), .unset] [])) _
      refine XS.aloadN X0.here hx rfl (hb hby own_dprog_31_5_0) rfl rfl ?_
      show Steps p.tables e below (s₁.setTop (mkF m 1 #[.val (.ref a1), .unset] [(.ref a1)])) _
      refine st1.trans ?_
      show Steps p.tables e below (T1.setTop (mkF m 4 #[.val (.ref a1), .unset] [(.ref f)])) _
      refine XS.astoreN X1.here hx rfl (hb hby own_dprog_31_5_4) rfl rfl (l' := #[.val (.ref a1), .val (.ref f)]) rfl ?_
      show Steps p.tables e below (T1.setTop (mkF m 5 #[.val (.ref a1), .val (.ref f)] [])) _
      refine XS.aloadN X1.here hx rfl (hb hby own_dprog_31_5_5) rfl rfl ?_
      show Steps p.tables e below (T1.setTop (mkF m 6 #[.val (.ref a1), .val (.ref f)] [(.ref f)])) _
      refine st2 _ ?_
      show Steps p.tables e below (T2.setTop (mkF m 9 #[.val (.ref a1), .val (.ref f)] [(.int (own_b lb))])) _
      refine XS.ifNo X2.here hx rfl (hb hby own_dprog_31_5_9) rfl ((if0 _ _).trans (teq (by rw [hl2]; rfl)).2) ?_
      show Steps p.tables e below (T2.setTop (mkF m 12 #[.val (.ref a1), .val (.ref f)] [])) _
      refine XS.aloadN X2.here hx rfl (hb hby own_dprog_31_5_12) rfl rfl ?_
      show Steps p.tables e below (T2.setTop (mkF m 13 #[.val (.ref a1), .val (.ref f)] [(.ref a1)])) _
      refine st5 _ ?_
      show Steps p.tables e below (T5.setTop (mkF m 16 #[.val (.ref a1), .val (.ref f)] [(.int (own_b due))])) _
      refine XS.ifYes X5.here hx rfl (pc0 := 16) (pc' := 29) rfl (hb hby own_dprog_31_5_16) rfl ((if0 _ _).trans (feq (by rw [hd]; decide)).2) (by decide) (by decide) ?_
      show Steps p.tables e below (T5.setTop (mkF m 29 #[.val (.ref a1), .val (.ref f)] [])) _
      refine XS.aloadN X5.here hx rfl (hb hby own_dprog_31_5_29) rfl rfl ?_
      show Steps p.tables e below (T5.setTop (mkF m 30 #[.val (.ref a1), .val (.ref f)] [(.ref f)])) _
      refine XS.iconst X5.here hx rfl (hb hby own_dprog_31_5_30) ?_
      show Steps p.tables e below (T5.setTop (mkF m 31 #[.val (.ref a1), .val (.ref f)] [(.int (1 : Int32)), (.ref f)])) _
      refine st6 _ ?_
      show Steps p.tables e below (T6.setTop (mkF m 34 #[.val (.ref a1), .val (.ref f)] [])) _
      refine XS.aloadN X6.here hx rfl (hb hby own_dprog_31_5_34) rfl rfl ?_
      show Steps p.tables e below (T6.setTop (mkF m 35 #[.val (.ref a1), .val (.ref f)] [(.ref a1)])) _
      refine XS.iconst X6.here hx rfl (hb hby own_dprog_31_5_35) ?_
      show Steps p.tables e below (T6.setTop (mkF m 36 #[.val (.ref a1), .val (.ref f)] [(.int (0 : Int32)), (.ref a1)])) _
      refine st7 _ ?_
      show Steps p.tables e below (T7.setTop (mkF m 39 #[.val (.ref a1), .val (.ref f)] [])) _
      exact X7.returnOut hx Bd.returns (hb hby own_dprog_31_5_39) hr
    · show Q_val Z a1 q el k f lb sb r due cnt h0 n0 _ T7.heap _
      rw [e7]
      exact ⟨rfl, N7, z2, D2⟩
theorem own_dprog_31_9_0 : decode prog_31_method_9_code 0 = .ok (.aload_n 0, 1) := by decide +kernel
theorem own_dprog_31_9_1 : decode prog_31_method_9_code 1 = .ok (.getfield 34, 3) := by decide +kernel
theorem own_dprog_31_9_4 : decode prog_31_method_9_code 4 = .ok (.ireturn, 1) := by decide +kernel
theorem own_ef_bno (m : MethodId) (x0 : Addr) : entryFrame m #[(.ref x0)] 1 = mkF m 0 #[.val (.ref x0)] [] := by first | (simp [entryFrame, mkF, argsToLocals, Value.category]; done) | rfl
def Q_bno (Z : State) (a1 : Addr) (cnt : Int32) (h0 : Heap) (n0 : Nat) (v : Option Value) (h : Heap) (L : List Loc) : Prop := v = some (.int cnt) ∧ Fr n0 L ∧ h = h0
set_option maxRecDepth 65536 in
set_option maxHeartbeats 40000000 in
theorem rm_bno (l : Launch) (Z : State) (a0 : Array Value) (hw : ∀ d ∈ tables_1, d.before a0 Z = true) (ws : List Jvm.Cond) (a1 : Addr) (cnt : Int32) (h0 : Heap) (n0 : Nat) (Z0 : n0 ≤ h0.size) (F : Fld Z h0 a1 "com/example/gabarit/gabarit/shacl/DescriptionOrder" "blankNodesOpen" "I" (.int cnt)) :
    MetFree l (⟨"com/example/gabarit/gabarit/shacl/DescriptionOrder", "blankNodesOpen", "()I"⟩ : MethodName) (head1 (Jvm.Cond.code (⟨"com/example/gabarit/gabarit/shacl/DescriptionOrder", "blankNodesOpen", "()I"⟩ : MethodName) prog_31_method_9_code 1 (some .int) :: ws) ({ frames := 0, cells := 0, slots := 0, locals := 0 } : Room)) (fun a U => a = #[(.ref a1)] ∧ Z.Warmed39 U.vm ∧ U.heap = h0) (fun _ _ _ _ _ => True) (fun _ U o U' => ∃ v L, o = .returned v ∧ Q_bno Z a1 cnt h0 n0 v U'.heap L ∧ FrameEnd U o U' L ({ frames := 0, cells := 0, slots := 0, locals := 0 } : Room).cells ({ frames := 0, cells := 0, slots := 0, locals := 0 } : Room).slots) := by
  refine MetFree.of_bodySF (plainFor_of_name own_pn_com_example_gabarit_gabarit_shacl_DescriptionOrder) hisR ?_
  intro p e s m args below meth c s₁ Bd hml0 hP hK
  obtain ⟨rfl, hZ, hh⟩ := hP
  have hx := Bd.exec
  have hby := Bd.bytes
  have hml : c.maxLocals = 1 := hml0
  have hown : s.vm.findClass "com/example/gabarit/gabarit/shacl/DescriptionOrder" = some m.cls := findClass_of_methodNamed Bd.named
  have hnm := (name_of_methodNamed Bd.named Bd.method).1
  have X0 : Stand p l e ({ frames := 0, cells := 0, slots := 0, locals := 0 } : Room) s m #[(.ref a1)] below meth c s₁ [] 0 0 := Stand.of_body Bd
  have e0 : s₁.heap = h0 := by rw [← hh, Bd.state]; rfl
  have N0 := Fr.nil n0
  have pre0 : ∀ t, Steps p.tables e below (s₁.setTop (mkF m 0 #[.val (.ref a1)] [])) t → Steps p.tables e below (s₁.setTop (entryFrame m #[(.ref a1)] 1)) t := fun t k => castTop (own_ef_bno m a1) k
  obtain ⟨T1, X1, e1, st1⟩ := getF X0 hx hZ hown (host := "") (Or.inl (hw _ (List.mem_of_getElem? (i := 67) rfl))) Via.refl e0 F (g := (mkF m 1 #[.val (.ref a1)] [(.ref a1)])) rfl rfl (hb hby own_dprog_31_9_1)
  obtain ⟨fs, hr, hrun, hended, hW, hsame⟩ := X1.leave (v := some (.int cnt)) (fun h => by rw [Bd.returns] at h; cases h)
  refine ⟨_, _, pre0 _ ?_, hrun, hended, _, _, rfl, ?_, ⟨_, rfl⟩, hW, hsame.mono (by decide) (by decide)⟩
  · show Steps p.tables e below (s₁.setTop (mkF m 0 #[.val (.ref a1)] [])) _
    refine XS.aloadN X0.here hx rfl (hb hby own_dprog_31_9_0) rfl rfl ?_
    show Steps p.tables e below (s₁.setTop (mkF m 1 #[.val (.ref a1)] [(.ref a1)])) _
    refine st1 _ ?_
    show Steps p.tables e below (T1.setTop (mkF m 4 #[.val (.ref a1)] [(.int cnt)])) _
    exact retOut X1 hx Bd.returns rfl (Or.inl ⟨rfl, Or.inl rfl, _, rfl⟩) (hb hby own_dprog_31_9_4) hr
  · show Q_bno Z a1 cnt h0 n0 _ T1.heap _
    rw [e1]
    exact ⟨rfl, N0, rfl⟩
theorem own_dprog_31_2_0 : decode prog_31_method_2_code 0 = .ok (.aload_n 0, 1) := by decide +kernel
theorem own_dprog_31_2_1 : decode prog_31_method_2_code 1 = .ok (.getfield 10, 3) := by decide +kernel
theorem own_dprog_31_2_4 : decode prog_31_method_2_code 4 = .ok (.invokeinterface 16 1, 5) := by decide +kernel
theorem own_dprog_31_2_9 : decode prog_31_method_2_code 9 = .ok (.istore_n 1, 1) := by decide +kernel
theorem own_dprog_31_2_10 : decode prog_31_method_2_code 10 = .ok (.iload_n 1, 1) := by decide +kernel
theorem own_dprog_31_2_11 : decode prog_31_method_2_code 11 = .ok (.ifCond .ne 7, 3) := by decide +kernel
theorem own_dprog_31_2_14 : decode prog_31_method_2_code 14 = .ok (.aload_n 0, 1) := by decide +kernel
theorem own_dprog_31_2_15 : decode prog_31_method_2_code 15 = .ok (.invokevirtual 22, 3) := by decide +kernel
theorem own_dprog_31_2_18 : decode prog_31_method_2_code 18 = .ok (.aload_n 0, 1) := by decide +kernel
theorem own_dprog_31_2_19 : decode prog_31_method_2_code 19 = .ok (.getfield 10, 3) := by decide +kernel
theorem own_dprog_31_2_22 : decode prog_31_method_2_code 22 = .ok (.new 25, 3) := by decide +kernel
theorem own_dprog_31_2_25 : decode prog_31_method_2_code 25 = .ok (.dup, 1) := by decide +kernel
theorem own_dprog_31_2_26 : decode prog_31_method_2_code 26 = .ok (.iconst 0, 1) := by decide +kernel
theorem own_dprog_31_2_27 : decode prog_31_method_2_code 27 = .ok (.invokespecial 27, 3) := by decide +kernel
theorem own_dprog_31_2_30 : decode prog_31_method_2_code 30 = .ok (.invokeinterface 30 2, 5) := by decide +kernel
theorem own_dprog_31_2_35 : decode prog_31_method_2_code 35 = .ok (.aload_n 0, 1) := by decide +kernel
theorem own_dprog_31_2_36 : decode prog_31_method_2_code 36 = .ok (.dup, 1) := by decide +kernel
theorem own_dprog_31_2_37 : decode prog_31_method_2_code 37 = .ok (.getfield 34, 3) := by decide +kernel
theorem own_dprog_31_2_40 : decode prog_31_method_2_code 40 = .ok (.iconst 1, 1) := by decide +kernel
theorem own_dprog_31_2_41 : decode prog_31_method_2_code 41 = .ok (.iadd, 1) := by decide +kernel
theorem own_dprog_31_2_42 : decode prog_31_method_2_code 42 = .ok (.putfield 34, 3) := by decide +kernel
theorem own_dprog_31_2_45 : decode prog_31_method_2_code 45 = .ok (.iload_n 1, 1) := by decide +kernel
theorem own_dprog_31_2_46 : decode prog_31_method_2_code 46 = .ok (.ireturn, 1) := by decide +kernel
theorem own_pd5 : parseMethodDescriptor "()Z" = some ⟨[], some .boolean⟩ := by decide +kernel
theorem own_pd6 : parseMethodDescriptor "(Z)V" = some ⟨[.boolean], none⟩ := by decide +kernel
theorem own_pd7 : parseMethodDescriptor "(Ljava/lang/Object;)V" = some ⟨[(.object "java/lang/Object")], none⟩ := by decide +kernel
theorem own_ef_bbE (m : MethodId) (x0 : Addr) : entryFrame m #[(.ref x0)] 2 = mkF m 0 #[.val (.ref x0), .unset] [] := by first | (simp [entryFrame, mkF, argsToLocals, Value.category]; done) | rfl
def Q_bbE (Z : State) (a1 : Addr) (q : Addr) (el : Addr) (k : ClassId) (due : Bool) (cnt : Int32) (h0 : Heap) (n0 : Nat) (v : Option Value) (h : Heap) (L : List Loc) : Prop := (∃ x : Int32, v = some (.int x)) ∧ Fr n0 L ∧ h0.size ≤ h.size ∧ ∃ b : Addr, own_DO Z h a1 q el k n0 [(b, false, false)] due (cnt + 1)
set_option maxRecDepth 65536 in
set_option maxHeartbeats 40000000 in
theorem rm_bbE (l : Launch) (Z : State) (a0 : Array Value) (hw : ∀ d ∈ tables_1, d.before a0 Z = true) (ws : List Jvm.Cond) (a1 : Addr) (q : Addr) (el : Addr) (k : ClassId) (due : Bool) (cnt : Int32) (h0 : Heap) (n0 : Nat) (Z0 : n0 ≤ h0.size) (D : own_DO Z h0 a1 q el k n0 [] due cnt) :
    MetFree l (⟨"com/example/gabarit/gabarit/shacl/DescriptionOrder", "beginBlankNode", "()Z"⟩ : MethodName) (head1 (Jvm.Cond.code (⟨"com/example/gabarit/gabarit/shacl/DescriptionOrder", "beginBlankNode", "()Z"⟩ : MethodName) prog_31_method_2_code 2 (some .boolean) :: ws) ({ frames := 2, cells := 1, slots := 2, locals := 29 } : Room)) (fun a U => a = #[(.ref a1)] ∧ Z.Warmed39 U.vm ∧ U.heap = h0) (fun _ _ _ _ _ => True) (fun _ U o U' => ∃ v L, o = .returned v ∧ Q_bbE Z a1 q el k due cnt h0 n0 v U'.heap L ∧ FrameEnd U o U' L ({ frames := 2, cells := 1, slots := 2, locals := 29 } : Room).cells ({ frames := 2, cells := 1, slots := 2, locals := 29 } : Room).slots) := by
  refine MetFree.of_bodySF (plainFor_of_name own_pn_com_example_gabarit_gabarit_shacl_DescriptionOrder) hisR ?_
  intro p e s m args below meth c s₁ Bd hml0 hP hK
  obtain ⟨rfl, hZ, hh⟩ := hP
  have hx := Bd.exec
  have hby := Bd.bytes
  have hml : c.maxLocals = 2 := hml0
  have hown : s.vm.findClass "com/example/gabarit/gabarit/shacl/DescriptionOrder" = some m.cls := findClass_of_methodNamed Bd.named
  have hnm := (name_of_methodNamed Bd.named Bd.method).1
  have X0 : Stand p l e ({ frames := 2, cells := 1, slots := 2, locals := 29 } : Room) s m #[(.ref a1)] below meth c s₁ [] 0 0 := Stand.of_body Bd
  have e0 : s₁.heap = h0 := by rw [← hh, Bd.state]; rfl
  have N0 := Fr.nil n0
  have pre0 : ∀ t, Steps p.tables e below (s₁.setTop (mkF m 0 #[.val (.ref a1), .unset] [])) t → Steps p.tables e below (s₁.setTop (entryFrame m #[(.ref a1)] 2)) t := fun t k => castTop (own_ef_bbE m a1) k
  obtain ⟨T1, X1, e1, st1⟩ := getF X0 hx hZ hown (host := "") (Or.inl (hw _ (List.mem_of_getElem? (i := 26) rfl))) Via.refl e0 D.2.1 (g := (mkF m 1 #[.val (.ref a1), .unset] [(.ref a1)])) rfl rfl (hb hby own_dprog_31_2_1)
  obtain ⟨cq2, kq2, q2a, q2b, q2c⟩ := isOf hZ e1 (D.2.2.2.2.2.1.1)
  obtain ⟨_, _, ⟨T2, L2, k2, n2⟩, -, X2, ⟨Lc2, hQ2, l2, y2, z2⟩, st2⟩ := own_backUp X1 hx (xi := (⟨"java/util/Deque", "isEmpty", "()Z"⟩ : MethodName)) (y := (⟨"java/util/ArrayDeque", "isEmpty", "()Z"⟩ : MethodName)) (J := "java/util/Collection") (by decide) (by decide) hown (mvT hZ (hw _ (List.mem_of_getElem? (i := 33) rfl))) (mvT hZ (hw _ (List.mem_of_getElem? (i := 34) rfl))) (Jvm.Free.ULB.iface_rides hZ.alike (hw _ (List.mem_of_getElem? (i := 35) rfl))) (mvT hZ (hw _ (List.mem_of_getElem? (i := 36) rfl))) (mvT hZ (hw _ (List.mem_of_getElem? (i := 37) rfl))) (mvT hZ (hw _ (List.mem_of_getElem? (i := 38) rfl))) (mvT hZ (hw _ (List.mem_of_getElem? (i := 39) rfl))) (mvT hZ (hw _ (List.mem_of_getElem? (i := 40) rfl))) (by decide) (backOf (W := 0) (rm_emp l Z a0 hw [] q (Int32.ofNat 0) h0 n0 Z0 D.2.2.2.2.2.1.2.2.1 D.2.2.2.2.2.1.2.2.2.1) hZ (hw _ (List.mem_of_getElem? (i := 41) rfl)) (hw _ (List.mem_of_getElem? (i := 11) rfl)) (by decide) (by decide)) q2a q2b q2c (g := (mkF m 4 #[.val (.ref a1), .unset] [(.ref q)])) rfl (by rw [hml]; rfl) (Steps.refl _) (argsL := []) (rest := []) (lenOf own_pd5 rfl) rfl (by show 2 * 0 + _ ≤ _; exact Nat.le_of_eq rfl) (hb hby own_dprog_31_2_4) (fun _ _ => ⟨rfl, e1, (by decide : 0 + 0 ≤ _), (by decide : 0 + 0 ≤ _)⟩)
  dsimp only [Pt.U, Pt.locs, Pt.cells, Pt.slots] at X2 l2 y2 z2 st2 hQ2
  rw [l2, y2, z2] at X2
  obtain ⟨rfl, Nq2, e2⟩ := hQ2
  have N2 := Fr.app N0 Nq2
  obtain ⟨T3, X3, e3, st3⟩ := getF X2 hx hZ hown (host := "") (Or.inl (hw _ (List.mem_of_getElem? (i := 26) rfl))) Via.refl e2 D.2.1 (g := (mkF m 19 #[.val (.ref a1), .val (.int (1 : Int32))] [(.ref a1)])) rfl rfl (hb hby own_dprog_31_2_19)
  obtain ⟨T4, h4, X4, e4, E4, A4, D4, -, st4⟩ := newO X3 hx hZ hown (hw _ (List.mem_of_getElem? (i := 46) rfl)) (hw _ (List.mem_of_getElem? (i := 47) rfl)) (hw _ (List.mem_of_getElem? (i := 48) rfl)) e3 (g := (mkF m 22 #[.val (.ref a1), .val (.int (1 : Int32))] [(.ref q)])) rfl (hb hby own_dprog_31_2_22) (by decide) (by decide)
  obtain ⟨b, g4⟩ : ∃ z, z = h0.size := ⟨_, rfl⟩
  rw [← g4] at A4 D4 st4
  have gn_b : n0 ≤ b := Nat.le_trans Z0 (Nat.le_of_eq g4.symm)
  have sz4 : n0 ≤ h4.size := Nat.le_trans Z0 E4.1
  have Xe1 := E4
  have zb := g4
  have E_b := A4
  have G1 := D4 (Or.inr (hw _ (List.mem_of_getElem? (i := 54) rfl))) (ty := .boolean) (by decide)
  have G2 := D4 (Or.inl (hw _ (List.mem_of_getElem? (i := 97) rfl))) (ty := .boolean) (by decide)
  obtain ⟨_, _, ⟨T5, L5, k5, n5⟩, -, X5, ⟨Lc5, hQ5, l5, y5, z5⟩, st5⟩ := X4.specialBack hx (y := (⟨"com/example/gabarit/gabarit/shacl/DescriptionOrder$Frame", "<init>", "(Z)V"⟩ : MethodName)) rfl hown (mvT hZ (hw _ (List.mem_of_getElem? (i := 49) rfl))) (mvT hZ (hw _ (List.mem_of_getElem? (i := 50) rfl))) (mvT hZ (hw _ (List.mem_of_getElem? (i := 51) rfl))) (by decide) (backOf (W := 2) (rm_fi l Z a0 hw [] b (0 : Int32) false _ h4 n0 sz4 rfl E_b G1 G2 gn_b) hZ (hw _ (List.mem_of_getElem? (i := 51) rfl)) (hw _ (List.mem_of_getElem? (i := 48) rfl)) (by decide) (by decide)) (g := (mkF m 27 #[.val (.ref a1), .val (.int (1 : Int32))] [(.int (0 : Int32)), (.ref b), (.ref b), (.ref q)])) rfl (by rw [hml]; rfl) (Steps.refl _) (a := b) (argsL := [(.int (0 : Int32))]) (rest := [(.ref b), (.ref q)]) (lenOf own_pd6 rfl) rfl (by show 2 * 0 + _ ≤ _; exact Nat.le_of_eq rfl) (hb hby own_dprog_31_2_27) (fun _ _ => ⟨rfl, e4, (by decide : 1 + 0 ≤ _), (by decide : 2 + 0 ≤ _)⟩)
  dsimp only [Pt.U, Pt.locs, Pt.cells, Pt.slots] at X5 l5 y5 z5 st5 hQ5
  rw [l5, y5, z5] at X5
  obtain ⟨rfl, Nq5, Kb, Eb, Fbl, Fbs⟩ := hQ5
  have sz5 : n0 ≤ T5.heap.size := Nat.le_trans sz4 Kb.1
  have N5 := Fr.app N2 Nq5
  obtain ⟨Dn, nbs⟩ := own_DO_new D Xe1 zb Kb
  obtain ⟨cq6, kq6, q6a, q6b, q6c⟩ := isOf hZ rfl (Dn.2.2.2.2.2.1.1)
  obtain ⟨_, _, ⟨T6, L6, k6, n6⟩, -, X6, ⟨Lc6, hQ6, l6, y6, z6⟩, st6⟩ := X5.interfaceBack hx (xi := (⟨"java/util/Deque", "addLast", "(Ljava/lang/Object;)V"⟩ : MethodName)) (y := (⟨"java/util/ArrayDeque", "addLast", "(Ljava/lang/Object;)V"⟩ : MethodName)) hown (mvT hZ (hw _ (List.mem_of_getElem? (i := 55) rfl))) (mvT hZ (hw _ (List.mem_of_getElem? (i := 56) rfl))) (mvT hZ (hw _ (List.mem_of_getElem? (i := 57) rfl))) (mvT hZ (hw _ (List.mem_of_getElem? (i := 58) rfl))) (mvT hZ (hw _ (List.mem_of_getElem? (i := 59) rfl))) (mvT hZ (hw _ (List.mem_of_getElem? (i := 60) rfl))) (mvT hZ (hw _ (List.mem_of_getElem? (i := 61) rfl))) (mvT hZ (hw _ (List.mem_of_getElem? (i := 40) rfl))) (by decide) (backOf (W := 0) (rm_add l Z a0 hw [] q b el k (([] : List (Addr × Bool × Bool)).map Prod.fst) T5.heap n0 sz5 Dn.2.2.2.2.2.1 (by simp <;> omega) (Ins.of_exa Eb (hw _ (List.mem_of_getElem? (i := 63) rfl)))) hZ (hw _ (List.mem_of_getElem? (i := 62) rfl)) (hw _ (List.mem_of_getElem? (i := 11) rfl)) (by decide) (by decide)) q6a q6b q6c (g := (mkF m 30 #[.val (.ref a1), .val (.int (1 : Int32))] [(.ref b), (.ref q)])) rfl (by rw [hml]; rfl) (Steps.refl _) (argsL := [(.ref b)]) (rest := []) (lenOf own_pd7 rfl) rfl (by show 2 * 0 + _ ≤ _; exact Nat.le_of_eq rfl) (hb hby own_dprog_31_2_30) (fun _ _ => ⟨rfl, rfl, (by decide : 1 + 0 ≤ _), (by decide : 2 + 0 ≤ _)⟩)
  dsimp only [Pt.U, Pt.locs, Pt.cells, Pt.slots] at X6 l6 y6 z6 st6 hQ6
  rw [l6, y6, z6] at X6
  obtain ⟨rfl, Nq6, Ka, DQa⟩ := hQ6
  have sz6 : n0 ≤ T6.heap.size := Nat.le_trans sz5 Ka.1
  have N6 := Fr.app N5 Nq6
  have Dp : own_DO Z T6.heap a1 q el k n0 ((b, false, false) :: ([] : List (Addr × Bool × Bool))) due cnt := own_DO_push Dn Ka DQa Eb Fbl Fbs gn_b nbs
  obtain ⟨T7, X7, e7, st7⟩ := getF X6 hx hZ hown (host := "") (Or.inl (hw _ (List.mem_of_getElem? (i := 67) rfl))) Via.refl rfl Dp.2.2.2.1 (g := (mkF m 37 #[.val (.ref a1), .val (.int (1 : Int32))] [(.ref a1), (.ref a1)])) rfl rfl (hb hby own_dprog_31_2_37)
  obtain ⟨T8, h8, X8, e8, W8, st8⟩ := putF X7 hx hZ hown (host := "") (Or.inl (hw _ (List.mem_of_getElem? (i := 67) rfl))) Via.refl e7 Dp.2.2.2.1 Dp.1 (Or.inl (hw _ (List.mem_of_getElem? (i := 68) rfl))) (hw _ (List.mem_of_getElem? (i := 1) rfl)) (ty := .int) (by decide) rfl rfl (g := (mkF m 42 #[.val (.ref a1), .val (.int (1 : Int32))] [(.int (cnt + (1 : Int32))), (.ref a1)])) rfl rfl (hb hby own_dprog_31_2_42)
  have N8 := Fr.snoc X8 N6 Dp.2.2.2.2.1
  have sz8 : n0 ≤ h8.size := Nat.le_trans sz6 (Keep.of_wr W8).1
  have Dq := own_DO_cnt hw Dp W8
  have zq := Nat.le_of_eq W8.size.symm
  obtain ⟨fs, hr, hrun, hended, hW, hsame⟩ := X8.leave (v := some (.int (1 : Int32))) (fun h => by rw [Bd.returns] at h; cases h)
  refine ⟨_, _, pre0 _ ?_, hrun, hended, _, _, rfl, ?_, ⟨_, rfl⟩, hW, hsame.mono (by decide) (by decide)⟩
  · show Steps p.tables e below (s₁.setTop (mkF m 0 #[.val (.ref a1), .unset] [])) _
    refine XS.aloadN X0.here hx rfl (hb hby own_dprog_31_2_0) rfl rfl ?_
    show Steps p.tables e below (s₁.setTop (mkF m 1 #[.val (.ref a1), .unset] [(.ref a1)])) _
    refine st1 _ ?_
    show Steps p.tables e below (T1.setTop (mkF m 4 #[.val (.ref a1), .unset] [(.ref q)])) _
    refine st2.trans ?_
    show Steps p.tables e below (T2.setTop (mkF m 9 #[.val (.ref a1), .unset] [(.int (own_emp (Int32.ofNat 0)))])) _
    rw [show own_emp (Int32.ofNat 0) = (1 : Int32) from by decide]
    show Steps p.tables e below (T2.setTop (mkF m 9 #[.val (.ref a1), .unset] [(.int (1 : Int32))])) _
    refine XS.istoreN X2.here hx rfl (hb hby own_dprog_31_2_9) rfl (l' := #[.val (.ref a1), .val (.int (1 : Int32))]) rfl ?_
    show Steps p.tables e below (T2.setTop (mkF m 10 #[.val (.ref a1), .val (.int (1 : Int32))] [])) _
    refine XS.iloadN X2.here hx rfl (hb hby own_dprog_31_2_10) rfl ?_
    show Steps p.tables e below (T2.setTop (mkF m 11 #[.val (.ref a1), .val (.int (1 : Int32))] [(.int (1 : Int32))])) _
    refine XS.ifYes X2.here hx rfl (pc0 := 11) (pc' := 18) rfl (hb hby own_dprog_31_2_11) rfl ((if0 _ _).trans (feq (by decide)).2) (by decide) (by decide) ?_
    show Steps p.tables e below (T2.setTop (mkF m 18 #[.val (.ref a1), .val (.int (1 : Int32))] [])) _
    refine XS.aloadN X2.here hx rfl (hb hby own_dprog_31_2_18) rfl rfl ?_
    show Steps p.tables e below (T2.setTop (mkF m 19 #[.val (.ref a1), .val (.int (1 : Int32))] [(.ref a1)])) _
    refine st3 _ ?_
    show Steps p.tables e below (T3.setTop (mkF m 22 #[.val (.ref a1), .val (.int (1 : Int32))] [(.ref q)])) _
    refine st4 _ ?_
    show Steps p.tables e below (T4.setTop (mkF m 25 #[.val (.ref a1), .val (.int (1 : Int32))] [(.ref b), (.ref q)])) _
    refine XS.dup X4.here hx rfl (hb hby own_dprog_31_2_25) rfl rfl ?_
    show Steps p.tables e below (T4.setTop (mkF m 26 #[.val (.ref a1), .val (.int (1 : Int32))] [(.ref b), (.ref b), (.ref q)])) _
    refine XS.iconst X4.here hx rfl (hb hby own_dprog_31_2_26) ?_
    show Steps p.tables e below (T4.setTop (mkF m 27 #[.val (.ref a1), .val (.int (1 : Int32))] [(.int (0 : Int32)), (.ref b), (.ref b), (.ref q)])) _
    refine st5.trans ?_
    show Steps p.tables e below (T5.setTop (mkF m 30 #[.val (.ref a1), .val (.int (1 : Int32))] [(.ref b), (.ref q)])) _
    refine st6.trans ?_
    show Steps p.tables e below (T6.setTop (mkF m 35 #[.val (.ref a1), .val (.int (1 : Int32))] [])) _
    refine XS.aloadN X6.here hx rfl (hb hby own_dprog_31_2_35) rfl rfl ?_
    show Steps p.tables e below (T6.setTop (mkF m 36 #[.val (.ref a1), .val (.int (1 : Int32))] [(.ref a1)])) _
    refine XS.dup X6.here hx rfl (hb hby own_dprog_31_2_36) rfl rfl ?_
    show Steps p.tables e below (T6.setTop (mkF m 37 #[.val (.ref a1), .val (.int (1 : Int32))] [(.ref a1), (.ref a1)])) _
    refine st7 _ ?_
    show Steps p.tables e below (T7.setTop (mkF m 40 #[.val (.ref a1), .val (.int (1 : Int32))] [(.int cnt), (.ref a1)])) _
    refine XS.iconst X7.here hx rfl (hb hby own_dprog_31_2_40) ?_
    show Steps p.tables e below (T7.setTop (mkF m 41 #[.val (.ref a1), .val (.int (1 : Int32))] [(.int (1 : Int32)), (.int cnt), (.ref a1)])) _
    refine XS.iadd X7.here hx rfl (hb hby own_dprog_31_2_41) rfl ?_
    show Steps p.tables e below (T7.setTop (mkF m 42 #[.val (.ref a1), .val (.int (1 : Int32))] [(.int (cnt + (1 : Int32))), (.ref a1)])) _
    refine st8 _ ?_
    show Steps p.tables e below (T8.setTop (mkF m 45 #[.val (.ref a1), .val (.int (1 : Int32))] [])) _
    refine XS.iloadN X8.here hx rfl (hb hby own_dprog_31_2_45) rfl ?_
    show Steps p.tables e below (T8.setTop (mkF m 46 #[.val (.ref a1), .val (.int (1 : Int32))] [(.int (1 : Int32))])) _
    exact retN X8 hx (t := .boolean) Bd.returns (by simp) (hb hby own_dprog_31_2_46) hr
  · show Q_bbE Z a1 q el k due cnt h0 n0 _ T8.heap _
    rw [e8]
    exact ⟨⟨_, rfl⟩, N8, Nat.le_trans Xe1.1 (Nat.le_trans Kb.1 (Nat.le_trans Ka.1 zq)), b, Dq⟩
theorem own_ef_bbN (m : MethodId) (x0 : Addr) : entryFrame m #[(.ref x0)] 2 = mkF m 0 #[.val (.ref x0), .unset] [] := by first | (simp [entryFrame, mkF, argsToLocals, Value.category]; done) | rfl
def Q_bbN (Z : State) (a1 : Addr) (q : Addr) (el : Addr) (k : ClassId) (f : Addr) (lb : Bool) (sb : Bool) (r : List (Addr × Bool × Bool)) (due : Bool) (cnt : Int32) (h0 : Heap) (n0 : Nat) (v : Option Value) (h : Heap) (L : List Loc) : Prop := (∃ x : Int32, v = some (.int x)) ∧ Fr n0 L ∧ h0.size ≤ h.size ∧ ∃ b : Addr, own_DO Z h a1 q el k n0 ((b, false, false) :: (f, lb, true) :: r) false (cnt + 1)
set_option maxRecDepth 65536 in
set_option maxHeartbeats 40000000 in
theorem rm_bbN (l : Launch) (Z : State) (a0 : Array Value) (hw : ∀ d ∈ tables_1, d.before a0 Z = true) (ws : List Jvm.Cond) (a1 : Addr) (q : Addr) (el : Addr) (k : ClassId) (f : Addr) (lb : Bool) (sb : Bool) (r : List (Addr × Bool × Bool)) (due : Bool) (cnt : Int32) (h0 : Heap) (n0 : Nat) (Z0 : n0 ≤ h0.size) (D : own_DO Z h0 a1 q el k n0 ((f, lb, sb) :: r) due cnt) (hlen : r.length ≤ 5) (hv : lb = true ∨ due = true) :
    MetFree l (⟨"com/example/gabarit/gabarit/shacl/DescriptionOrder", "beginBlankNode", "()Z"⟩ : MethodName) (head1 (Jvm.Cond.code (⟨"com/example/gabarit/gabarit/shacl/DescriptionOrder", "beginBlankNode", "()Z"⟩ : MethodName) prog_31_method_2_code 2 (some .boolean) :: ws) ({ frames := 4, cells := 1, slots := 2, locals := 53 } : Room)) (fun a U => a = #[(.ref a1)] ∧ Z.Warmed39 U.vm ∧ U.heap = h0) (fun _ _ _ _ _ => True) (fun _ U o U' => ∃ v L, o = .returned v ∧ Q_bbN Z a1 q el k f lb sb r due cnt h0 n0 v U'.heap L ∧ FrameEnd U o U' L ({ frames := 4, cells := 1, slots := 2, locals := 53 } : Room).cells ({ frames := 4, cells := 1, slots := 2, locals := 53 } : Room).slots) := by
  refine MetFree.of_bodySF (plainFor_of_name own_pn_com_example_gabarit_gabarit_shacl_DescriptionOrder) hisR ?_
  intro p e s m args below meth c s₁ Bd hml0 hP hK
  obtain ⟨rfl, hZ, hh⟩ := hP
  have hx := Bd.exec
  have hby := Bd.bytes
  have hml : c.maxLocals = 2 := hml0
  have hown : s.vm.findClass "com/example/gabarit/gabarit/shacl/DescriptionOrder" = some m.cls := findClass_of_methodNamed Bd.named
  have hnm := (name_of_methodNamed Bd.named Bd.method).1
  have X0 : Stand p l e ({ frames := 4, cells := 1, slots := 2, locals := 53 } : Room) s m #[(.ref a1)] below meth c s₁ [] 0 0 := Stand.of_body Bd
  have e0 : s₁.heap = h0 := by rw [← hh, Bd.state]; rfl
  have N0 := Fr.nil n0
  have pre0 : ∀ t, Steps p.tables e below (s₁.setTop (mkF m 0 #[.val (.ref a1), .unset] [])) t → Steps p.tables e below (s₁.setTop (entryFrame m #[(.ref a1)] 2)) t := fun t k => castTop (own_ef_bbN m a1) k
  have hn := (own_num ⟨r.length, by omega⟩).2.2.2.2.2.2.2.2
  simp only at hn
  have hem : own_emp (Int32.ofNat (r.length + 1)) = (0 : Int32) := if_neg hn
  have Ft : Fld Z h0 q "java/util/ArrayDeque" "tail" "I" (.int (Int32.ofNat (r.length + 1))) := by have := D.2.2.2.2.2.1.2.2.2.1; simpa using this
  obtain ⟨T1, X1, e1, st1⟩ := getF X0 hx hZ hown (host := "") (Or.inl (hw _ (List.mem_of_getElem? (i := 26) rfl))) Via.refl e0 D.2.1 (g := (mkF m 1 #[.val (.ref a1), .unset] [(.ref a1)])) rfl rfl (hb hby own_dprog_31_2_1)
  obtain ⟨cq2, kq2, q2a, q2b, q2c⟩ := isOf hZ e1 (D.2.2.2.2.2.1.1)
  obtain ⟨_, _, ⟨T2, L2, k2, n2⟩, -, X2, ⟨Lc2, hQ2, l2, y2, z2⟩, st2⟩ := own_backUp X1 hx (xi := (⟨"java/util/Deque", "isEmpty", "()Z"⟩ : MethodName)) (y := (⟨"java/util/ArrayDeque", "isEmpty", "()Z"⟩ : MethodName)) (J := "java/util/Collection") (by decide) (by decide) hown (mvT hZ (hw _ (List.mem_of_getElem? (i := 33) rfl))) (mvT hZ (hw _ (List.mem_of_getElem? (i := 34) rfl))) (Jvm.Free.ULB.iface_rides hZ.alike (hw _ (List.mem_of_getElem? (i := 35) rfl))) (mvT hZ (hw _ (List.mem_of_getElem? (i := 36) rfl))) (mvT hZ (hw _ (List.mem_of_getElem? (i := 37) rfl))) (mvT hZ (hw _ (List.mem_of_getElem? (i := 38) rfl))) (mvT hZ (hw _ (List.mem_of_getElem? (i := 39) rfl))) (mvT hZ (hw _ (List.mem_of_getElem? (i := 40) rfl))) (by decide) (backOf (W := 0) (rm_emp l Z a0 hw [] q (Int32.ofNat (r.length + 1)) h0 n0 Z0 D.2.2.2.2.2.1.2.2.1 Ft) hZ (hw _ (List.mem_of_getElem? (i := 41) rfl)) (hw _ (List.mem_of_getElem? (i := 11) rfl)) (by decide) (by decide)) q2a q2b q2c (g := (mkF m 4 #[.val (.ref a1), .unset] [(.ref q)])) rfl (by rw [hml]; rfl) (Steps.refl _) (argsL := []) (rest := []) (lenOf own_pd5 rfl) rfl (by show 2 * 0 + _ ≤ _; exact Nat.le_of_eq rfl) (hb hby own_dprog_31_2_4) (fun _ _ => ⟨rfl, e1, (by decide : 0 + 0 ≤ _), (by decide : 0 + 0 ≤ _)⟩)
  dsimp only [Pt.U, Pt.locs, Pt.cells, Pt.slots] at X2 l2 y2 z2 st2 hQ2
  rw [l2, y2, z2] at X2
  obtain ⟨rfl, Nq2, e2⟩ := hQ2
  have N2 := Fr.app N0 Nq2
  obtain ⟨cq3, kq3, q3a, q3b, q3c⟩ := isOf hZ e2 (D.1)
  obtain ⟨_, _, ⟨T3, L3, k3, n3⟩, -, X3, ⟨Lc3, hQ3, l3, y3, z3⟩, st3⟩ := X2.virtualBack hx (y := (⟨"com/example/gabarit/gabarit/shacl/DescriptionOrder", "value", "()V"⟩ : MethodName)) (z := (⟨"com/example/gabarit/gabarit/shacl/DescriptionOrder", "value", "()V"⟩ : MethodName)) hown (mvT hZ (hw _ (List.mem_of_getElem? (i := 108) rfl))) (mvT hZ (hw _ (List.mem_of_getElem? (i := 99) rfl))) (notFace_of_selects (args := #[]) (mvT hZ (hw _ (List.mem_of_getElem? (i := 101) rfl)))) (mvT hZ (hw _ (List.mem_of_getElem? (i := 101) rfl))) (mvT hZ (hw _ (List.mem_of_getElem? (i := 100) rfl))) (by decide) (backOf (W := 0) (rm_val l Z a0 hw [] a1 q el k f lb sb r due cnt h0 n0 Z0 D (by omega) hv) hZ (hw _ (List.mem_of_getElem? (i := 102) rfl)) (hw _ (List.mem_of_getElem? (i := 2) rfl)) (by decide) (by decide)) q3a q3c (g := (mkF m 15 #[.val (.ref a1), .val (.int (0 : Int32))] [(.ref a1)])) rfl (by rw [hml]; rfl) (Steps.refl _) (argsL := []) (rest := []) (lenOf own_pd0 rfl) rfl (by show 2 * 0 + _ ≤ _; exact Nat.le_of_eq rfl) (hb hby own_dprog_31_2_15) (fun _ _ => ⟨rfl, e2, (by decide : 0 + 0 ≤ _), (by decide : 0 + 0 ≤ _)⟩)
  dsimp only [Pt.U, Pt.locs, Pt.cells, Pt.slots] at X3 l3 y3 z3 st3 hQ3
  rw [l3, y3, z3] at X3
  obtain ⟨rfl, Nq3, zv, Dv⟩ := hQ3
  have sz3 : n0 ≤ T3.heap.size := Nat.le_trans Z0 zv
  have N3 := Fr.app N2 Nq3
  obtain ⟨T4, X4, e4, st4⟩ := getF X3 hx hZ hown (host := "") (Or.inl (hw _ (List.mem_of_getElem? (i := 26) rfl))) Via.refl rfl Dv.2.1 (g := (mkF m 19 #[.val (.ref a1), .val (.int (0 : Int32))] [(.ref a1)])) rfl rfl (hb hby own_dprog_31_2_19)
  obtain ⟨T5, h5, X5, e5, E5, A5, D5, -, st5⟩ := newO X4 hx hZ hown (hw _ (List.mem_of_getElem? (i := 46) rfl)) (hw _ (List.mem_of_getElem? (i := 47) rfl)) (hw _ (List.mem_of_getElem? (i := 48) rfl)) e4 (g := (mkF m 22 #[.val (.ref a1), .val (.int (0 : Int32))] [(.ref q)])) rfl (hb hby own_dprog_31_2_22) (by decide) (by decide)
  obtain ⟨b, g5⟩ : ∃ z, z = T3.heap.size := ⟨_, rfl⟩
  rw [← g5] at A5 D5 st5
  have gn_b : n0 ≤ b := Nat.le_trans sz3 (Nat.le_of_eq g5.symm)
  have sz5 : n0 ≤ h5.size := Nat.le_trans sz3 E5.1
  have Xe1 := E5
  have zb := g5
  have E_b := A5
  have G1 := D5 (Or.inr (hw _ (List.mem_of_getElem? (i := 54) rfl))) (ty := .boolean) (by decide)
  have G2 := D5 (Or.inl (hw _ (List.mem_of_getElem? (i := 97) rfl))) (ty := .boolean) (by decide)
  obtain ⟨_, _, ⟨T6, L6, k6, n6⟩, -, X6, ⟨Lc6, hQ6, l6, y6, z6⟩, st6⟩ := X5.specialBack hx (y := (⟨"com/example/gabarit/gabarit/shacl/DescriptionOrder$Frame", "<init>", "(Z)V"⟩ : MethodName)) rfl hown (mvT hZ (hw _ (List.mem_of_getElem? (i := 49) rfl))) (mvT hZ (hw _ (List.mem_of_getElem? (i := 50) rfl))) (mvT hZ (hw _ (List.mem_of_getElem? (i := 51) rfl))) (by decide) (backOf (W := 2) (rm_fi l Z a0 hw [] b (0 : Int32) false _ h5 n0 sz5 rfl E_b G1 G2 gn_b) hZ (hw _ (List.mem_of_getElem? (i := 51) rfl)) (hw _ (List.mem_of_getElem? (i := 48) rfl)) (by decide) (by decide)) (g := (mkF m 27 #[.val (.ref a1), .val (.int (0 : Int32))] [(.int (0 : Int32)), (.ref b), (.ref b), (.ref q)])) rfl (by rw [hml]; rfl) (Steps.refl _) (a := b) (argsL := [(.int (0 : Int32))]) (rest := [(.ref b), (.ref q)]) (lenOf own_pd6 rfl) rfl (by show 2 * 0 + _ ≤ _; exact Nat.le_of_eq rfl) (hb hby own_dprog_31_2_27) (fun _ _ => ⟨rfl, e5, (by decide : 1 + 0 ≤ _), (by decide : 2 + 0 ≤ _)⟩)
  dsimp only [Pt.U, Pt.locs, Pt.cells, Pt.slots] at X6 l6 y6 z6 st6 hQ6
  rw [l6, y6, z6] at X6
  obtain ⟨rfl, Nq6, Kb, Eb, Fbl, Fbs⟩ := hQ6
  have sz6 : n0 ≤ T6.heap.size := Nat.le_trans sz5 Kb.1
  have N6 := Fr.app N3 Nq6
  obtain ⟨Dn, nbs⟩ := own_DO_new Dv Xe1 zb Kb
  obtain ⟨cq7, kq7, q7a, q7b, q7c⟩ := isOf hZ rfl (Dn.2.2.2.2.2.1.1)
  obtain ⟨_, _, ⟨T7, L7, k7, n7⟩, -, X7, ⟨Lc7, hQ7, l7, y7, z7⟩, st7⟩ := X6.interfaceBack hx (xi := (⟨"java/util/Deque", "addLast", "(Ljava/lang/Object;)V"⟩ : MethodName)) (y := (⟨"java/util/ArrayDeque", "addLast", "(Ljava/lang/Object;)V"⟩ : MethodName)) hown (mvT hZ (hw _ (List.mem_of_getElem? (i := 55) rfl))) (mvT hZ (hw _ (List.mem_of_getElem? (i := 56) rfl))) (mvT hZ (hw _ (List.mem_of_getElem? (i := 57) rfl))) (mvT hZ (hw _ (List.mem_of_getElem? (i := 58) rfl))) (mvT hZ (hw _ (List.mem_of_getElem? (i := 59) rfl))) (mvT hZ (hw _ (List.mem_of_getElem? (i := 60) rfl))) (mvT hZ (hw _ (List.mem_of_getElem? (i := 61) rfl))) (mvT hZ (hw _ (List.mem_of_getElem? (i := 40) rfl))) (by decide) (backOf (W := 0) (rm_add l Z a0 hw [] q b el k (((f, lb, true) :: r).map Prod.fst) T6.heap n0 sz6 Dn.2.2.2.2.2.1 (by simp <;> omega) (Ins.of_exa Eb (hw _ (List.mem_of_getElem? (i := 63) rfl)))) hZ (hw _ (List.mem_of_getElem? (i := 62) rfl)) (hw _ (List.mem_of_getElem? (i := 11) rfl)) (by decide) (by decide)) q7a q7b q7c (g := (mkF m 30 #[.val (.ref a1), .val (.int (0 : Int32))] [(.ref b), (.ref q)])) rfl (by rw [hml]; rfl) (Steps.refl _) (argsL := [(.ref b)]) (rest := []) (lenOf own_pd7 rfl) rfl (by show 2 * 0 + _ ≤ _; exact Nat.le_of_eq rfl) (hb hby own_dprog_31_2_30) (fun _ _ => ⟨rfl, rfl, (by decide : 1 + 0 ≤ _), (by decide : 2 + 0 ≤ _)⟩)
  dsimp only [Pt.U, Pt.locs, Pt.cells, Pt.slots] at X7 l7 y7 z7 st7 hQ7
  rw [l7, y7, z7] at X7
  obtain ⟨rfl, Nq7, Ka, DQa⟩ := hQ7
  have sz7 : n0 ≤ T7.heap.size := Nat.le_trans sz6 Ka.1
  have N7 := Fr.app N6 Nq7
  have Dp : own_DO Z T7.heap a1 q el k n0 ((b, false, false) :: ((f, lb, true) :: r)) false cnt := own_DO_push Dn Ka DQa Eb Fbl Fbs gn_b nbs
  obtain ⟨T8, X8, e8, st8⟩ := getF X7 hx hZ hown (host := "") (Or.inl (hw _ (List.mem_of_getElem? (i := 67) rfl))) Via.refl rfl Dp.2.2.2.1 (g := (mkF m 37 #[.val (.ref a1), .val (.int (0 : Int32))] [(.ref a1), (.ref a1)])) rfl rfl (hb hby own_dprog_31_2_37)
  obtain ⟨T9, h9, X9, e9, W9, st9⟩ := putF X8 hx hZ hown (host := "") (Or.inl (hw _ (List.mem_of_getElem? (i := 67) rfl))) Via.refl e8 Dp.2.2.2.1 Dp.1 (Or.inl (hw _ (List.mem_of_getElem? (i := 68) rfl))) (hw _ (List.mem_of_getElem? (i := 1) rfl)) (ty := .int) (by decide) rfl rfl (g := (mkF m 42 #[.val (.ref a1), .val (.int (0 : Int32))] [(.int (cnt + (1 : Int32))), (.ref a1)])) rfl rfl (hb hby own_dprog_31_2_42)
  have N9 := Fr.snoc X9 N7 Dp.2.2.2.2.1
  have sz9 : n0 ≤ h9.size := Nat.le_trans sz7 (Keep.of_wr W9).1
  have Dq := own_DO_cnt hw Dp W9
  have zq := Nat.le_of_eq W9.size.symm
  obtain ⟨fs, hr, hrun, hended, hW, hsame⟩ := X9.leave (v := some (.int (0 : Int32))) (fun h => by rw [Bd.returns] at h; cases h)
  refine ⟨_, _, pre0 _ ?_, hrun, hended, _, _, rfl, ?_, ⟨_, rfl⟩, hW, hsame.mono (by decide) (by decide)⟩
  · show Steps p.tables e below (s₁.setTop (mkF m 0 #[.val (.ref a1), .unset] [])) _
    refine XS.aloadN X0.here hx rfl (hb hby own_dprog_31_2_0) rfl rfl ?_
    show Steps p.tables e below (s₁.setTop (mkF m 1 #[.val (.ref a1), .unset] [(.ref a1)])) _
    refine st1 _ ?_
    show Steps p.tables e below (T1.setTop (mkF m 4 #[.val (.ref a1), .unset] [(.ref q)])) _
    refine st2.trans ?_
    show Steps p.tables e below (T2.setTop (mkF m 9 #[.val (.ref a1), .unset] [(.int (own_emp (Int32.ofNat (r.length + 1))))])) _
    rw [hem]
    show Steps p.tables e below (T2.setTop (mkF m 9 #[.val (.ref a1), .unset] [(.int (0 : Int32))])) _
    refine XS.istoreN X2.here hx rfl (hb hby own_dprog_31_2_9) rfl (l' := #[.val (.ref a1), .val (.int (0 : Int32))]) rfl ?_
    show Steps p.tables e below (T2.setTop (mkF m 10 #[.val (.ref a1), .val (.int (0 : Int32))] [])) _
    refine XS.iloadN X2.here hx rfl (hb hby own_dprog_31_2_10) rfl ?_
    show Steps p.tables e below (T2.setTop (mkF m 11 #[.val (.ref a1), .val (.int (0 : Int32))] [(.int (0 : Int32))])) _
    refine XS.ifNo X2.here hx rfl (hb hby own_dprog_31_2_11) rfl ((if0 _ _).trans (teq (by decide)).2) ?_
    show Steps p.tables e below (T2.setTop (mkF m 14 #[.val (.ref a1), .val (.int (0 : Int32))] [])) _
    refine XS.aloadN X2.here hx rfl (hb hby own_dprog_31_2_14) rfl rfl ?_
    show Steps p.tables e below (T2.setTop (mkF m 15 #[.val (.ref a1), .val (.int (0 : Int32))] [(.ref a1)])) _
    refine st3.trans ?_
    show Steps p.tables e below (T3.setTop (mkF m 18 #[.val (.ref a1), .val (.int (0 : Int32))] [])) _
    refine XS.aloadN X3.here hx rfl (hb hby own_dprog_31_2_18) rfl rfl ?_
    show Steps p.tables e below (T3.setTop (mkF m 19 #[.val (.ref a1), .val (.int (0 : Int32))] [(.ref a1)])) _
    refine st4 _ ?_
    show Steps p.tables e below (T4.setTop (mkF m 22 #[.val (.ref a1), .val (.int (0 : Int32))] [(.ref q)])) _
    refine st5 _ ?_
    show Steps p.tables e below (T5.setTop (mkF m 25 #[.val (.ref a1), .val (.int (0 : Int32))] [(.ref b), (.ref q)])) _
    refine XS.dup X5.here hx rfl (hb hby own_dprog_31_2_25) rfl rfl ?_
    show Steps p.tables e below (T5.setTop (mkF m 26 #[.val (.ref a1), .val (.int (0 : Int32))] [(.ref b), (.ref b), (.ref q)])) _
    refine XS.iconst X5.here hx rfl (hb hby own_dprog_31_2_26) ?_
    show Steps p.tables e below (T5.setTop (mkF m 27 #[.val (.ref a1), .val (.int (0 : Int32))] [(.int (0 : Int32)), (.ref b), (.ref b), (.ref q)])) _
    refine st6.trans ?_
    show Steps p.tables e below (T6.setTop (mkF m 30 #[.val (.ref a1), .val (.int (0 : Int32))] [(.ref b), (.ref q)])) _
    refine st7.trans ?_
    show Steps p.tables e below (T7.setTop (mkF m 35 #[.val (.ref a1), .val (.int (0 : Int32))] [])) _
    refine XS.aloadN X7.here hx rfl (hb hby own_dprog_31_2_35) rfl rfl ?_
    show Steps p.tables e below (T7.setTop (mkF m 36 #[.val (.ref a1), .val (.int (0 : Int32))] [(.ref a1)])) _
    refine XS.dup X7.here hx rfl (hb hby own_dprog_31_2_36) rfl rfl ?_
    show Steps p.tables e below (T7.setTop (mkF m 37 #[.val (.ref a1), .val (.int (0 : Int32))] [(.ref a1), (.ref a1)])) _
    refine st8 _ ?_
    show Steps p.tables e below (T8.setTop (mkF m 40 #[.val (.ref a1), .val (.int (0 : Int32))] [(.int cnt), (.ref a1)])) _
    refine XS.iconst X8.here hx rfl (hb hby own_dprog_31_2_40) ?_
    show Steps p.tables e below (T8.setTop (mkF m 41 #[.val (.ref a1), .val (.int (0 : Int32))] [(.int (1 : Int32)), (.int cnt), (.ref a1)])) _
    refine XS.iadd X8.here hx rfl (hb hby own_dprog_31_2_41) rfl ?_
    show Steps p.tables e below (T8.setTop (mkF m 42 #[.val (.ref a1), .val (.int (0 : Int32))] [(.int (cnt + (1 : Int32))), (.ref a1)])) _
    refine st9 _ ?_
    show Steps p.tables e below (T9.setTop (mkF m 45 #[.val (.ref a1), .val (.int (0 : Int32))] [])) _
    refine XS.iloadN X9.here hx rfl (hb hby own_dprog_31_2_45) rfl ?_
    show Steps p.tables e below (T9.setTop (mkF m 46 #[.val (.ref a1), .val (.int (0 : Int32))] [(.int (0 : Int32))])) _
    exact retN X9 hx (t := .boolean) Bd.returns (by simp) (hb hby own_dprog_31_2_46) hr
  · show Q_bbN Z a1 q el k f lb sb r due cnt h0 n0 _ T9.heap _
    rw [e9]
    exact ⟨⟨_, rfl⟩, N9, Nat.le_trans zv (Nat.le_trans Xe1.1 (Nat.le_trans Kb.1 (Nat.le_trans Ka.1 zq))), b, Dq⟩
theorem own_dprog_31_6_0 : decode prog_31_method_6_code 0 = .ok (.aload_n 0, 1) := by decide +kernel
theorem own_dprog_31_6_1 : decode prog_31_method_6_code 1 = .ok (.invokevirtual 22, 3) := by decide +kernel
theorem own_dprog_31_6_4 : decode prog_31_method_6_code 4 = .ok (.aload_n 0, 1) := by decide +kernel
theorem own_dprog_31_6_5 : decode prog_31_method_6_code 5 = .ok (.getfield 10, 3) := by decide +kernel
theorem own_dprog_31_6_8 : decode prog_31_method_6_code 8 = .ok (.new 25, 3) := by decide +kernel
theorem own_dprog_31_6_11 : decode prog_31_method_6_code 11 = .ok (.dup, 1) := by decide +kernel
theorem own_dprog_31_6_12 : decode prog_31_method_6_code 12 = .ok (.iconst 1, 1) := by decide +kernel
theorem own_dprog_31_6_13 : decode prog_31_method_6_code 13 = .ok (.invokespecial 27, 3) := by decide +kernel
theorem own_dprog_31_6_16 : decode prog_31_method_6_code 16 = .ok (.invokeinterface 30 2, 5) := by decide +kernel
theorem own_dprog_31_6_21 : decode prog_31_method_6_code 21 = .ok (.return_, 1) := by decide +kernel
theorem own_ef_bl (m : MethodId) (x0 : Addr) : entryFrame m #[(.ref x0)] 1 = mkF m 0 #[.val (.ref x0)] [] := by first | (simp [entryFrame, mkF, argsToLocals, Value.category]; done) | rfl
def Q_bl (Z : State) (a1 : Addr) (q : Addr) (el : Addr) (k : ClassId) (f : Addr) (lb : Bool) (sb : Bool) (r : List (Addr × Bool × Bool)) (due : Bool) (cnt : Int32) (h0 : Heap) (n0 : Nat) (v : Option Value) (h : Heap) (L : List Loc) : Prop := v = none ∧ Fr n0 L ∧ h0.size ≤ h.size ∧ ∃ b : Addr, own_DO Z h a1 q el k n0 ((b, true, false) :: (f, lb, true) :: r) false cnt
set_option maxRecDepth 65536 in
set_option maxHeartbeats 40000000 in
theorem rm_bl (l : Launch) (Z : State) (a0 : Array Value) (hw : ∀ d ∈ tables_1, d.before a0 Z = true) (ws : List Jvm.Cond) (a1 : Addr) (q : Addr) (el : Addr) (k : ClassId) (f : Addr) (lb : Bool) (sb : Bool) (r : List (Addr × Bool × Bool)) (due : Bool) (cnt : Int32) (h0 : Heap) (n0 : Nat) (Z0 : n0 ≤ h0.size) (D : own_DO Z h0 a1 q el k n0 ((f, lb, sb) :: r) due cnt) (hlen : r.length ≤ 5) (hv : lb = true ∨ due = true) :
    MetFree l (⟨"com/example/gabarit/gabarit/shacl/DescriptionOrder", "beginList", "()V"⟩ : MethodName) (head1 (Jvm.Cond.code (⟨"com/example/gabarit/gabarit/shacl/DescriptionOrder", "beginList", "()V"⟩ : MethodName) prog_31_method_6_code 1 none :: ws) ({ frames := 4, cells := 1, slots := 2, locals := 53 } : Room)) (fun a U => a = #[(.ref a1)] ∧ Z.Warmed39 U.vm ∧ U.heap = h0) (fun _ _ _ _ _ => True) (fun _ U o U' => ∃ v L, o = .returned v ∧ Q_bl Z a1 q el k f lb sb r due cnt h0 n0 v U'.heap L ∧ FrameEnd U o U' L ({ frames := 4, cells := 1, slots := 2, locals := 53 } : Room).cells ({ frames := 4, cells := 1, slots := 2, locals := 53 } : Room).slots) := by
  refine MetFree.of_bodySF (plainFor_of_name own_pn_com_example_gabarit_gabarit_shacl_DescriptionOrder) hisR ?_
  intro p e s m args below meth c s₁ Bd hml0 hP hK
  obtain ⟨rfl, hZ, hh⟩ := hP
  have hx := Bd.exec
  have hby := Bd.bytes
  have hml : c.maxLocals = 1 := hml0
  have hown : s.vm.findClass "com/example/gabarit/gabarit/shacl/DescriptionOrder" = some m.cls := findClass_of_methodNamed Bd.named
  have hnm := (name_of_methodNamed Bd.named Bd.method).1
  have X0 : Stand p l e ({ frames := 4, cells := 1, slots := 2, locals := 53 } : Room) s m #[(.ref a1)] below meth c s₁ [] 0 0 := Stand.of_body Bd
  have e0 : s₁.heap = h0 := by rw [← hh, Bd.state]; rfl
  have N0 := Fr.nil n0
  have pre0 : ∀ t, Steps p.tables e below (s₁.setTop (mkF m 0 #[.val (.ref a1)] [])) t → Steps p.tables e below (s₁.setTop (entryFrame m #[(.ref a1)] 1)) t := fun t k => castTop (own_ef_bl m a1) k
  obtain ⟨cq1, kq1, q1a, q1b, q1c⟩ := isOf hZ e0 (D.1)
  obtain ⟨_, _, ⟨T1, L1, k1, n1⟩, -, X1, ⟨Lc1, hQ1, l1, y1, z1⟩, st1⟩ := X0.virtualBack hx (y := (⟨"com/example/gabarit/gabarit/shacl/DescriptionOrder", "value", "()V"⟩ : MethodName)) (z := (⟨"com/example/gabarit/gabarit/shacl/DescriptionOrder", "value", "()V"⟩ : MethodName)) hown (mvT hZ (hw _ (List.mem_of_getElem? (i := 108) rfl))) (mvT hZ (hw _ (List.mem_of_getElem? (i := 99) rfl))) (notFace_of_selects (args := #[]) (mvT hZ (hw _ (List.mem_of_getElem? (i := 101) rfl)))) (mvT hZ (hw _ (List.mem_of_getElem? (i := 101) rfl))) (mvT hZ (hw _ (List.mem_of_getElem? (i := 100) rfl))) (by decide) (backOf (W := 0) (rm_val l Z a0 hw [] a1 q el k f lb sb r due cnt h0 n0 Z0 D (by omega) hv) hZ (hw _ (List.mem_of_getElem? (i := 102) rfl)) (hw _ (List.mem_of_getElem? (i := 2) rfl)) (by decide) (by decide)) q1a q1c (g := (mkF m 1 #[.val (.ref a1)] [(.ref a1)])) rfl (by rw [hml]; rfl) (Steps.refl _) (argsL := []) (rest := []) (lenOf own_pd0 rfl) rfl (by show 2 * 0 + _ ≤ _; exact Nat.le_of_eq rfl) (hb hby own_dprog_31_6_1) (fun _ _ => ⟨rfl, e0, (by decide : 0 + 0 ≤ _), (by decide : 0 + 0 ≤ _)⟩)
  dsimp only [Pt.U, Pt.locs, Pt.cells, Pt.slots] at X1 l1 y1 z1 st1 hQ1
  rw [l1, y1, z1] at X1
  obtain ⟨rfl, Nq1, zv, Dv⟩ := hQ1
  have sz1 : n0 ≤ T1.heap.size := Nat.le_trans Z0 zv
  have N1 := Fr.app N0 Nq1
  obtain ⟨T2, X2, e2, st2⟩ := getF X1 hx hZ hown (host := "") (Or.inl (hw _ (List.mem_of_getElem? (i := 26) rfl))) Via.refl rfl Dv.2.1 (g := (mkF m 5 #[.val (.ref a1)] [(.ref a1)])) rfl rfl (hb hby own_dprog_31_6_5)
  obtain ⟨T3, h3, X3, e3, E3, A3, D3, -, st3⟩ := newO X2 hx hZ hown (hw _ (List.mem_of_getElem? (i := 46) rfl)) (hw _ (List.mem_of_getElem? (i := 47) rfl)) (hw _ (List.mem_of_getElem? (i := 48) rfl)) e2 (g := (mkF m 8 #[.val (.ref a1)] [(.ref q)])) rfl (hb hby own_dprog_31_6_8) (by decide) (by decide)
  obtain ⟨b, g3⟩ : ∃ z, z = T1.heap.size := ⟨_, rfl⟩
  rw [← g3] at A3 D3 st3
  have gn_b : n0 ≤ b := Nat.le_trans sz1 (Nat.le_of_eq g3.symm)
  have sz3 : n0 ≤ h3.size := Nat.le_trans sz1 E3.1
  have Xe1 := E3
  have zb := g3
  have E_b := A3
  have G1 := D3 (Or.inr (hw _ (List.mem_of_getElem? (i := 54) rfl))) (ty := .boolean) (by decide)
  have G2 := D3 (Or.inl (hw _ (List.mem_of_getElem? (i := 97) rfl))) (ty := .boolean) (by decide)
  obtain ⟨_, _, ⟨T4, L4, k4, n4⟩, -, X4, ⟨Lc4, hQ4, l4, y4, z4⟩, st4⟩ := X3.specialBack hx (y := (⟨"com/example/gabarit/gabarit/shacl/DescriptionOrder$Frame", "<init>", "(Z)V"⟩ : MethodName)) rfl hown (mvT hZ (hw _ (List.mem_of_getElem? (i := 49) rfl))) (mvT hZ (hw _ (List.mem_of_getElem? (i := 50) rfl))) (mvT hZ (hw _ (List.mem_of_getElem? (i := 51) rfl))) (by decide) (backOf (W := 2) (rm_fi l Z a0 hw [] b (1 : Int32) true _ h3 n0 sz3 rfl E_b G1 G2 gn_b) hZ (hw _ (List.mem_of_getElem? (i := 51) rfl)) (hw _ (List.mem_of_getElem? (i := 48) rfl)) (by decide) (by decide)) (g := (mkF m 13 #[.val (.ref a1)] [(.int (1 : Int32)), (.ref b), (.ref b), (.ref q)])) rfl (by rw [hml]; rfl) (Steps.refl _) (a := b) (argsL := [(.int (1 : Int32))]) (rest := [(.ref b), (.ref q)]) (lenOf own_pd6 rfl) rfl (by show 2 * 0 + _ ≤ _; exact Nat.le_of_eq rfl) (hb hby own_dprog_31_6_13) (fun _ _ => ⟨rfl, e3, (by decide : 1 + 0 ≤ _), (by decide : 2 + 0 ≤ _)⟩)
  dsimp only [Pt.U, Pt.locs, Pt.cells, Pt.slots] at X4 l4 y4 z4 st4 hQ4
  rw [l4, y4, z4] at X4
  obtain ⟨rfl, Nq4, Kb, Eb, Fbl, Fbs⟩ := hQ4
  have sz4 : n0 ≤ T4.heap.size := Nat.le_trans sz3 Kb.1
  have N4 := Fr.app N1 Nq4
  obtain ⟨Dn, nbs⟩ := own_DO_new Dv Xe1 zb Kb
  obtain ⟨cq5, kq5, q5a, q5b, q5c⟩ := isOf hZ rfl (Dn.2.2.2.2.2.1.1)
  obtain ⟨_, _, ⟨T5, L5, k5, n5⟩, -, X5, ⟨Lc5, hQ5, l5, y5, z5⟩, st5⟩ := X4.interfaceBack hx (xi := (⟨"java/util/Deque", "addLast", "(Ljava/lang/Object;)V"⟩ : MethodName)) (y := (⟨"java/util/ArrayDeque", "addLast", "(Ljava/lang/Object;)V"⟩ : MethodName)) hown (mvT hZ (hw _ (List.mem_of_getElem? (i := 55) rfl))) (mvT hZ (hw _ (List.mem_of_getElem? (i := 56) rfl))) (mvT hZ (hw _ (List.mem_of_getElem? (i := 57) rfl))) (mvT hZ (hw _ (List.mem_of_getElem? (i := 58) rfl))) (mvT hZ (hw _ (List.mem_of_getElem? (i := 59) rfl))) (mvT hZ (hw _ (List.mem_of_getElem? (i := 60) rfl))) (mvT hZ (hw _ (List.mem_of_getElem? (i := 61) rfl))) (mvT hZ (hw _ (List.mem_of_getElem? (i := 40) rfl))) (by decide) (backOf (W := 0) (rm_add l Z a0 hw [] q b el k (((f, lb, true) :: r).map Prod.fst) T4.heap n0 sz4 Dn.2.2.2.2.2.1 (by simp <;> omega) (Ins.of_exa Eb (hw _ (List.mem_of_getElem? (i := 63) rfl)))) hZ (hw _ (List.mem_of_getElem? (i := 62) rfl)) (hw _ (List.mem_of_getElem? (i := 11) rfl)) (by decide) (by decide)) q5a q5b q5c (g := (mkF m 16 #[.val (.ref a1)] [(.ref b), (.ref q)])) rfl (by rw [hml]; rfl) (Steps.refl _) (argsL := [(.ref b)]) (rest := []) (lenOf own_pd7 rfl) rfl (by show 2 * 0 + _ ≤ _; exact Nat.le_of_eq rfl) (hb hby own_dprog_31_6_16) (fun _ _ => ⟨rfl, rfl, (by decide : 1 + 0 ≤ _), (by decide : 2 + 0 ≤ _)⟩)
  dsimp only [Pt.U, Pt.locs, Pt.cells, Pt.slots] at X5 l5 y5 z5 st5 hQ5
  rw [l5, y5, z5] at X5
  obtain ⟨rfl, Nq5, Ka, DQa⟩ := hQ5
  have sz5 : n0 ≤ T5.heap.size := Nat.le_trans sz4 Ka.1
  have N5 := Fr.app N4 Nq5
  have Dp : own_DO Z T5.heap a1 q el k n0 ((b, true, false) :: ((f, lb, true) :: r)) false cnt := own_DO_push Dn Ka DQa Eb Fbl Fbs gn_b nbs
  obtain ⟨fs, hr, hrun, hended, hW, hsame⟩ := X5.leave (v := none) (fun _ => rfl)
  refine ⟨_, _, pre0 _ ?_, hrun, hended, _, _, rfl, ?_, ⟨_, rfl⟩, hW, hsame.mono (by decide) (by decide)⟩
  · show Steps p.tables e below (s₁.setTop (mkF m 0 #[.val (.ref a1)] [])) _
    refine XS.aloadN X0.here hx rfl (hb hby own_dprog_31_6_0) rfl rfl ?_
    show Steps p.tables e below (s₁.setTop (mkF m 1 #[.val (.ref a1)] [(.ref a1)])) _
    refine st1.trans ?_
    show Steps p.tables e below (T1.setTop (mkF m 4 #[.val (.ref a1)] [])) _
    refine XS.aloadN X1.here hx rfl (hb hby own_dprog_31_6_4) rfl rfl ?_
    show Steps p.tables e below (T1.setTop (mkF m 5 #[.val (.ref a1)] [(.ref a1)])) _
    refine st2 _ ?_
    show Steps p.tables e below (T2.setTop (mkF m 8 #[.val (.ref a1)] [(.ref q)])) _
    refine st3 _ ?_
    show Steps p.tables e below (T3.setTop (mkF m 11 #[.val (.ref a1)] [(.ref b), (.ref q)])) _
    refine XS.dup X3.here hx rfl (hb hby own_dprog_31_6_11) rfl rfl ?_
    show Steps p.tables e below (T3.setTop (mkF m 12 #[.val (.ref a1)] [(.ref b), (.ref b), (.ref q)])) _
    refine XS.iconst X3.here hx rfl (hb hby own_dprog_31_6_12) ?_
    show Steps p.tables e below (T3.setTop (mkF m 13 #[.val (.ref a1)] [(.int (1 : Int32)), (.ref b), (.ref b), (.ref q)])) _
    refine st4.trans ?_
    show Steps p.tables e below (T4.setTop (mkF m 16 #[.val (.ref a1)] [(.ref b), (.ref q)])) _
    refine st5.trans ?_
    show Steps p.tables e below (T5.setTop (mkF m 21 #[.val (.ref a1)] [])) _
    exact X5.returnOut hx Bd.returns (hb hby own_dprog_31_6_21) hr
  · show Q_bl Z a1 q el k f lb sb r due cnt h0 n0 _ T5.heap _
    exact ⟨rfl, N5, Nat.le_trans zv (Nat.le_trans Xe1.1 (Nat.le_trans Kb.1 Ka.1)), b, Dp⟩
theorem own_dprog_31_3_0 : decode prog_31_method_3_code 0 = .ok (.aload_n 0, 1) := by decide +kernel
theorem own_dprog_31_3_1 : decode prog_31_method_3_code 1 = .ok (.invokevirtual 38, 3) := by decide +kernel
theorem own_dprog_31_3_4 : decode prog_31_method_3_code 4 = .ok (.astore_n 1, 1) := by decide +kernel
theorem own_dprog_31_3_5 : decode prog_31_method_3_code 5 = .ok (.aload_n 1, 1) := by decide +kernel
theorem own_dprog_31_3_6 : decode prog_31_method_3_code 6 = .ok (.getfield 42, 3) := by decide +kernel
theorem own_dprog_31_3_9 : decode prog_31_method_3_code 9 = .ok (.ifCond .ne 10, 3) := by decide +kernel
theorem own_dprog_31_3_12 : decode prog_31_method_3_code 12 = .ok (.aload_n 0, 1) := by decide +kernel
theorem own_dprog_31_3_13 : decode prog_31_method_3_code 13 = .ok (.getfield 46, 3) := by decide +kernel
theorem own_dprog_31_3_16 : decode prog_31_method_3_code 16 = .ok (.ifCond .eq 13, 3) := by decide +kernel
theorem own_dprog_31_3_29 : decode prog_31_method_3_code 29 = .ok (.aload_n 0, 1) := by decide +kernel
theorem own_dprog_31_3_30 : decode prog_31_method_3_code 30 = .ok (.getfield 10, 3) := by decide +kernel
theorem own_dprog_31_3_33 : decode prog_31_method_3_code 33 = .ok (.invokeinterface 56 1, 5) := by decide +kernel
theorem own_dprog_31_3_38 : decode prog_31_method_3_code 38 = .ok (.pop, 1) := by decide +kernel
theorem own_dprog_31_3_39 : decode prog_31_method_3_code 39 = .ok (.aload_n 0, 1) := by decide +kernel
theorem own_dprog_31_3_40 : decode prog_31_method_3_code 40 = .ok (.dup, 1) := by decide +kernel
theorem own_dprog_31_3_41 : decode prog_31_method_3_code 41 = .ok (.getfield 34, 3) := by decide +kernel
theorem own_dprog_31_3_44 : decode prog_31_method_3_code 44 = .ok (.iconst 1, 1) := by decide +kernel
theorem own_dprog_31_3_45 : decode prog_31_method_3_code 45 = .ok (.isub, 1) := by decide +kernel
theorem own_dprog_31_3_46 : decode prog_31_method_3_code 46 = .ok (.putfield 34, 3) := by decide +kernel
theorem own_dprog_31_3_49 : decode prog_31_method_3_code 49 = .ok (.aload_n 1, 1) := by decide +kernel
theorem own_dprog_31_3_50 : decode prog_31_method_3_code 50 = .ok (.getfield 60, 3) := by decide +kernel
theorem own_dprog_31_3_53 : decode prog_31_method_3_code 53 = .ok (.ireturn, 1) := by decide +kernel
theorem own_ef_ebn (m : MethodId) (x0 : Addr) : entryFrame m #[(.ref x0)] 2 = mkF m 0 #[.val (.ref x0), .unset] [] := by first | (simp [entryFrame, mkF, argsToLocals, Value.category]; done) | rfl
def Q_ebn (Z : State) (a1 : Addr) (q : Addr) (el : Addr) (k : ClassId) (f : Addr) (sb : Bool) (r : List (Addr × Bool × Bool)) (cnt : Int32) (h0 : Heap) (n0 : Nat) (v : Option Value) (h : Heap) (L : List Loc) : Prop := v = some (.int (own_b sb)) ∧ Fr n0 L ∧ h0.size ≤ h.size ∧ own_DO Z h a1 q el k n0 r false (cnt - 1)
set_option maxRecDepth 65536 in
set_option maxHeartbeats 40000000 in
theorem rm_ebn (l : Launch) (Z : State) (a0 : Array Value) (hw : ∀ d ∈ tables_1, d.before a0 Z = true) (ws : List Jvm.Cond) (a1 : Addr) (q : Addr) (el : Addr) (k : ClassId) (f : Addr) (sb : Bool) (r : List (Addr × Bool × Bool)) (cnt : Int32) (h0 : Heap) (n0 : Nat) (Z0 : n0 ≤ h0.size) (D : own_DO Z h0 a1 q el k n0 ((f, false, sb) :: r) false cnt) (hlen : r.length ≤ 7) :
    MetFree l (⟨"com/example/gabarit/gabarit/shacl/DescriptionOrder", "endBlankNode", "()Z"⟩ : MethodName) (head1 (Jvm.Cond.code (⟨"com/example/gabarit/gabarit/shacl/DescriptionOrder", "endBlankNode", "()Z"⟩ : MethodName) prog_31_method_3_code 2 (some .boolean) :: ws) ({ frames := 3, cells := 0, slots := 0, locals := 42 } : Room)) (fun a U => a = #[(.ref a1)] ∧ Z.Warmed39 U.vm ∧ U.heap = h0) (fun _ _ _ _ _ => True) (fun _ U o U' => ∃ v L, o = .returned v ∧ Q_ebn Z a1 q el k f sb r cnt h0 n0 v U'.heap L ∧ FrameEnd U o U' L ({ frames := 3, cells := 0, slots := 0, locals := 42 } : Room).cells ({ frames := 3, cells := 0, slots := 0, locals := 42 } : Room).slots) := by
  refine MetFree.of_bodySF (plainFor_of_name own_pn_com_example_gabarit_gabarit_shacl_DescriptionOrder) hisR ?_
  intro p e s m args below meth c s₁ Bd hml0 hP hK
  obtain ⟨rfl, hZ, hh⟩ := hP
  have hx := Bd.exec
  have hby := Bd.bytes
  have hml : c.maxLocals = 2 := hml0
  have hown : s.vm.findClass "com/example/gabarit/gabarit/shacl/DescriptionOrder" = some m.cls := findClass_of_methodNamed Bd.named
  have hnm := (name_of_methodNamed Bd.named Bd.method).1
  have X0 : Stand p l e ({ frames := 3, cells := 0, slots := 0, locals := 42 } : Room) s m #[(.ref a1)] below meth c s₁ [] 0 0 := Stand.of_body Bd
  have e0 : s₁.heap = h0 := by rw [← hh, Bd.state]; rfl
  have N0 := Fr.nil n0
  have pre0 : ∀ t, Steps p.tables e below (s₁.setTop (mkF m 0 #[.val (.ref a1), .unset] [])) t → Steps p.tables e below (s₁.setTop (entryFrame m #[(.ref a1)] 2)) t := fun t k => castTop (own_ef_ebn m a1) k
  obtain ⟨cq1, q1, q1'⟩ := (D.1).cell
  rw [← e0] at q1
  obtain ⟨_, _, ⟨T1, L1, k1, n1⟩, -, X1, ⟨Lc1, hQ1, l1, y1, z1⟩, st1⟩ := X0.privateBack hx (y := (⟨"com/example/gabarit/gabarit/shacl/DescriptionOrder", "innermost", "()Lcom/example/gabarit/gabarit/shacl/DescriptionOrder$Frame;"⟩ : MethodName)) hown (mvT hZ (hw _ (List.mem_of_getElem? (i := 74) rfl))) (mvT hZ (hw _ (List.mem_of_getElem? (i := 75) rfl))) (own_sel (y := (⟨"com/example/gabarit/gabarit/shacl/DescriptionOrder", "innermost", "()Lcom/example/gabarit/gabarit/shacl/DescriptionOrder$Frame;"⟩ : MethodName)) (z := (⟨"com/example/gabarit/gabarit/shacl/DescriptionOrder", "value", "()V"⟩ : MethodName)) rfl (mvT hZ (hw _ (List.mem_of_getElem? (i := 101) rfl))) (mvP hZ (hw _ (List.mem_of_getElem? (i := 76) rfl))) (mvT hZ (hw _ (List.mem_of_getElem? (i := 75) rfl))) (by decide)) (Cond.privateMethod_at (mvP hZ (hw _ (List.mem_of_getElem? (i := 76) rfl)) (args := #[]))) (mvT hZ (hw _ (List.mem_of_getElem? (i := 77) rfl))) (by decide) (backOf (W := 0) (rm_inn l Z a0 hw [] a1 q el k f false sb r false cnt h0 n0 Z0 D hlen) hZ (hw _ (List.mem_of_getElem? (i := 77) rfl)) (hw _ (List.mem_of_getElem? (i := 2) rfl)) (by decide) (by decide)) (g := (mkF m 1 #[.val (.ref a1), .unset] [(.ref a1)])) rfl (by rw [hml]; rfl) (Steps.refl _) (a := a1) q1 q1' (argsL := []) (rest := []) (lenOf own_pd4 rfl) rfl (by show 2 * 0 + _ ≤ _; exact Nat.le_of_eq rfl) (hb hby own_dprog_31_3_1) (fun _ _ => ⟨rfl, e0, (by decide : 0 + 0 ≤ _), (by decide : 0 + 0 ≤ _)⟩)
  dsimp only [Pt.U, Pt.locs, Pt.cells, Pt.slots] at X1 l1 y1 z1 st1 hQ1
  rw [l1, y1, z1] at X1
  obtain ⟨rfl, Nq1, e1⟩ := hQ1
  have N1 := Fr.app N0 Nq1
  obtain ⟨T2, X2, e2, st2⟩ := getF X1 hx hZ hown (host := "") (Or.inl (hw _ (List.mem_of_getElem? (i := 93) rfl))) Via.refl e1 D.2.2.2.2.2.2.1.1.2.1 (g := (mkF m 6 #[.val (.ref a1), .val (.ref f)] [(.ref f)])) rfl rfl (hb hby own_dprog_31_3_6)
  obtain ⟨T3, X3, e3, st3⟩ := getF X2 hx hZ hown (host := "") (Or.inl (hw _ (List.mem_of_getElem? (i := 94) rfl))) Via.refl e2 D.2.2.1 (g := (mkF m 13 #[.val (.ref a1), .val (.ref f)] [(.ref a1)])) rfl rfl (hb hby own_dprog_31_3_13)
  obtain ⟨T4, X4, e4, st4⟩ := getF X3 hx hZ hown (host := "") (Or.inl (hw _ (List.mem_of_getElem? (i := 26) rfl))) Via.refl e3 D.2.1 (g := (mkF m 30 #[.val (.ref a1), .val (.ref f)] [(.ref a1)])) rfl rfl (hb hby own_dprog_31_3_30)
  obtain ⟨cq5, kq5, q5a, q5b, q5c⟩ := isOf hZ e4 (D.2.2.2.2.2.1.1)
  obtain ⟨_, _, ⟨T5, L5, k5, n5⟩, -, X5, ⟨Lc5, hQ5, l5, y5, z5⟩, st5⟩ := X4.interfaceBack hx (xi := (⟨"java/util/Deque", "removeLast", "()Ljava/lang/Object;"⟩ : MethodName)) (y := (⟨"java/util/ArrayDeque", "removeLast", "()Ljava/lang/Object;"⟩ : MethodName)) hown (mvT hZ (hw _ (List.mem_of_getElem? (i := 114) rfl))) (mvT hZ (hw _ (List.mem_of_getElem? (i := 115) rfl))) (mvT hZ (hw _ (List.mem_of_getElem? (i := 116) rfl))) (mvT hZ (hw _ (List.mem_of_getElem? (i := 117) rfl))) (mvT hZ (hw _ (List.mem_of_getElem? (i := 118) rfl))) (mvT hZ (hw _ (List.mem_of_getElem? (i := 119) rfl))) (mvT hZ (hw _ (List.mem_of_getElem? (i := 120) rfl))) (mvT hZ (hw _ (List.mem_of_getElem? (i := 40) rfl))) (by decide) (backOf (W := 0) (rm_rem l Z a0 hw [] q f el k (r.map Prod.fst) h0 n0 Z0 D.2.2.2.2.2.1 (by simpa using hlen)) hZ (hw _ (List.mem_of_getElem? (i := 121) rfl)) (hw _ (List.mem_of_getElem? (i := 11) rfl)) (by decide) (by decide)) q5a q5b q5c (g := (mkF m 33 #[.val (.ref a1), .val (.ref f)] [(.ref q)])) rfl (by rw [hml]; rfl) (Steps.refl _) (argsL := []) (rest := []) (lenOf own_pd3 rfl) rfl (by show 2 * 0 + _ ≤ _; exact Nat.le_of_eq rfl) (hb hby own_dprog_31_3_33) (fun _ _ => ⟨rfl, e4, (by decide : 0 + 0 ≤ _), (by decide : 0 + 0 ≤ _)⟩)
  dsimp only [Pt.U, Pt.locs, Pt.cells, Pt.slots] at X5 l5 y5 z5 st5 hQ5
  rw [l5, y5, z5] at X5
  obtain ⟨rfl, Nq5, K1, DQ1⟩ := hQ5
  have sz5 : n0 ≤ T5.heap.size := Nat.le_trans Z0 K1.1
  have N5 := Fr.app N1 Nq5
  obtain ⟨D1, Fs1, nfo⟩ := own_DO_pop D K1 DQ1
  obtain ⟨T6, X6, e6, st6⟩ := getF X5 hx hZ hown (host := "") (Or.inl (hw _ (List.mem_of_getElem? (i := 67) rfl))) Via.refl rfl D1.2.2.2.1 (g := (mkF m 41 #[.val (.ref a1), .val (.ref f)] [(.ref a1), (.ref a1)])) rfl rfl (hb hby own_dprog_31_3_41)
  obtain ⟨T7, h7, X7, e7, W7, st7⟩ := putF X6 hx hZ hown (host := "") (Or.inl (hw _ (List.mem_of_getElem? (i := 67) rfl))) Via.refl e6 D1.2.2.2.1 D1.1 (Or.inl (hw _ (List.mem_of_getElem? (i := 68) rfl))) (hw _ (List.mem_of_getElem? (i := 1) rfl)) (ty := .int) (by decide) rfl rfl (g := (mkF m 46 #[.val (.ref a1), .val (.ref f)] [(.int (cnt - (1 : Int32))), (.ref a1)])) rfl rfl (hb hby own_dprog_31_3_46)
  have N7 := Fr.snoc X7 N5 D1.2.2.2.2.1
  have sz7 : n0 ≤ h7.size := Nat.le_trans sz5 (Keep.of_wr W7).1
  have D2 := own_DO_cnt hw D1 W7
  have z2 := Nat.le_trans K1.1 (Nat.le_of_eq W7.size.symm)
  have Fs2 := Fs1.other W7 (Or.inl nfo)
  obtain ⟨T8, X8, e8, st8⟩ := getF X7 hx hZ hown (host := "") (Or.inl (hw _ (List.mem_of_getElem? (i := 96) rfl))) Via.refl e7 Fs2 (g := (mkF m 50 #[.val (.ref a1), .val (.ref f)] [(.ref f)])) rfl rfl (hb hby own_dprog_31_3_50)
  obtain ⟨fs, hr, hrun, hended, hW, hsame⟩ := X8.leave (v := some (.int (own_b sb))) (fun h => by rw [Bd.returns] at h; cases h)
  refine ⟨_, _, pre0 _ ?_, hrun, hended, _, _, rfl, ?_, ⟨_, rfl⟩, hW, hsame.mono (by decide) (by decide)⟩
  · show Steps p.tables e below (s₁.setTop (mkF m 0 #[.val (.ref a1), .unset] [])) _
    refine XS.aloadN X0.here hx rfl (hb hby own_dprog_31_3_0) rfl rfl ?_
    show Steps p.tables e below (s₁.setTop (mkF m 1 #[.val (.ref a1), .unset] [(.ref a1)])) _
    refine st1.trans ?_
    show Steps p.tables e below (T1.setTop (mkF m 4 #[.val (.ref a1), .unset] [(.ref f)])) _
    refine XS.astoreN X1.here hx rfl (hb hby own_dprog_31_3_4) rfl rfl (l' := #[.val (.ref a1), .val (.ref f)]) rfl ?_
    show Steps p.tables e below (T1.setTop (mkF m 5 #[.val (.ref a1), .val (.ref f)] [])) _
    refine XS.aloadN X1.here hx rfl (hb hby own_dprog_31_3_5) rfl rfl ?_
    show Steps p.tables e below (T1.setTop (mkF m 6 #[.val (.ref a1), .val (.ref f)] [(.ref f)])) _
    refine st2 _ ?_
    show Steps p.tables e below (T2.setTop (mkF m 9 #[.val (.ref a1), .val (.ref f)] [(.int (own_b false))])) _
    refine XS.ifNo X2.here hx rfl (hb hby own_dprog_31_3_9) rfl ((if0 _ _).trans (teq rfl).2) ?_
    show Steps p.tables e below (T2.setTop (mkF m 12 #[.val (.ref a1), .val (.ref f)] [])) _
    refine XS.aloadN X2.here hx rfl (hb hby own_dprog_31_3_12) rfl rfl ?_
    show Steps p.tables e below (T2.setTop (mkF m 13 #[.val (.ref a1), .val (.ref f)] [(.ref a1)])) _
    refine st3 _ ?_
    show Steps p.tables e below (T3.setTop (mkF m 16 #[.val (.ref a1), .val (.ref f)] [(.int (own_b false))])) _
    refine XS.ifYes X3.here hx rfl (pc0 := 16) (pc' := 29) rfl (hb hby own_dprog_31_3_16) rfl ((if0 _ _).trans (teq rfl).1) (by decide) (by decide) ?_
    show Steps p.tables e below (T3.setTop (mkF m 29 #[.val (.ref a1), .val (.ref f)] [])) _
    refine XS.aloadN X3.here hx rfl (hb hby own_dprog_31_3_29) rfl rfl ?_
    show Steps p.tables e below (T3.setTop (mkF m 30 #[.val (.ref a1), .val (.ref f)] [(.ref a1)])) _
    refine st4 _ ?_
    show Steps p.tables e below (T4.setTop (mkF m 33 #[.val (.ref a1), .val (.ref f)] [(.ref q)])) _
    refine st5.trans ?_
    show Steps p.tables e below (T5.setTop (mkF m 38 #[.val (.ref a1), .val (.ref f)] [(.ref f)])) _
    refine XS.pop X5.here hx rfl (hb hby own_dprog_31_3_38) rfl rfl ?_
    show Steps p.tables e below (T5.setTop (mkF m 39 #[.val (.ref a1), .val (.ref f)] [])) _
    refine XS.aloadN X5.here hx rfl (hb hby own_dprog_31_3_39) rfl rfl ?_
    show Steps p.tables e below (T5.setTop (mkF m 40 #[.val (.ref a1), .val (.ref f)] [(.ref a1)])) _
    refine XS.dup X5.here hx rfl (hb hby own_dprog_31_3_40) rfl rfl ?_
    show Steps p.tables e below (T5.setTop (mkF m 41 #[.val (.ref a1), .val (.ref f)] [(.ref a1), (.ref a1)])) _
    refine st6 _ ?_
    show Steps p.tables e below (T6.setTop (mkF m 44 #[.val (.ref a1), .val (.ref f)] [(.int cnt), (.ref a1)])) _
    refine XS.iconst X6.here hx rfl (hb hby own_dprog_31_3_44) ?_
    show Steps p.tables e below (T6.setTop (mkF m 45 #[.val (.ref a1), .val (.ref f)] [(.int (1 : Int32)), (.int cnt), (.ref a1)])) _
    refine XS.isub X6.here hx rfl (hb hby own_dprog_31_3_45) rfl ?_
    show Steps p.tables e below (T6.setTop (mkF m 46 #[.val (.ref a1), .val (.ref f)] [(.int (cnt - (1 : Int32))), (.ref a1)])) _
    refine st7 _ ?_
    show Steps p.tables e below (T7.setTop (mkF m 49 #[.val (.ref a1), .val (.ref f)] [])) _
    refine XS.aloadN X7.here hx rfl (hb hby own_dprog_31_3_49) rfl rfl ?_
    show Steps p.tables e below (T7.setTop (mkF m 50 #[.val (.ref a1), .val (.ref f)] [(.ref f)])) _
    refine st8 _ ?_
    show Steps p.tables e below (T8.setTop (mkF m 53 #[.val (.ref a1), .val (.ref f)] [(.int (own_b sb))])) _
    exact retN X8 hx (t := .boolean) Bd.returns (by simp) (hb hby own_dprog_31_3_53) (by rw [own_narb]; exact hr)
  · show Q_ebn Z a1 q el k f sb r cnt h0 n0 _ T8.heap _
    rw [e8]
    exact ⟨rfl, N7, z2, D2⟩
theorem own_01 (c : Prop) [Decidable c] : (if c then (0 : Int32) else 1) = 0 ∨ (if c then (0 : Int32) else 1) = 1 := by
  split
  · exact Or.inl rfl
  · exact Or.inr rfl
theorem own_mode (x : Int32) : (x &&& (3 : Int32)) = (0 : Int32) ∨ (x &&& (3 : Int32)) = (1 : Int32) ∨ (x &&& (3 : Int32)) = (2 : Int32) ∨ (x &&& (3 : Int32)) = (3 : Int32) := by
  have h := c_mask x (3 : Int32) 2 (by decide) (by decide)
  have e0 : (0 : Int32).toInt = 0 := by decide
  have e1 : (1 : Int32).toInt = 1 := by decide
  have e2 : (2 : Int32).toInt = 2 := by decide
  have e3 : (3 : Int32).toInt = 3 := by decide
  simp only [← Int32.toInt_inj, e0, e1, e2, e3]
  omega
theorem own_pd8 : parseMethodDescriptor "()I" = some ⟨[], some .int⟩ := by decide +kernel
theorem own_pn_com_example_gabarit_gabarit_shacl_DescriptionOrderPropertyPinLaw : plainName "com/example/gabarit/gabarit/shacl/DescriptionOrderPropertyPinLaw" = true := by first | (simp [plainName, overriddenIn]; done) | decide +kernel
theorem own_ef_law (m : MethodId) (x0 : Int32) : entryFrame m #[(.int x0)] maxLocals = mkF m 0 #[.val (.int x0), .unset, .unset, .unset, .unset, .unset, .unset, .unset] [] := by first | (simp [entryFrame, mkF, argsToLocals, Value.category, maxLocals]; done) | rfl
def Q_law (Z : State) (p1 : Int32) (h0 : Heap) (n0 : Nat) (v : Option Value) (h : Heap) (L : List Loc) : Prop := v = some (.int 1) ∧ Fr n0 L
set_option maxRecDepth 65536 in
set_option maxHeartbeats 40000000 in
theorem rm_law (l : Launch) (Z : State) (a0 : Array Value) (hw : ∀ d ∈ tables_1, d.before a0 Z = true) (ws : List Jvm.Cond) (p1 : Int32) (h0 : Heap) (n0 : Nat) (Z0 : n0 ≤ h0.size)  :
    MetFree l x (head1 (Jvm.Cond.code x code maxLocals ret :: ws) room_1) (fun a U => a = #[(.int p1)] ∧ Z.Warmed39 U.vm ∧ U.heap = h0) (fun _ _ _ _ _ => True) (fun _ U o U' => ∃ v L, o = .returned v ∧ Q_law Z p1 h0 n0 v U'.heap L ∧ FrameEnd U o U' L room_1.cells room_1.slots) := by
  refine MetFree.of_bodySF (plainFor_of_name own_pn_com_example_gabarit_gabarit_shacl_DescriptionOrderPropertyPinLaw) hisR ?_
  intro p e s m args below meth c s₁ Bd hml0 hP hK
  obtain ⟨rfl, hZ, hh⟩ := hP
  have hx := Bd.exec
  have hby := Bd.bytes
  have hml : c.maxLocals = 8 := hml0
  have hown : s.vm.findClass "com/example/gabarit/gabarit/shacl/DescriptionOrderPropertyPinLaw" = some m.cls := findClass_of_methodNamed Bd.named
  have hnm := (name_of_methodNamed Bd.named Bd.method).1
  have X0 : Stand p l e room_1 s m #[(.int p1)] below meth c s₁ [] 0 0 := Stand.of_body Bd
  have e0 : s₁.heap = h0 := by rw [← hh, Bd.state]; rfl
  have N0 := Fr.nil n0
  have pre0 : ∀ t, Steps p.tables e below (s₁.setTop (mkF m 0 #[.val (.int p1), .unset, .unset, .unset, .unset, .unset, .unset, .unset] [])) t → Steps p.tables e below (s₁.setTop (entryFrame m #[(.int p1)] maxLocals)) t := fun t k => castTop (own_ef_law m p1) k
  obtain ⟨pr, h_pr⟩ : ∃ z : Int32, z = (if ((p1 >>> ((2 : Int32) &&& 31)) &&& (1 : Int32)) = (0 : Int32) then (0 : Int32) else (1 : Int32)) := ⟨_, rfl⟩
  obtain ⟨nr, h_nr⟩ : ∃ z : Int32, z = (if ((p1 >>> ((3 : Int32) &&& 31)) &&& (1 : Int32)) = (0 : Int32) then (0 : Int32) else (1 : Int32)) := ⟨_, rfl⟩
  have hmd : (p1 &&& (3 : Int32)) = (0 : Int32) ∨ (p1 &&& (3 : Int32)) = (1 : Int32) ∨ (p1 &&& (3 : Int32)) = (2 : Int32) ∨ (p1 &&& (3 : Int32)) = (3 : Int32) := own_mode p1
  obtain ⟨md, h_md⟩ : ∃ z : Int32, z = (p1 &&& (3 : Int32)) := ⟨_, rfl⟩
  have h2_md : (p1 &&& (3 : Int32)) = md := h_md.symm
  rw [h2_md] at hmd
  have hpr : pr = (0 : Int32) ∨ pr = (1 : Int32) := by rw [h_pr]; exact own_01 _
  have hnr : nr = (0 : Int32) ∨ nr = (1 : Int32) := by rw [h_nr]; exact own_01 _
  obtain ⟨T1, h1, X1, e1, E1, A1, D1, -, st1⟩ := newO X0 hx hZ hown (hw _ (List.mem_of_getElem? (i := 0) rfl)) (hw _ (List.mem_of_getElem? (i := 1) rfl)) (hw _ (List.mem_of_getElem? (i := 2) rfl)) e0 (g := (mkF m 32 #[.val (.int p1), .val (.int md), .val (.int pr), .val (.int nr), .unset, .unset, .unset, .unset] [])) rfl (hb hby at_32) (by decide) (by decide)
  obtain ⟨o, g1⟩ : ∃ z, z = h0.size := ⟨_, rfl⟩
  rw [← g1] at A1 D1 st1
  have gn_o : n0 ≤ o := Nat.le_trans Z0 (Nat.le_of_eq g1.symm)
  have sz1 : n0 ≤ h1.size := Nat.le_trans Z0 E1.1
  have E_o := A1
  have G1 := D1 (Or.inr (hw _ (List.mem_of_getElem? (i := 27) rfl))) (ty := .object "java/util/Deque") (by decide)
  have G2 := D1 (Or.inl (hw _ (List.mem_of_getElem? (i := 95) rfl))) (ty := .boolean) (by decide)
  have G3 := D1 (Or.inl (hw _ (List.mem_of_getElem? (i := 68) rfl))) (ty := .int) (by decide)
  obtain ⟨_, _, ⟨T2, L2, k2, n2⟩, -, X2, ⟨Lc2, hQ2, l2, y2, z2⟩, st2⟩ := X1.specialBack hx (y := (⟨"com/example/gabarit/gabarit/shacl/DescriptionOrder", "<init>", "()V"⟩ : MethodName)) rfl hown (mvT hZ (hw _ (List.mem_of_getElem? (i := 3) rfl))) (mvT hZ (hw _ (List.mem_of_getElem? (i := 4) rfl))) (mvT hZ (hw _ (List.mem_of_getElem? (i := 5) rfl))) (by decide) (backOf (W := 1) (rm_do l Z a0 hw [] o _ h1 n0 sz1 E_o G1 G2 G3 gn_o) hZ (hw _ (List.mem_of_getElem? (i := 5) rfl)) (hw _ (List.mem_of_getElem? (i := 2) rfl)) (by decide) (by decide)) (g := (mkF m 36 #[.val (.int p1), .val (.int md), .val (.int pr), .val (.int nr), .unset, .unset, .unset, .unset] [(.ref o), (.ref o)])) rfl (by rw [hml]; rfl) (Steps.refl _) (a := o) (argsL := []) (rest := [(.ref o)]) (lenOf own_pd0 rfl) rfl (by show 2 * 0 + _ ≤ _; exact Nat.le_of_eq rfl) (hb hby at_36) (fun _ _ => ⟨rfl, e1, (by decide : 1 + 2 ≤ _), (by decide : 3 + 20 ≤ _)⟩)
  dsimp only [Pt.U, Pt.locs, Pt.cells, Pt.slots] at X2 l2 y2 z2 st2 hQ2
  rw [l2, y2, z2] at X2
  obtain ⟨rfl, Nq2, K0, q, el, k, D_0⟩ := hQ2
  have sz2 : n0 ≤ T2.heap.size := Nat.le_trans sz1 K0.1
  have N2 := Fr.app N0 Nq2
  obtain ⟨cq3, kq3, q3a, q3b, q3c⟩ := isOf hZ rfl (D_0.1)
  obtain ⟨_, _, ⟨T3, L3, k3, n3⟩, -, X3, ⟨Lc3, hQ3, l3, y3, z3⟩, st3⟩ := X2.virtualBack hx (y := (⟨"com/example/gabarit/gabarit/shacl/DescriptionOrder", "beginBlankNode", "()Z"⟩ : MethodName)) (z := (⟨"com/example/gabarit/gabarit/shacl/DescriptionOrder", "beginBlankNode", "()Z"⟩ : MethodName)) hown (mvT hZ (hw _ (List.mem_of_getElem? (i := 28) rfl))) (mvT hZ (hw _ (List.mem_of_getElem? (i := 29) rfl))) (notFace_of_selects (args := #[]) (mvT hZ (hw _ (List.mem_of_getElem? (i := 31) rfl)))) (mvT hZ (hw _ (List.mem_of_getElem? (i := 31) rfl))) (mvT hZ (hw _ (List.mem_of_getElem? (i := 30) rfl))) (by decide) (backOf (W := 0) (rm_bbE l Z a0 hw [] o q el k false (0 : Int32) T2.heap n0 sz2 D_0) hZ (hw _ (List.mem_of_getElem? (i := 32) rfl)) (hw _ (List.mem_of_getElem? (i := 2) rfl)) (by decide) (by decide)) q3a q3c (g := (mkF m 43 #[.val (.int p1), .val (.int md), .val (.int pr), .val (.int nr), .val (.ref o), .unset, .unset, .unset] [(.ref o)])) rfl (by rw [hml]; rfl) (Steps.refl _) (argsL := []) (rest := []) (lenOf own_pd5 rfl) rfl (by show 2 * 0 + _ ≤ _; exact Nat.le_of_eq rfl) (hb hby at_43) (fun _ _ => ⟨rfl, rfl, (by decide : 3 + 1 ≤ _), (by decide : 23 + 2 ≤ _)⟩)
  dsimp only [Pt.U, Pt.locs, Pt.cells, Pt.slots] at X3 l3 y3 z3 st3 hQ3
  rw [l3, y3, z3] at X3
  obtain ⟨⟨x1, rfl⟩, Nq3, z3, f0, D_1⟩ := hQ3
  have sz3 : n0 ≤ T3.heap.size := Nat.le_trans sz2 z3
  have N3 := Fr.app N2 Nq3
  have pA : ∀ tt, Steps p.tables e below (T3.setTop (mkF m 48 #[.val (.int p1), .val (.int md), .val (.int pr), .val (.int nr), .val (.ref o), .unset, .unset, .unset] [(.int pr)])) tt → Steps p.tables e below (s₁.setTop (mkF m 0 #[.val (.int p1), .unset, .unset, .unset, .unset, .unset, .unset, .unset] [])) tt := by
    intro tt kt
    show Steps p.tables e below (s₁.setTop (mkF m 0 #[.val (.int p1), .unset, .unset, .unset, .unset, .unset, .unset, .unset] [])) _
    refine XS.iloadN X0.here hx rfl (hb hby at_0) rfl ?_
    show Steps p.tables e below (s₁.setTop (mkF m 1 #[.val (.int p1), .unset, .unset, .unset, .unset, .unset, .unset, .unset] [(.int p1)])) _
    refine XS.iconst X0.here hx rfl (hb hby at_1) ?_
    show Steps p.tables e below (s₁.setTop (mkF m 2 #[.val (.int p1), .unset, .unset, .unset, .unset, .unset, .unset, .unset] [(.int (3 : Int32)), (.int p1)])) _
    refine XS.iand X0.here hx rfl (hb hby at_2) rfl ?_
    show Steps p.tables e below (s₁.setTop (mkF m 3 #[.val (.int p1), .unset, .unset, .unset, .unset, .unset, .unset, .unset] [(.int (p1 &&& (3 : Int32)))])) _
    refine XS.istoreN X0.here hx rfl (hb hby at_3) rfl (l' := #[.val (.int p1), .val (.int (p1 &&& (3 : Int32))), .unset, .unset, .unset, .unset, .unset, .unset]) rfl ?_
    show Steps p.tables e below (s₁.setTop (mkF m 4 #[.val (.int p1), .val (.int (p1 &&& (3 : Int32))), .unset, .unset, .unset, .unset, .unset, .unset] [])) _
    refine XS.iloadN X0.here hx rfl (hb hby at_4) rfl ?_
    show Steps p.tables e below (s₁.setTop (mkF m 5 #[.val (.int p1), .val (.int (p1 &&& (3 : Int32))), .unset, .unset, .unset, .unset, .unset, .unset] [(.int p1)])) _
    refine XS.iconst X0.here hx rfl (hb hby at_5) ?_
    show Steps p.tables e below (s₁.setTop (mkF m 6 #[.val (.int p1), .val (.int (p1 &&& (3 : Int32))), .unset, .unset, .unset, .unset, .unset, .unset] [(.int (2 : Int32)), (.int p1)])) _
    refine XS.ishr X0.here hx rfl (hb hby at_6) rfl ?_
    show Steps p.tables e below (s₁.setTop (mkF m 7 #[.val (.int p1), .val (.int (p1 &&& (3 : Int32))), .unset, .unset, .unset, .unset, .unset, .unset] [(.int (p1 >>> ((2 : Int32) &&& 31)))])) _
    refine XS.iconst X0.here hx rfl (hb hby at_7) ?_
    show Steps p.tables e below (s₁.setTop (mkF m 8 #[.val (.int p1), .val (.int (p1 &&& (3 : Int32))), .unset, .unset, .unset, .unset, .unset, .unset] [(.int (1 : Int32)), (.int (p1 >>> ((2 : Int32) &&& 31)))])) _
    refine XS.iand X0.here hx rfl (hb hby at_8) rfl ?_
    show Steps p.tables e below (s₁.setTop (mkF m 9 #[.val (.int p1), .val (.int (p1 &&& (3 : Int32))), .unset, .unset, .unset, .unset, .unset, .unset] [(.int ((p1 >>> ((2 : Int32) &&& 31)) &&& (1 : Int32)))])) _
    refine (show ∀ tt, Steps p.tables e below (s₁.setTop (mkF m 17 #[.val (.int p1), .val (.int (p1 &&& (3 : Int32))), .unset, .unset, .unset, .unset, .unset, .unset] [(.int pr)])) tt → Steps p.tables e below (s₁.setTop (mkF m 9 #[.val (.int p1), .val (.int (p1 &&& (3 : Int32))), .unset, .unset, .unset, .unset, .unset, .unset] [(.int ((p1 >>> ((2 : Int32) &&& 31)) &&& (1 : Int32)))])) tt from ?_) _ ?_
    · intro tt kt
      by_cases x0 : ((p1 >>> ((2 : Int32) &&& 31)) &&& (1 : Int32)) = (0 : Int32)
      · rw [h_pr, if_pos x0] at kt
        show Steps p.tables e below (s₁.setTop (mkF m 9 #[.val (.int p1), .val (.int (p1 &&& (3 : Int32))), .unset, .unset, .unset, .unset, .unset, .unset] [(.int ((p1 >>> ((2 : Int32) &&& 31)) &&& (1 : Int32)))])) _
        refine XS.ifYes X0.here hx rfl (pc0 := 9) (pc' := 16) rfl (hb hby at_9) rfl ((if0 _ _).trans (teq x0).1) (by decide) (by decide) ?_
        show Steps p.tables e below (s₁.setTop (mkF m 16 #[.val (.int p1), .val (.int (p1 &&& (3 : Int32))), .unset, .unset, .unset, .unset, .unset, .unset] [])) _
        refine XS.iconst X0.here hx rfl (hb hby at_16) ?_
        exact kt
      · rw [h_pr, if_neg x0] at kt
        show Steps p.tables e below (s₁.setTop (mkF m 9 #[.val (.int p1), .val (.int (p1 &&& (3 : Int32))), .unset, .unset, .unset, .unset, .unset, .unset] [(.int ((p1 >>> ((2 : Int32) &&& 31)) &&& (1 : Int32)))])) _
        refine XS.ifNo X0.here hx rfl (hb hby at_9) rfl ((if0 _ _).trans (feq x0).1) ?_
        show Steps p.tables e below (s₁.setTop (mkF m 12 #[.val (.int p1), .val (.int (p1 &&& (3 : Int32))), .unset, .unset, .unset, .unset, .unset, .unset] [])) _
        refine XS.iconst X0.here hx rfl (hb hby at_12) ?_
        show Steps p.tables e below (s₁.setTop (mkF m 13 #[.val (.int p1), .val (.int (p1 &&& (3 : Int32))), .unset, .unset, .unset, .unset, .unset, .unset] [(.int (1 : Int32))])) _
        refine XS.goto X0.here hx rfl (pc0 := 13) (pc' := 17) rfl (hb hby at_13) (by decide) (by decide) ?_
        exact kt
    show Steps p.tables e below (s₁.setTop (mkF m 17 #[.val (.int p1), .val (.int (p1 &&& (3 : Int32))), .unset, .unset, .unset, .unset, .unset, .unset] [(.int pr)])) _
    refine XS.istoreN X0.here hx rfl (hb hby at_17) rfl (l' := #[.val (.int p1), .val (.int (p1 &&& (3 : Int32))), .val (.int pr), .unset, .unset, .unset, .unset, .unset]) rfl ?_
    show Steps p.tables e below (s₁.setTop (mkF m 18 #[.val (.int p1), .val (.int (p1 &&& (3 : Int32))), .val (.int pr), .unset, .unset, .unset, .unset, .unset] [])) _
    refine XS.iloadN X0.here hx rfl (hb hby at_18) rfl ?_
    show Steps p.tables e below (s₁.setTop (mkF m 19 #[.val (.int p1), .val (.int (p1 &&& (3 : Int32))), .val (.int pr), .unset, .unset, .unset, .unset, .unset] [(.int p1)])) _
    refine XS.iconst X0.here hx rfl (hb hby at_19) ?_
    show Steps p.tables e below (s₁.setTop (mkF m 20 #[.val (.int p1), .val (.int (p1 &&& (3 : Int32))), .val (.int pr), .unset, .unset, .unset, .unset, .unset] [(.int (3 : Int32)), (.int p1)])) _
    refine XS.ishr X0.here hx rfl (hb hby at_20) rfl ?_
    show Steps p.tables e below (s₁.setTop (mkF m 21 #[.val (.int p1), .val (.int (p1 &&& (3 : Int32))), .val (.int pr), .unset, .unset, .unset, .unset, .unset] [(.int (p1 >>> ((3 : Int32) &&& 31)))])) _
    refine XS.iconst X0.here hx rfl (hb hby at_21) ?_
    show Steps p.tables e below (s₁.setTop (mkF m 22 #[.val (.int p1), .val (.int (p1 &&& (3 : Int32))), .val (.int pr), .unset, .unset, .unset, .unset, .unset] [(.int (1 : Int32)), (.int (p1 >>> ((3 : Int32) &&& 31)))])) _
    refine XS.iand X0.here hx rfl (hb hby at_22) rfl ?_
    show Steps p.tables e below (s₁.setTop (mkF m 23 #[.val (.int p1), .val (.int (p1 &&& (3 : Int32))), .val (.int pr), .unset, .unset, .unset, .unset, .unset] [(.int ((p1 >>> ((3 : Int32) &&& 31)) &&& (1 : Int32)))])) _
    refine (show ∀ tt, Steps p.tables e below (s₁.setTop (mkF m 31 #[.val (.int p1), .val (.int (p1 &&& (3 : Int32))), .val (.int pr), .unset, .unset, .unset, .unset, .unset] [(.int nr)])) tt → Steps p.tables e below (s₁.setTop (mkF m 23 #[.val (.int p1), .val (.int (p1 &&& (3 : Int32))), .val (.int pr), .unset, .unset, .unset, .unset, .unset] [(.int ((p1 >>> ((3 : Int32) &&& 31)) &&& (1 : Int32)))])) tt from ?_) _ ?_
    · intro tt kt
      by_cases y0 : ((p1 >>> ((3 : Int32) &&& 31)) &&& (1 : Int32)) = (0 : Int32)
      · rw [h_nr, if_pos y0] at kt
        show Steps p.tables e below (s₁.setTop (mkF m 23 #[.val (.int p1), .val (.int (p1 &&& (3 : Int32))), .val (.int pr), .unset, .unset, .unset, .unset, .unset] [(.int ((p1 >>> ((3 : Int32) &&& 31)) &&& (1 : Int32)))])) _
        refine XS.ifYes X0.here hx rfl (pc0 := 23) (pc' := 30) rfl (hb hby at_23) rfl ((if0 _ _).trans (teq y0).1) (by decide) (by decide) ?_
        show Steps p.tables e below (s₁.setTop (mkF m 30 #[.val (.int p1), .val (.int (p1 &&& (3 : Int32))), .val (.int pr), .unset, .unset, .unset, .unset, .unset] [])) _
        refine XS.iconst X0.here hx rfl (hb hby at_30) ?_
        exact kt
      · rw [h_nr, if_neg y0] at kt
        show Steps p.tables e below (s₁.setTop (mkF m 23 #[.val (.int p1), .val (.int (p1 &&& (3 : Int32))), .val (.int pr), .unset, .unset, .unset, .unset, .unset] [(.int ((p1 >>> ((3 : Int32) &&& 31)) &&& (1 : Int32)))])) _
        refine XS.ifNo X0.here hx rfl (hb hby at_23) rfl ((if0 _ _).trans (feq y0).1) ?_
        show Steps p.tables e below (s₁.setTop (mkF m 26 #[.val (.int p1), .val (.int (p1 &&& (3 : Int32))), .val (.int pr), .unset, .unset, .unset, .unset, .unset] [])) _
        refine XS.iconst X0.here hx rfl (hb hby at_26) ?_
        show Steps p.tables e below (s₁.setTop (mkF m 27 #[.val (.int p1), .val (.int (p1 &&& (3 : Int32))), .val (.int pr), .unset, .unset, .unset, .unset, .unset] [(.int (1 : Int32))])) _
        refine XS.goto X0.here hx rfl (pc0 := 27) (pc' := 31) rfl (hb hby at_27) (by decide) (by decide) ?_
        exact kt
    show Steps p.tables e below (s₁.setTop (mkF m 31 #[.val (.int p1), .val (.int (p1 &&& (3 : Int32))), .val (.int pr), .unset, .unset, .unset, .unset, .unset] [(.int nr)])) _
    refine XS.istoreN X0.here hx rfl (hb hby at_31) rfl (l' := #[.val (.int p1), .val (.int (p1 &&& (3 : Int32))), .val (.int pr), .val (.int nr), .unset, .unset, .unset, .unset]) rfl ?_
    show Steps p.tables e below (s₁.setTop (mkF m 32 #[.val (.int p1), .val (.int (p1 &&& (3 : Int32))), .val (.int pr), .val (.int nr), .unset, .unset, .unset, .unset] [])) _
    rw [h2_md]
    show Steps p.tables e below (s₁.setTop (mkF m 32 #[.val (.int p1), .val (.int md), .val (.int pr), .val (.int nr), .unset, .unset, .unset, .unset] [])) _
    refine st1 _ ?_
    show Steps p.tables e below (T1.setTop (mkF m 35 #[.val (.int p1), .val (.int md), .val (.int pr), .val (.int nr), .unset, .unset, .unset, .unset] [(.ref o)])) _
    refine XS.dup X1.here hx rfl (hb hby at_35) rfl rfl ?_
    show Steps p.tables e below (T1.setTop (mkF m 36 #[.val (.int p1), .val (.int md), .val (.int pr), .val (.int nr), .unset, .unset, .unset, .unset] [(.ref o), (.ref o)])) _
    refine st2.trans ?_
    show Steps p.tables e below (T2.setTop (mkF m 39 #[.val (.int p1), .val (.int md), .val (.int pr), .val (.int nr), .unset, .unset, .unset, .unset] [(.ref o)])) _
    refine XS.astore X2.here hx rfl (hb hby at_39) rfl rfl (l' := #[.val (.int p1), .val (.int md), .val (.int pr), .val (.int nr), .val (.ref o), .unset, .unset, .unset]) rfl ?_
    show Steps p.tables e below (T2.setTop (mkF m 41 #[.val (.int p1), .val (.int md), .val (.int pr), .val (.int nr), .val (.ref o), .unset, .unset, .unset] [])) _
    refine XS.aload X2.here hx rfl (hb hby at_41) rfl rfl ?_
    show Steps p.tables e below (T2.setTop (mkF m 43 #[.val (.int p1), .val (.int md), .val (.int pr), .val (.int nr), .val (.ref o), .unset, .unset, .unset] [(.ref o)])) _
    refine st3.trans ?_
    show Steps p.tables e below (T3.setTop (mkF m 46 #[.val (.int p1), .val (.int md), .val (.int pr), .val (.int nr), .val (.ref o), .unset, .unset, .unset] [(.int x1)])) _
    refine XS.pop X3.here hx rfl (hb hby at_46) rfl rfl ?_
    show Steps p.tables e below (T3.setTop (mkF m 47 #[.val (.int p1), .val (.int md), .val (.int pr), .val (.int nr), .val (.ref o), .unset, .unset, .unset] [])) _
    refine XS.iloadN X3.here hx rfl (hb hby at_47) rfl ?_
    exact kt
  rcases hpr with hp | hp
  · rcases hmd with hm0 | hm1 | hm2 | hm3
    · have pM0 : ∀ tt, Steps p.tables e below (T3.setTop (mkF m 125 #[.val (.int p1), .val (.int md), .val (.int pr), .val (.int nr), .val (.ref o), .unset, .unset, .unset] [])) tt → Steps p.tables e below (s₁.setTop (mkF m 0 #[.val (.int p1), .unset, .unset, .unset, .unset, .unset, .unset, .unset] [])) tt := by
        intro tt kt
        show Steps p.tables e below (s₁.setTop (mkF m 0 #[.val (.int p1), .unset, .unset, .unset, .unset, .unset, .unset, .unset] [])) _
        refine pA _ ?_
        show Steps p.tables e below (T3.setTop (mkF m 48 #[.val (.int p1), .val (.int md), .val (.int pr), .val (.int nr), .val (.ref o), .unset, .unset, .unset] [(.int pr)])) _
        refine XS.ifYes X3.here hx rfl (pc0 := 48) (pc' := 62) rfl (hb hby at_48) rfl ((if0 _ _).trans (teq hp).1) (by decide) (by decide) ?_
        show Steps p.tables e below (T3.setTop (mkF m 62 #[.val (.int p1), .val (.int md), .val (.int pr), .val (.int nr), .val (.ref o), .unset, .unset, .unset] [])) _
        refine XS.iloadN X3.here hx rfl (hb hby at_62) rfl ?_
        show Steps p.tables e below (T3.setTop (mkF m 63 #[.val (.int p1), .val (.int md), .val (.int pr), .val (.int nr), .val (.ref o), .unset, .unset, .unset] [(.int md)])) _
        refine XS.iconst X3.here hx rfl (hb hby at_63) ?_
        show Steps p.tables e below (T3.setTop (mkF m 64 #[.val (.int p1), .val (.int md), .val (.int pr), .val (.int nr), .val (.ref o), .unset, .unset, .unset] [(.int (1 : Int32)), (.int md)])) _
        refine XS.icmpNo X3.here hx rfl (hb hby at_64) rfl (feq (by rw [hm0]; decide)).1 ?_
        show Steps p.tables e below (T3.setTop (mkF m 67 #[.val (.int p1), .val (.int md), .val (.int pr), .val (.int nr), .val (.ref o), .unset, .unset, .unset] [])) _
        refine XS.iloadN X3.here hx rfl (hb hby at_67) rfl ?_
        show Steps p.tables e below (T3.setTop (mkF m 68 #[.val (.int p1), .val (.int md), .val (.int pr), .val (.int nr), .val (.ref o), .unset, .unset, .unset] [(.int md)])) _
        refine XS.iconst X3.here hx rfl (hb hby at_68) ?_
        show Steps p.tables e below (T3.setTop (mkF m 69 #[.val (.int p1), .val (.int md), .val (.int pr), .val (.int nr), .val (.ref o), .unset, .unset, .unset] [(.int (3 : Int32)), (.int md)])) _
        refine XS.icmpYes X3.here hx rfl (pc0 := 69) (pc' := 84) rfl (hb hby at_69) rfl (feq (by rw [hm0]; decide)).2 (by decide) (by decide) ?_
        show Steps p.tables e below (T3.setTop (mkF m 84 #[.val (.int p1), .val (.int md), .val (.int pr), .val (.int nr), .val (.ref o), .unset, .unset, .unset] [])) _
        refine XS.iloadN X3.here hx rfl (hb hby at_84) rfl ?_
        show Steps p.tables e below (T3.setTop (mkF m 85 #[.val (.int p1), .val (.int md), .val (.int pr), .val (.int nr), .val (.ref o), .unset, .unset, .unset] [(.int md)])) _
        refine XS.iconst X3.here hx rfl (hb hby at_85) ?_
        show Steps p.tables e below (T3.setTop (mkF m 86 #[.val (.int p1), .val (.int md), .val (.int pr), .val (.int nr), .val (.ref o), .unset, .unset, .unset] [(.int (2 : Int32)), (.int md)])) _
        refine XS.icmpYes X3.here hx rfl (pc0 := 86) (pc' := 106) rfl (hb hby at_86) rfl (feq (by rw [hm0]; decide)).2 (by decide) (by decide) ?_
        show Steps p.tables e below (T3.setTop (mkF m 106 #[.val (.int p1), .val (.int md), .val (.int pr), .val (.int nr), .val (.ref o), .unset, .unset, .unset] [])) _
        refine XS.iloadN X3.here hx rfl (hb hby at_106) rfl ?_
        show Steps p.tables e below (T3.setTop (mkF m 107 #[.val (.int p1), .val (.int md), .val (.int pr), .val (.int nr), .val (.ref o), .unset, .unset, .unset] [(.int md)])) _
        refine XS.ifYes X3.here hx rfl (pc0 := 107) (pc' := 125) rfl (hb hby at_107) rfl ((if0 _ _).trans (teq hm0).1) (by decide) (by decide) ?_
        exact kt
      obtain ⟨cq4, kq4, q4a, q4b, q4c⟩ := isOf hZ rfl (D_1.1)
      obtain ⟨_, _, ⟨T4, L4, k4, n4⟩, -, X4, ⟨Lc4, hQ4, l4, y4, z4⟩, st4⟩ := X3.virtualBack hx (y := (⟨"com/example/gabarit/gabarit/shacl/DescriptionOrder", "property", "()Z"⟩ : MethodName)) (z := (⟨"com/example/gabarit/gabarit/shacl/DescriptionOrder", "property", "()Z"⟩ : MethodName)) hown (mvT hZ (hw _ (List.mem_of_getElem? (i := 69) rfl))) (mvT hZ (hw _ (List.mem_of_getElem? (i := 70) rfl))) (notFace_of_selects (args := #[]) (mvT hZ (hw _ (List.mem_of_getElem? (i := 72) rfl)))) (mvT hZ (hw _ (List.mem_of_getElem? (i := 72) rfl))) (mvT hZ (hw _ (List.mem_of_getElem? (i := 71) rfl))) (by decide) (backOf (W := 0) (rm_prop l Z a0 hw [] o q el k f0 false [] ((0 : Int32) + 1) T3.heap n0 sz3 D_1 (by simp)) hZ (hw _ (List.mem_of_getElem? (i := 73) rfl)) (hw _ (List.mem_of_getElem? (i := 2) rfl)) (by decide) (by decide)) q4a q4c (g := (mkF m 138 #[.val (.int p1), .val (.int md), .val (.int pr), .val (.int nr), .val (.ref o), .unset, .unset, .unset] [(.ref o)])) rfl (by rw [hml]; rfl) (Steps.refl _) (argsL := []) (rest := []) (lenOf own_pd5 rfl) rfl (by show 2 * 0 + _ ≤ _; exact Nat.le_of_eq rfl) (hb hby at_138) (fun _ _ => ⟨rfl, rfl, (by decide : 4 + 0 ≤ _), (by decide : 25 + 0 ≤ _)⟩)
      dsimp only [Pt.U, Pt.locs, Pt.cells, Pt.slots] at X4 l4 y4 z4 st4 hQ4
      rw [l4, y4, z4] at X4
      obtain ⟨rfl, Nq4, z4, D_2⟩ := hQ4
      have sz4 : n0 ≤ T4.heap.size := Nat.le_trans sz3 z4
      have N4 := Fr.app N3 Nq4
      obtain ⟨cq5, kq5, q5a, q5b, q5c⟩ := isOf hZ rfl (D_2.1)
      obtain ⟨_, _, ⟨T5, L5, k5, n5⟩, -, X5, ⟨Lc5, hQ5, l5, y5, z5⟩, st5⟩ := X4.virtualBack hx (y := (⟨"com/example/gabarit/gabarit/shacl/DescriptionOrder", "value", "()V"⟩ : MethodName)) (z := (⟨"com/example/gabarit/gabarit/shacl/DescriptionOrder", "value", "()V"⟩ : MethodName)) hown (mvT hZ (hw _ (List.mem_of_getElem? (i := 98) rfl))) (mvT hZ (hw _ (List.mem_of_getElem? (i := 99) rfl))) (notFace_of_selects (args := #[]) (mvT hZ (hw _ (List.mem_of_getElem? (i := 101) rfl)))) (mvT hZ (hw _ (List.mem_of_getElem? (i := 101) rfl))) (mvT hZ (hw _ (List.mem_of_getElem? (i := 100) rfl))) (by decide) (backOf (W := 0) (rm_val l Z a0 hw [] o q el k f0 false true [] true ((0 : Int32) + 1) T4.heap n0 sz4 D_2 (by simp) (by simp)) hZ (hw _ (List.mem_of_getElem? (i := 102) rfl)) (hw _ (List.mem_of_getElem? (i := 2) rfl)) (by decide) (by decide)) q5a q5c (g := (mkF m 178 #[.val (.int p1), .val (.int md), .val (.int pr), .val (.int nr), .val (.ref o), .val (.int (own_b false)), .val (.int pr), .val (.int (1 : Int32))] [(.ref o)])) rfl (by rw [hml]; rfl) (Steps.refl _) (argsL := []) (rest := []) (lenOf own_pd0 rfl) rfl (by show 2 * 0 + _ ≤ _; exact Nat.le_of_eq rfl) (hb hby at_178) (fun _ _ => ⟨rfl, rfl, (by decide : 4 + 0 ≤ _), (by decide : 25 + 0 ≤ _)⟩)
      dsimp only [Pt.U, Pt.locs, Pt.cells, Pt.slots] at X5 l5 y5 z5 st5 hQ5
      rw [l5, y5, z5] at X5
      obtain ⟨rfl, Nq5, z5, D_3⟩ := hQ5
      have sz5 : n0 ≤ T5.heap.size := Nat.le_trans sz4 z5
      have N5 := Fr.app N4 Nq5
      obtain ⟨cq6, kq6, q6a, q6b, q6c⟩ := isOf hZ rfl (D_3.1)
      obtain ⟨_, _, ⟨T6, L6, k6, n6⟩, -, X6, ⟨Lc6, hQ6, l6, y6, z6⟩, st6⟩ := X5.virtualBack hx (y := (⟨"com/example/gabarit/gabarit/shacl/DescriptionOrder", "blankNodesOpen", "()I"⟩ : MethodName)) (z := (⟨"com/example/gabarit/gabarit/shacl/DescriptionOrder", "blankNodesOpen", "()I"⟩ : MethodName)) hown (mvT hZ (hw _ (List.mem_of_getElem? (i := 103) rfl))) (mvT hZ (hw _ (List.mem_of_getElem? (i := 104) rfl))) (notFace_of_selects (args := #[]) (mvT hZ (hw _ (List.mem_of_getElem? (i := 106) rfl)))) (mvT hZ (hw _ (List.mem_of_getElem? (i := 106) rfl))) (mvT hZ (hw _ (List.mem_of_getElem? (i := 105) rfl))) (by decide) (backOf (W := 0) (rm_bno l Z a0 hw [] o ((0 : Int32) + 1) T5.heap n0 sz5 D_3.2.2.2.1) hZ (hw _ (List.mem_of_getElem? (i := 107) rfl)) (hw _ (List.mem_of_getElem? (i := 2) rfl)) (by decide) (by decide)) q6a q6c (g := (mkF m 190 #[.val (.int p1), .val (.int md), .val (.int pr), .val (.int nr), .val (.ref o), .val (.int (own_b false)), .val (.int pr), .val (.int (1 : Int32))] [(.ref o)])) rfl (by rw [hml]; rfl) (Steps.refl _) (argsL := []) (rest := []) (lenOf own_pd8 rfl) rfl (by show 2 * 0 + _ ≤ _; exact Nat.le_of_eq rfl) (hb hby at_190) (fun _ _ => ⟨rfl, rfl, (by decide : 4 + 0 ≤ _), (by decide : 25 + 0 ≤ _)⟩)
      dsimp only [Pt.U, Pt.locs, Pt.cells, Pt.slots] at X6 l6 y6 z6 st6 hQ6
      rw [l6, y6, z6] at X6
      obtain ⟨rfl, Nq6, e6⟩ := hQ6
      have N6 := Fr.app N5 Nq6
      obtain ⟨fs, hr, hrun, hended, hW, hsame⟩ := X6.leave (v := some (.int (1 : Int32))) (fun h => by rw [Bd.returns] at h; cases h)
      refine ⟨_, _, pre0 _ ?_, hrun, hended, _, _, rfl, ?_, ⟨_, rfl⟩, hW, hsame.mono (by decide) (by decide)⟩
      · show Steps p.tables e below (s₁.setTop (mkF m 0 #[.val (.int p1), .unset, .unset, .unset, .unset, .unset, .unset, .unset] [])) _
        refine pM0 _ ?_
        show Steps p.tables e below (T3.setTop (mkF m 125 #[.val (.int p1), .val (.int md), .val (.int pr), .val (.int nr), .val (.ref o), .unset, .unset, .unset] [])) _
        refine XS.iloadN X3.here hx rfl (hb hby at_125) rfl ?_
        show Steps p.tables e below (T3.setTop (mkF m 126 #[.val (.int p1), .val (.int md), .val (.int pr), .val (.int nr), .val (.ref o), .unset, .unset, .unset] [(.int md)])) _
        refine XS.iconst X3.here hx rfl (hb hby at_126) ?_
        show Steps p.tables e below (T3.setTop (mkF m 127 #[.val (.int p1), .val (.int md), .val (.int pr), .val (.int nr), .val (.ref o), .unset, .unset, .unset] [(.int (3 : Int32)), (.int md)])) _
        refine XS.icmpYes X3.here hx rfl (pc0 := 127) (pc' := 136) rfl (hb hby at_127) rfl (feq (by rw [hm0]; decide)).2 (by decide) (by decide) ?_
        show Steps p.tables e below (T3.setTop (mkF m 136 #[.val (.int p1), .val (.int md), .val (.int pr), .val (.int nr), .val (.ref o), .unset, .unset, .unset] [])) _
        refine XS.aload X3.here hx rfl (hb hby at_136) rfl rfl ?_
        show Steps p.tables e below (T3.setTop (mkF m 138 #[.val (.int p1), .val (.int md), .val (.int pr), .val (.int nr), .val (.ref o), .unset, .unset, .unset] [(.ref o)])) _
        refine st4.trans ?_
        show Steps p.tables e below (T4.setTop (mkF m 141 #[.val (.int p1), .val (.int md), .val (.int pr), .val (.int nr), .val (.ref o), .unset, .unset, .unset] [(.int (own_b false))])) _
        refine XS.istore X4.here hx rfl (hb hby at_141) rfl (l' := #[.val (.int p1), .val (.int md), .val (.int pr), .val (.int nr), .val (.ref o), .val (.int (own_b false)), .unset, .unset]) rfl ?_
        show Steps p.tables e below (T4.setTop (mkF m 143 #[.val (.int p1), .val (.int md), .val (.int pr), .val (.int nr), .val (.ref o), .val (.int (own_b false)), .unset, .unset] [])) _
        refine XS.iloadN X4.here hx rfl (hb hby at_143) rfl ?_
        show Steps p.tables e below (T4.setTop (mkF m 144 #[.val (.int p1), .val (.int md), .val (.int pr), .val (.int nr), .val (.ref o), .val (.int (own_b false)), .unset, .unset] [(.int md)])) _
        refine XS.ifNo X4.here hx rfl (hb hby at_144) rfl ((if0 _ _).trans (teq hm0).2) ?_
        show Steps p.tables e below (T4.setTop (mkF m 147 #[.val (.int p1), .val (.int md), .val (.int pr), .val (.int nr), .val (.ref o), .val (.int (own_b false)), .unset, .unset] [])) _
        refine XS.iloadN X4.here hx rfl (hb hby at_147) rfl ?_
        show Steps p.tables e below (T4.setTop (mkF m 148 #[.val (.int p1), .val (.int md), .val (.int pr), .val (.int nr), .val (.ref o), .val (.int (own_b false)), .unset, .unset] [(.int pr)])) _
        refine XS.istore X4.here hx rfl (hb hby at_148) rfl (l' := #[.val (.int p1), .val (.int md), .val (.int pr), .val (.int nr), .val (.ref o), .val (.int (own_b false)), .val (.int pr), .unset]) rfl ?_
        show Steps p.tables e below (T4.setTop (mkF m 150 #[.val (.int p1), .val (.int md), .val (.int pr), .val (.int nr), .val (.ref o), .val (.int (own_b false)), .val (.int pr), .unset] [])) _
        refine XS.iconst X4.here hx rfl (hb hby at_150) ?_
        show Steps p.tables e below (T4.setTop (mkF m 151 #[.val (.int p1), .val (.int md), .val (.int pr), .val (.int nr), .val (.ref o), .val (.int (own_b false)), .val (.int pr), .unset] [(.int (1 : Int32))])) _
        refine XS.istore X4.here hx rfl (hb hby at_151) rfl (l' := #[.val (.int p1), .val (.int md), .val (.int pr), .val (.int nr), .val (.ref o), .val (.int (own_b false)), .val (.int pr), .val (.int (1 : Int32))]) rfl ?_
        show Steps p.tables e below (T4.setTop (mkF m 153 #[.val (.int p1), .val (.int md), .val (.int pr), .val (.int nr), .val (.ref o), .val (.int (own_b false)), .val (.int pr), .val (.int (1 : Int32))] [])) _
        refine XS.goto X4.here hx rfl (pc0 := 153) (pc' := 176) rfl (hb hby at_153) (by decide) (by decide) ?_
        show Steps p.tables e below (T4.setTop (mkF m 176 #[.val (.int p1), .val (.int md), .val (.int pr), .val (.int nr), .val (.ref o), .val (.int (own_b false)), .val (.int pr), .val (.int (1 : Int32))] [])) _
        refine XS.aload X4.here hx rfl (hb hby at_176) rfl rfl ?_
        show Steps p.tables e below (T4.setTop (mkF m 178 #[.val (.int p1), .val (.int md), .val (.int pr), .val (.int nr), .val (.ref o), .val (.int (own_b false)), .val (.int pr), .val (.int (1 : Int32))] [(.ref o)])) _
        refine st5.trans ?_
        show Steps p.tables e below (T5.setTop (mkF m 181 #[.val (.int p1), .val (.int md), .val (.int pr), .val (.int nr), .val (.ref o), .val (.int (own_b false)), .val (.int pr), .val (.int (1 : Int32))] [])) _
        refine XS.iload X5.here hx rfl (hb hby at_181) rfl ?_
        show Steps p.tables e below (T5.setTop (mkF m 183 #[.val (.int p1), .val (.int md), .val (.int pr), .val (.int nr), .val (.ref o), .val (.int (own_b false)), .val (.int pr), .val (.int (1 : Int32))] [(.int (own_b false))])) _
        refine XS.iload X5.here hx rfl (hb hby at_183) rfl ?_
        show Steps p.tables e below (T5.setTop (mkF m 185 #[.val (.int p1), .val (.int md), .val (.int pr), .val (.int nr), .val (.ref o), .val (.int (own_b false)), .val (.int pr), .val (.int (1 : Int32))] [(.int pr), (.int (own_b false))])) _
        refine XS.icmpNo X5.here hx rfl (hb hby at_185) rfl (teq hp.symm).2 ?_
        show Steps p.tables e below (T5.setTop (mkF m 188 #[.val (.int p1), .val (.int md), .val (.int pr), .val (.int nr), .val (.ref o), .val (.int (own_b false)), .val (.int pr), .val (.int (1 : Int32))] [])) _
        refine XS.aload X5.here hx rfl (hb hby at_188) rfl rfl ?_
        show Steps p.tables e below (T5.setTop (mkF m 190 #[.val (.int p1), .val (.int md), .val (.int pr), .val (.int nr), .val (.ref o), .val (.int (own_b false)), .val (.int pr), .val (.int (1 : Int32))] [(.ref o)])) _
        refine st6.trans ?_
        show Steps p.tables e below (T6.setTop (mkF m 193 #[.val (.int p1), .val (.int md), .val (.int pr), .val (.int nr), .val (.ref o), .val (.int (own_b false)), .val (.int pr), .val (.int (1 : Int32))] [(.int ((0 : Int32) + 1))])) _
        refine XS.iload X6.here hx rfl (hb hby at_193) rfl ?_
        show Steps p.tables e below (T6.setTop (mkF m 195 #[.val (.int p1), .val (.int md), .val (.int pr), .val (.int nr), .val (.ref o), .val (.int (own_b false)), .val (.int pr), .val (.int (1 : Int32))] [(.int (1 : Int32)), (.int ((0 : Int32) + 1))])) _
        refine XS.icmpNo X6.here hx rfl (hb hby at_195) rfl (teq (by decide)).2 ?_
        show Steps p.tables e below (T6.setTop (mkF m 198 #[.val (.int p1), .val (.int md), .val (.int pr), .val (.int nr), .val (.ref o), .val (.int (own_b false)), .val (.int pr), .val (.int (1 : Int32))] [])) _
        refine XS.iconst X6.here hx rfl (hb hby at_198) ?_
        show Steps p.tables e below (T6.setTop (mkF m 199 #[.val (.int p1), .val (.int md), .val (.int pr), .val (.int nr), .val (.ref o), .val (.int (own_b false)), .val (.int pr), .val (.int (1 : Int32))] [(.int (1 : Int32))])) _
        refine XS.goto X6.here hx rfl (pc0 := 199) (pc' := 203) rfl (hb hby at_199) (by decide) (by decide) ?_
        show Steps p.tables e below (T6.setTop (mkF m 203 #[.val (.int p1), .val (.int md), .val (.int pr), .val (.int nr), .val (.ref o), .val (.int (own_b false)), .val (.int pr), .val (.int (1 : Int32))] [(.int (1 : Int32))])) _
        exact retN X6 hx (t := .boolean) Bd.returns (by simp) (hb hby at_203) hr
      · show Q_law Z p1 h0 n0 _ T6.heap _
        rw [e6]
        exact ⟨rfl, N6⟩
    · obtain ⟨cq7, kq7, q7a, q7b, q7c⟩ := isOf hZ rfl (D_1.1)
      obtain ⟨_, _, ⟨T7, L7, k7, n7⟩, -, X7, ⟨Lc7, hQ7, l7, y7, z7⟩, st7⟩ := X3.virtualBack hx (y := (⟨"com/example/gabarit/gabarit/shacl/DescriptionOrder", "property", "()Z"⟩ : MethodName)) (z := (⟨"com/example/gabarit/gabarit/shacl/DescriptionOrder", "property", "()Z"⟩ : MethodName)) hown (mvT hZ (hw _ (List.mem_of_getElem? (i := 69) rfl))) (mvT hZ (hw _ (List.mem_of_getElem? (i := 70) rfl))) (notFace_of_selects (args := #[]) (mvT hZ (hw _ (List.mem_of_getElem? (i := 72) rfl)))) (mvT hZ (hw _ (List.mem_of_getElem? (i := 72) rfl))) (mvT hZ (hw _ (List.mem_of_getElem? (i := 71) rfl))) (by decide) (backOf (W := 0) (rm_prop l Z a0 hw [] o q el k f0 false [] ((0 : Int32) + 1) T3.heap n0 sz3 D_1 (by simp)) hZ (hw _ (List.mem_of_getElem? (i := 73) rfl)) (hw _ (List.mem_of_getElem? (i := 2) rfl)) (by decide) (by decide)) q7a q7c (g := (mkF m 74 #[.val (.int p1), .val (.int md), .val (.int pr), .val (.int nr), .val (.ref o), .unset, .unset, .unset] [(.ref o)])) rfl (by rw [hml]; rfl) (Steps.refl _) (argsL := []) (rest := []) (lenOf own_pd5 rfl) rfl (by show 2 * 0 + _ ≤ _; exact Nat.le_of_eq rfl) (hb hby at_74) (fun _ _ => ⟨rfl, rfl, (by decide : 4 + 0 ≤ _), (by decide : 25 + 0 ≤ _)⟩)
      dsimp only [Pt.U, Pt.locs, Pt.cells, Pt.slots] at X7 l7 y7 z7 st7 hQ7
      rw [l7, y7, z7] at X7
      obtain ⟨rfl, Nq7, z7, D_4⟩ := hQ7
      have sz7 : n0 ≤ T7.heap.size := Nat.le_trans sz3 z7
      have N7 := Fr.app N3 Nq7
      obtain ⟨cq8, kq8, q8a, q8b, q8c⟩ := isOf hZ rfl (D_4.1)
      obtain ⟨_, _, ⟨T8, L8, k8, n8⟩, -, X8, ⟨Lc8, hQ8, l8, y8, z8⟩, st8⟩ := X7.virtualBack hx (y := (⟨"com/example/gabarit/gabarit/shacl/DescriptionOrder", "beginBlankNode", "()Z"⟩ : MethodName)) (z := (⟨"com/example/gabarit/gabarit/shacl/DescriptionOrder", "beginBlankNode", "()Z"⟩ : MethodName)) hown (mvT hZ (hw _ (List.mem_of_getElem? (i := 28) rfl))) (mvT hZ (hw _ (List.mem_of_getElem? (i := 29) rfl))) (notFace_of_selects (args := #[]) (mvT hZ (hw _ (List.mem_of_getElem? (i := 31) rfl)))) (mvT hZ (hw _ (List.mem_of_getElem? (i := 31) rfl))) (mvT hZ (hw _ (List.mem_of_getElem? (i := 30) rfl))) (by decide) (backOf (W := 0) (rm_bbN l Z a0 hw [] o q el k f0 false true [] true ((0 : Int32) + 1) T7.heap n0 sz7 D_4 (by simp) (by simp)) hZ (hw _ (List.mem_of_getElem? (i := 32) rfl)) (hw _ (List.mem_of_getElem? (i := 2) rfl)) (by decide) (by decide)) q8a q8c (g := (mkF m 80 #[.val (.int p1), .val (.int md), .val (.int pr), .val (.int nr), .val (.ref o), .unset, .unset, .unset] [(.ref o)])) rfl (by rw [hml]; rfl) (Steps.refl _) (argsL := []) (rest := []) (lenOf own_pd5 rfl) rfl (by show 2 * 0 + _ ≤ _; exact Nat.le_of_eq rfl) (hb hby at_80) (fun _ _ => ⟨rfl, rfl, (by decide : 4 + 1 ≤ _), (by decide : 25 + 2 ≤ _)⟩)
      dsimp only [Pt.U, Pt.locs, Pt.cells, Pt.slots] at X8 l8 y8 z8 st8 hQ8
      rw [l8, y8, z8] at X8
      obtain ⟨⟨xD_5, rfl⟩, Nq8, z8, bD_5, D_5⟩ := hQ8
      have sz8 : n0 ≤ T8.heap.size := Nat.le_trans sz7 z8
      have N8 := Fr.app N7 Nq8
      have pM1 : ∀ tt, Steps p.tables e below (T8.setTop (mkF m 111 #[.val (.int p1), .val (.int md), .val (.int pr), .val (.int nr), .val (.ref o), .unset, .unset, .unset] [(.int nr)])) tt → Steps p.tables e below (s₁.setTop (mkF m 0 #[.val (.int p1), .unset, .unset, .unset, .unset, .unset, .unset, .unset] [])) tt := by
        intro tt kt
        show Steps p.tables e below (s₁.setTop (mkF m 0 #[.val (.int p1), .unset, .unset, .unset, .unset, .unset, .unset, .unset] [])) _
        refine pA _ ?_
        show Steps p.tables e below (T3.setTop (mkF m 48 #[.val (.int p1), .val (.int md), .val (.int pr), .val (.int nr), .val (.ref o), .unset, .unset, .unset] [(.int pr)])) _
        refine XS.ifYes X3.here hx rfl (pc0 := 48) (pc' := 62) rfl (hb hby at_48) rfl ((if0 _ _).trans (teq hp).1) (by decide) (by decide) ?_
        show Steps p.tables e below (T3.setTop (mkF m 62 #[.val (.int p1), .val (.int md), .val (.int pr), .val (.int nr), .val (.ref o), .unset, .unset, .unset] [])) _
        refine XS.iloadN X3.here hx rfl (hb hby at_62) rfl ?_
        show Steps p.tables e below (T3.setTop (mkF m 63 #[.val (.int p1), .val (.int md), .val (.int pr), .val (.int nr), .val (.ref o), .unset, .unset, .unset] [(.int md)])) _
        refine XS.iconst X3.here hx rfl (hb hby at_63) ?_
        show Steps p.tables e below (T3.setTop (mkF m 64 #[.val (.int p1), .val (.int md), .val (.int pr), .val (.int nr), .val (.ref o), .unset, .unset, .unset] [(.int (1 : Int32)), (.int md)])) _
        refine XS.icmpYes X3.here hx rfl (pc0 := 64) (pc' := 72) rfl (hb hby at_64) rfl (teq hm1).1 (by decide) (by decide) ?_
        show Steps p.tables e below (T3.setTop (mkF m 72 #[.val (.int p1), .val (.int md), .val (.int pr), .val (.int nr), .val (.ref o), .unset, .unset, .unset] [])) _
        refine XS.aload X3.here hx rfl (hb hby at_72) rfl rfl ?_
        show Steps p.tables e below (T3.setTop (mkF m 74 #[.val (.int p1), .val (.int md), .val (.int pr), .val (.int nr), .val (.ref o), .unset, .unset, .unset] [(.ref o)])) _
        refine st7.trans ?_
        show Steps p.tables e below (T7.setTop (mkF m 77 #[.val (.int p1), .val (.int md), .val (.int pr), .val (.int nr), .val (.ref o), .unset, .unset, .unset] [(.int (own_b false))])) _
        refine XS.pop X7.here hx rfl (hb hby at_77) rfl rfl ?_
        show Steps p.tables e below (T7.setTop (mkF m 78 #[.val (.int p1), .val (.int md), .val (.int pr), .val (.int nr), .val (.ref o), .unset, .unset, .unset] [])) _
        refine XS.aload X7.here hx rfl (hb hby at_78) rfl rfl ?_
        show Steps p.tables e below (T7.setTop (mkF m 80 #[.val (.int p1), .val (.int md), .val (.int pr), .val (.int nr), .val (.ref o), .unset, .unset, .unset] [(.ref o)])) _
        refine st8.trans ?_
        show Steps p.tables e below (T8.setTop (mkF m 83 #[.val (.int p1), .val (.int md), .val (.int pr), .val (.int nr), .val (.ref o), .unset, .unset, .unset] [(.int xD_5)])) _
        refine XS.pop X8.here hx rfl (hb hby at_83) rfl rfl ?_
        show Steps p.tables e below (T8.setTop (mkF m 84 #[.val (.int p1), .val (.int md), .val (.int pr), .val (.int nr), .val (.ref o), .unset, .unset, .unset] [])) _
        refine XS.iloadN X8.here hx rfl (hb hby at_84) rfl ?_
        show Steps p.tables e below (T8.setTop (mkF m 85 #[.val (.int p1), .val (.int md), .val (.int pr), .val (.int nr), .val (.ref o), .unset, .unset, .unset] [(.int md)])) _
        refine XS.iconst X8.here hx rfl (hb hby at_85) ?_
        show Steps p.tables e below (T8.setTop (mkF m 86 #[.val (.int p1), .val (.int md), .val (.int pr), .val (.int nr), .val (.ref o), .unset, .unset, .unset] [(.int (2 : Int32)), (.int md)])) _
        refine XS.icmpYes X8.here hx rfl (pc0 := 86) (pc' := 106) rfl (hb hby at_86) rfl (feq (by rw [hm1]; decide)).2 (by decide) (by decide) ?_
        show Steps p.tables e below (T8.setTop (mkF m 106 #[.val (.int p1), .val (.int md), .val (.int pr), .val (.int nr), .val (.ref o), .unset, .unset, .unset] [])) _
        refine XS.iloadN X8.here hx rfl (hb hby at_106) rfl ?_
        show Steps p.tables e below (T8.setTop (mkF m 107 #[.val (.int p1), .val (.int md), .val (.int pr), .val (.int nr), .val (.ref o), .unset, .unset, .unset] [(.int md)])) _
        refine XS.ifNo X8.here hx rfl (hb hby at_107) rfl ((if0 _ _).trans (feq (by rw [hm1]; decide)).1) ?_
        show Steps p.tables e below (T8.setTop (mkF m 110 #[.val (.int p1), .val (.int md), .val (.int pr), .val (.int nr), .val (.ref o), .unset, .unset, .unset] [])) _
        refine XS.iloadN X8.here hx rfl (hb hby at_110) rfl ?_
        exact kt
      rcases hnr with hq | hq
      · obtain ⟨cq9, kq9, q9a, q9b, q9c⟩ := isOf hZ rfl (D_5.1)
        obtain ⟨_, _, ⟨T9, L9, k9, n9⟩, -, X9, ⟨Lc9, hQ9, l9, y9, z9⟩, st9⟩ := X8.virtualBack hx (y := (⟨"com/example/gabarit/gabarit/shacl/DescriptionOrder", "property", "()Z"⟩ : MethodName)) (z := (⟨"com/example/gabarit/gabarit/shacl/DescriptionOrder", "property", "()Z"⟩ : MethodName)) hown (mvT hZ (hw _ (List.mem_of_getElem? (i := 69) rfl))) (mvT hZ (hw _ (List.mem_of_getElem? (i := 70) rfl))) (notFace_of_selects (args := #[]) (mvT hZ (hw _ (List.mem_of_getElem? (i := 72) rfl)))) (mvT hZ (hw _ (List.mem_of_getElem? (i := 72) rfl))) (mvT hZ (hw _ (List.mem_of_getElem? (i := 71) rfl))) (by decide) (backOf (W := 0) (rm_prop l Z a0 hw [] o q el k bD_5 false [(f0, false, true)] (((0 : Int32) + 1) + 1) T8.heap n0 sz8 D_5 (by simp)) hZ (hw _ (List.mem_of_getElem? (i := 73) rfl)) (hw _ (List.mem_of_getElem? (i := 2) rfl)) (by decide) (by decide)) q9a q9c (g := (mkF m 138 #[.val (.int p1), .val (.int md), .val (.int pr), .val (.int nr), .val (.ref o), .unset, .unset, .unset] [(.ref o)])) rfl (by rw [hml]; rfl) (Steps.refl _) (argsL := []) (rest := []) (lenOf own_pd5 rfl) rfl (by show 2 * 0 + _ ≤ _; exact Nat.le_of_eq rfl) (hb hby at_138) (fun _ _ => ⟨rfl, rfl, (by decide : 5 + 0 ≤ _), (by decide : 27 + 0 ≤ _)⟩)
        dsimp only [Pt.U, Pt.locs, Pt.cells, Pt.slots] at X9 l9 y9 z9 st9 hQ9
        rw [l9, y9, z9] at X9
        obtain ⟨rfl, Nq9, z9, D_6⟩ := hQ9
        have sz9 : n0 ≤ T9.heap.size := Nat.le_trans sz8 z9
        have N9 := Fr.app N8 Nq9
        obtain ⟨cq10, kq10, q10a, q10b, q10c⟩ := isOf hZ rfl (D_6.1)
        obtain ⟨_, _, ⟨T10, L10, k10, n10⟩, -, X10, ⟨Lc10, hQ10, l10, y10, z10⟩, st10⟩ := X9.virtualBack hx (y := (⟨"com/example/gabarit/gabarit/shacl/DescriptionOrder", "value", "()V"⟩ : MethodName)) (z := (⟨"com/example/gabarit/gabarit/shacl/DescriptionOrder", "value", "()V"⟩ : MethodName)) hown (mvT hZ (hw _ (List.mem_of_getElem? (i := 98) rfl))) (mvT hZ (hw _ (List.mem_of_getElem? (i := 99) rfl))) (notFace_of_selects (args := #[]) (mvT hZ (hw _ (List.mem_of_getElem? (i := 101) rfl)))) (mvT hZ (hw _ (List.mem_of_getElem? (i := 101) rfl))) (mvT hZ (hw _ (List.mem_of_getElem? (i := 100) rfl))) (by decide) (backOf (W := 0) (rm_val l Z a0 hw [] o q el k bD_5 false true [(f0, false, true)] true (((0 : Int32) + 1) + 1) T9.heap n0 sz9 D_6 (by simp) (by simp)) hZ (hw _ (List.mem_of_getElem? (i := 102) rfl)) (hw _ (List.mem_of_getElem? (i := 2) rfl)) (by decide) (by decide)) q10a q10c (g := (mkF m 178 #[.val (.int p1), .val (.int md), .val (.int pr), .val (.int nr), .val (.ref o), .val (.int (own_b false)), .val (.int nr), .val (.int (2 : Int32))] [(.ref o)])) rfl (by rw [hml]; rfl) (Steps.refl _) (argsL := []) (rest := []) (lenOf own_pd0 rfl) rfl (by show 2 * 0 + _ ≤ _; exact Nat.le_of_eq rfl) (hb hby at_178) (fun _ _ => ⟨rfl, rfl, (by decide : 5 + 0 ≤ _), (by decide : 27 + 0 ≤ _)⟩)
        dsimp only [Pt.U, Pt.locs, Pt.cells, Pt.slots] at X10 l10 y10 z10 st10 hQ10
        rw [l10, y10, z10] at X10
        obtain ⟨rfl, Nq10, z10, D_7⟩ := hQ10
        have sz10 : n0 ≤ T10.heap.size := Nat.le_trans sz9 z10
        have N10 := Fr.app N9 Nq10
        obtain ⟨cq11, kq11, q11a, q11b, q11c⟩ := isOf hZ rfl (D_7.1)
        obtain ⟨_, _, ⟨T11, L11, k11, n11⟩, -, X11, ⟨Lc11, hQ11, l11, y11, z11⟩, st11⟩ := X10.virtualBack hx (y := (⟨"com/example/gabarit/gabarit/shacl/DescriptionOrder", "blankNodesOpen", "()I"⟩ : MethodName)) (z := (⟨"com/example/gabarit/gabarit/shacl/DescriptionOrder", "blankNodesOpen", "()I"⟩ : MethodName)) hown (mvT hZ (hw _ (List.mem_of_getElem? (i := 103) rfl))) (mvT hZ (hw _ (List.mem_of_getElem? (i := 104) rfl))) (notFace_of_selects (args := #[]) (mvT hZ (hw _ (List.mem_of_getElem? (i := 106) rfl)))) (mvT hZ (hw _ (List.mem_of_getElem? (i := 106) rfl))) (mvT hZ (hw _ (List.mem_of_getElem? (i := 105) rfl))) (by decide) (backOf (W := 0) (rm_bno l Z a0 hw [] o (((0 : Int32) + 1) + 1) T10.heap n0 sz10 D_7.2.2.2.1) hZ (hw _ (List.mem_of_getElem? (i := 107) rfl)) (hw _ (List.mem_of_getElem? (i := 2) rfl)) (by decide) (by decide)) q11a q11c (g := (mkF m 190 #[.val (.int p1), .val (.int md), .val (.int pr), .val (.int nr), .val (.ref o), .val (.int (own_b false)), .val (.int nr), .val (.int (2 : Int32))] [(.ref o)])) rfl (by rw [hml]; rfl) (Steps.refl _) (argsL := []) (rest := []) (lenOf own_pd8 rfl) rfl (by show 2 * 0 + _ ≤ _; exact Nat.le_of_eq rfl) (hb hby at_190) (fun _ _ => ⟨rfl, rfl, (by decide : 5 + 0 ≤ _), (by decide : 27 + 0 ≤ _)⟩)
        dsimp only [Pt.U, Pt.locs, Pt.cells, Pt.slots] at X11 l11 y11 z11 st11 hQ11
        rw [l11, y11, z11] at X11
        obtain ⟨rfl, Nq11, e11⟩ := hQ11
        have N11 := Fr.app N10 Nq11
        obtain ⟨fs, hr, hrun, hended, hW, hsame⟩ := X11.leave (v := some (.int (1 : Int32))) (fun h => by rw [Bd.returns] at h; cases h)
        refine ⟨_, _, pre0 _ ?_, hrun, hended, _, _, rfl, ?_, ⟨_, rfl⟩, hW, hsame.mono (by decide) (by decide)⟩
        · show Steps p.tables e below (s₁.setTop (mkF m 0 #[.val (.int p1), .unset, .unset, .unset, .unset, .unset, .unset, .unset] [])) _
          refine pM1 _ ?_
          show Steps p.tables e below (T8.setTop (mkF m 111 #[.val (.int p1), .val (.int md), .val (.int pr), .val (.int nr), .val (.ref o), .unset, .unset, .unset] [(.int nr)])) _
          refine XS.ifYes X8.here hx rfl (pc0 := 111) (pc' := 125) rfl (hb hby at_111) rfl ((if0 _ _).trans (teq hq).1) (by decide) (by decide) ?_
          show Steps p.tables e below (T8.setTop (mkF m 125 #[.val (.int p1), .val (.int md), .val (.int pr), .val (.int nr), .val (.ref o), .unset, .unset, .unset] [])) _
          refine XS.iloadN X8.here hx rfl (hb hby at_125) rfl ?_
          show Steps p.tables e below (T8.setTop (mkF m 126 #[.val (.int p1), .val (.int md), .val (.int pr), .val (.int nr), .val (.ref o), .unset, .unset, .unset] [(.int md)])) _
          refine XS.iconst X8.here hx rfl (hb hby at_126) ?_
          show Steps p.tables e below (T8.setTop (mkF m 127 #[.val (.int p1), .val (.int md), .val (.int pr), .val (.int nr), .val (.ref o), .unset, .unset, .unset] [(.int (3 : Int32)), (.int md)])) _
          refine XS.icmpYes X8.here hx rfl (pc0 := 127) (pc' := 136) rfl (hb hby at_127) rfl (feq (by rw [hm1]; decide)).2 (by decide) (by decide) ?_
          show Steps p.tables e below (T8.setTop (mkF m 136 #[.val (.int p1), .val (.int md), .val (.int pr), .val (.int nr), .val (.ref o), .unset, .unset, .unset] [])) _
          refine XS.aload X8.here hx rfl (hb hby at_136) rfl rfl ?_
          show Steps p.tables e below (T8.setTop (mkF m 138 #[.val (.int p1), .val (.int md), .val (.int pr), .val (.int nr), .val (.ref o), .unset, .unset, .unset] [(.ref o)])) _
          refine st9.trans ?_
          show Steps p.tables e below (T9.setTop (mkF m 141 #[.val (.int p1), .val (.int md), .val (.int pr), .val (.int nr), .val (.ref o), .unset, .unset, .unset] [(.int (own_b false))])) _
          refine XS.istore X9.here hx rfl (hb hby at_141) rfl (l' := #[.val (.int p1), .val (.int md), .val (.int pr), .val (.int nr), .val (.ref o), .val (.int (own_b false)), .unset, .unset]) rfl ?_
          show Steps p.tables e below (T9.setTop (mkF m 143 #[.val (.int p1), .val (.int md), .val (.int pr), .val (.int nr), .val (.ref o), .val (.int (own_b false)), .unset, .unset] [])) _
          refine XS.iloadN X9.here hx rfl (hb hby at_143) rfl ?_
          show Steps p.tables e below (T9.setTop (mkF m 144 #[.val (.int p1), .val (.int md), .val (.int pr), .val (.int nr), .val (.ref o), .val (.int (own_b false)), .unset, .unset] [(.int md)])) _
          refine XS.ifYes X9.here hx rfl (pc0 := 144) (pc' := 156) rfl (hb hby at_144) rfl ((if0 _ _).trans (feq (by rw [hm1]; decide)).2) (by decide) (by decide) ?_
          show Steps p.tables e below (T9.setTop (mkF m 156 #[.val (.int p1), .val (.int md), .val (.int pr), .val (.int nr), .val (.ref o), .val (.int (own_b false)), .unset, .unset] [])) _
          refine XS.iloadN X9.here hx rfl (hb hby at_156) rfl ?_
          show Steps p.tables e below (T9.setTop (mkF m 157 #[.val (.int p1), .val (.int md), .val (.int pr), .val (.int nr), .val (.ref o), .val (.int (own_b false)), .unset, .unset] [(.int md)])) _
          refine XS.iconst X9.here hx rfl (hb hby at_157) ?_
          show Steps p.tables e below (T9.setTop (mkF m 158 #[.val (.int p1), .val (.int md), .val (.int pr), .val (.int nr), .val (.ref o), .val (.int (own_b false)), .unset, .unset] [(.int (3 : Int32)), (.int md)])) _
          refine XS.icmpYes X9.here hx rfl (pc0 := 158) (pc' := 170) rfl (hb hby at_158) rfl (feq (by rw [hm1]; decide)).2 (by decide) (by decide) ?_
          show Steps p.tables e below (T9.setTop (mkF m 170 #[.val (.int p1), .val (.int md), .val (.int pr), .val (.int nr), .val (.ref o), .val (.int (own_b false)), .unset, .unset] [])) _
          refine XS.iloadN X9.here hx rfl (hb hby at_170) rfl ?_
          show Steps p.tables e below (T9.setTop (mkF m 171 #[.val (.int p1), .val (.int md), .val (.int pr), .val (.int nr), .val (.ref o), .val (.int (own_b false)), .unset, .unset] [(.int nr)])) _
          refine XS.istore X9.here hx rfl (hb hby at_171) rfl (l' := #[.val (.int p1), .val (.int md), .val (.int pr), .val (.int nr), .val (.ref o), .val (.int (own_b false)), .val (.int nr), .unset]) rfl ?_
          show Steps p.tables e below (T9.setTop (mkF m 173 #[.val (.int p1), .val (.int md), .val (.int pr), .val (.int nr), .val (.ref o), .val (.int (own_b false)), .val (.int nr), .unset] [])) _
          refine XS.iconst X9.here hx rfl (hb hby at_173) ?_
          show Steps p.tables e below (T9.setTop (mkF m 174 #[.val (.int p1), .val (.int md), .val (.int pr), .val (.int nr), .val (.ref o), .val (.int (own_b false)), .val (.int nr), .unset] [(.int (2 : Int32))])) _
          refine XS.istore X9.here hx rfl (hb hby at_174) rfl (l' := #[.val (.int p1), .val (.int md), .val (.int pr), .val (.int nr), .val (.ref o), .val (.int (own_b false)), .val (.int nr), .val (.int (2 : Int32))]) rfl ?_
          show Steps p.tables e below (T9.setTop (mkF m 176 #[.val (.int p1), .val (.int md), .val (.int pr), .val (.int nr), .val (.ref o), .val (.int (own_b false)), .val (.int nr), .val (.int (2 : Int32))] [])) _
          refine XS.aload X9.here hx rfl (hb hby at_176) rfl rfl ?_
          show Steps p.tables e below (T9.setTop (mkF m 178 #[.val (.int p1), .val (.int md), .val (.int pr), .val (.int nr), .val (.ref o), .val (.int (own_b false)), .val (.int nr), .val (.int (2 : Int32))] [(.ref o)])) _
          refine st10.trans ?_
          show Steps p.tables e below (T10.setTop (mkF m 181 #[.val (.int p1), .val (.int md), .val (.int pr), .val (.int nr), .val (.ref o), .val (.int (own_b false)), .val (.int nr), .val (.int (2 : Int32))] [])) _
          refine XS.iload X10.here hx rfl (hb hby at_181) rfl ?_
          show Steps p.tables e below (T10.setTop (mkF m 183 #[.val (.int p1), .val (.int md), .val (.int pr), .val (.int nr), .val (.ref o), .val (.int (own_b false)), .val (.int nr), .val (.int (2 : Int32))] [(.int (own_b false))])) _
          refine XS.iload X10.here hx rfl (hb hby at_183) rfl ?_
          show Steps p.tables e below (T10.setTop (mkF m 185 #[.val (.int p1), .val (.int md), .val (.int pr), .val (.int nr), .val (.ref o), .val (.int (own_b false)), .val (.int nr), .val (.int (2 : Int32))] [(.int nr), (.int (own_b false))])) _
          refine XS.icmpNo X10.here hx rfl (hb hby at_185) rfl (teq hq.symm).2 ?_
          show Steps p.tables e below (T10.setTop (mkF m 188 #[.val (.int p1), .val (.int md), .val (.int pr), .val (.int nr), .val (.ref o), .val (.int (own_b false)), .val (.int nr), .val (.int (2 : Int32))] [])) _
          refine XS.aload X10.here hx rfl (hb hby at_188) rfl rfl ?_
          show Steps p.tables e below (T10.setTop (mkF m 190 #[.val (.int p1), .val (.int md), .val (.int pr), .val (.int nr), .val (.ref o), .val (.int (own_b false)), .val (.int nr), .val (.int (2 : Int32))] [(.ref o)])) _
          refine st11.trans ?_
          show Steps p.tables e below (T11.setTop (mkF m 193 #[.val (.int p1), .val (.int md), .val (.int pr), .val (.int nr), .val (.ref o), .val (.int (own_b false)), .val (.int nr), .val (.int (2 : Int32))] [(.int (((0 : Int32) + 1) + 1))])) _
          refine XS.iload X11.here hx rfl (hb hby at_193) rfl ?_
          show Steps p.tables e below (T11.setTop (mkF m 195 #[.val (.int p1), .val (.int md), .val (.int pr), .val (.int nr), .val (.ref o), .val (.int (own_b false)), .val (.int nr), .val (.int (2 : Int32))] [(.int (2 : Int32)), (.int (((0 : Int32) + 1) + 1))])) _
          refine XS.icmpNo X11.here hx rfl (hb hby at_195) rfl (teq (by decide)).2 ?_
          show Steps p.tables e below (T11.setTop (mkF m 198 #[.val (.int p1), .val (.int md), .val (.int pr), .val (.int nr), .val (.ref o), .val (.int (own_b false)), .val (.int nr), .val (.int (2 : Int32))] [])) _
          refine XS.iconst X11.here hx rfl (hb hby at_198) ?_
          show Steps p.tables e below (T11.setTop (mkF m 199 #[.val (.int p1), .val (.int md), .val (.int pr), .val (.int nr), .val (.ref o), .val (.int (own_b false)), .val (.int nr), .val (.int (2 : Int32))] [(.int (1 : Int32))])) _
          refine XS.goto X11.here hx rfl (pc0 := 199) (pc' := 203) rfl (hb hby at_199) (by decide) (by decide) ?_
          show Steps p.tables e below (T11.setTop (mkF m 203 #[.val (.int p1), .val (.int md), .val (.int pr), .val (.int nr), .val (.ref o), .val (.int (own_b false)), .val (.int nr), .val (.int (2 : Int32))] [(.int (1 : Int32))])) _
          exact retN X11 hx (t := .boolean) Bd.returns (by simp) (hb hby at_203) hr
        · show Q_law Z p1 h0 n0 _ T11.heap _
          rw [e11]
          exact ⟨rfl, N11⟩
      · obtain ⟨cq12, kq12, q12a, q12b, q12c⟩ := isOf hZ rfl (D_5.1)
        obtain ⟨_, _, ⟨T12, L12, k12, n12⟩, -, X12, ⟨Lc12, hQ12, l12, y12, z12⟩, st12⟩ := X8.virtualBack hx (y := (⟨"com/example/gabarit/gabarit/shacl/DescriptionOrder", "property", "()Z"⟩ : MethodName)) (z := (⟨"com/example/gabarit/gabarit/shacl/DescriptionOrder", "property", "()Z"⟩ : MethodName)) hown (mvT hZ (hw _ (List.mem_of_getElem? (i := 69) rfl))) (mvT hZ (hw _ (List.mem_of_getElem? (i := 70) rfl))) (notFace_of_selects (args := #[]) (mvT hZ (hw _ (List.mem_of_getElem? (i := 72) rfl)))) (mvT hZ (hw _ (List.mem_of_getElem? (i := 72) rfl))) (mvT hZ (hw _ (List.mem_of_getElem? (i := 71) rfl))) (by decide) (backOf (W := 0) (rm_prop l Z a0 hw [] o q el k bD_5 false [(f0, false, true)] (((0 : Int32) + 1) + 1) T8.heap n0 sz8 D_5 (by simp)) hZ (hw _ (List.mem_of_getElem? (i := 73) rfl)) (hw _ (List.mem_of_getElem? (i := 2) rfl)) (by decide) (by decide)) q12a q12c (g := (mkF m 116 #[.val (.int p1), .val (.int md), .val (.int pr), .val (.int nr), .val (.ref o), .unset, .unset, .unset] [(.ref o)])) rfl (by rw [hml]; rfl) (Steps.refl _) (argsL := []) (rest := []) (lenOf own_pd5 rfl) rfl (by show 2 * 0 + _ ≤ _; exact Nat.le_of_eq rfl) (hb hby at_116) (fun _ _ => ⟨rfl, rfl, (by decide : 5 + 0 ≤ _), (by decide : 27 + 0 ≤ _)⟩)
        dsimp only [Pt.U, Pt.locs, Pt.cells, Pt.slots] at X12 l12 y12 z12 st12 hQ12
        rw [l12, y12, z12] at X12
        obtain ⟨rfl, Nq12, z12, D_8⟩ := hQ12
        have sz12 : n0 ≤ T12.heap.size := Nat.le_trans sz8 z12
        have N12 := Fr.app N8 Nq12
        obtain ⟨cq13, kq13, q13a, q13b, q13c⟩ := isOf hZ rfl (D_8.1)
        obtain ⟨_, _, ⟨T13, L13, k13, n13⟩, -, X13, ⟨Lc13, hQ13, l13, y13, z13⟩, st13⟩ := X12.virtualBack hx (y := (⟨"com/example/gabarit/gabarit/shacl/DescriptionOrder", "value", "()V"⟩ : MethodName)) (z := (⟨"com/example/gabarit/gabarit/shacl/DescriptionOrder", "value", "()V"⟩ : MethodName)) hown (mvT hZ (hw _ (List.mem_of_getElem? (i := 98) rfl))) (mvT hZ (hw _ (List.mem_of_getElem? (i := 99) rfl))) (notFace_of_selects (args := #[]) (mvT hZ (hw _ (List.mem_of_getElem? (i := 101) rfl)))) (mvT hZ (hw _ (List.mem_of_getElem? (i := 101) rfl))) (mvT hZ (hw _ (List.mem_of_getElem? (i := 100) rfl))) (by decide) (backOf (W := 0) (rm_val l Z a0 hw [] o q el k bD_5 false true [(f0, false, true)] true (((0 : Int32) + 1) + 1) T12.heap n0 sz12 D_8 (by simp) (by simp)) hZ (hw _ (List.mem_of_getElem? (i := 102) rfl)) (hw _ (List.mem_of_getElem? (i := 2) rfl)) (by decide) (by decide)) q13a q13c (g := (mkF m 122 #[.val (.int p1), .val (.int md), .val (.int pr), .val (.int nr), .val (.ref o), .unset, .unset, .unset] [(.ref o)])) rfl (by rw [hml]; rfl) (Steps.refl _) (argsL := []) (rest := []) (lenOf own_pd0 rfl) rfl (by show 2 * 0 + _ ≤ _; exact Nat.le_of_eq rfl) (hb hby at_122) (fun _ _ => ⟨rfl, rfl, (by decide : 5 + 0 ≤ _), (by decide : 27 + 0 ≤ _)⟩)
        dsimp only [Pt.U, Pt.locs, Pt.cells, Pt.slots] at X13 l13 y13 z13 st13 hQ13
        rw [l13, y13, z13] at X13
        obtain ⟨rfl, Nq13, z13, D_9⟩ := hQ13
        have sz13 : n0 ≤ T13.heap.size := Nat.le_trans sz12 z13
        have N13 := Fr.app N12 Nq13
        obtain ⟨cq14, kq14, q14a, q14b, q14c⟩ := isOf hZ rfl (D_9.1)
        obtain ⟨_, _, ⟨T14, L14, k14, n14⟩, -, X14, ⟨Lc14, hQ14, l14, y14, z14⟩, st14⟩ := X13.virtualBack hx (y := (⟨"com/example/gabarit/gabarit/shacl/DescriptionOrder", "property", "()Z"⟩ : MethodName)) (z := (⟨"com/example/gabarit/gabarit/shacl/DescriptionOrder", "property", "()Z"⟩ : MethodName)) hown (mvT hZ (hw _ (List.mem_of_getElem? (i := 69) rfl))) (mvT hZ (hw _ (List.mem_of_getElem? (i := 70) rfl))) (notFace_of_selects (args := #[]) (mvT hZ (hw _ (List.mem_of_getElem? (i := 72) rfl)))) (mvT hZ (hw _ (List.mem_of_getElem? (i := 72) rfl))) (mvT hZ (hw _ (List.mem_of_getElem? (i := 71) rfl))) (by decide) (backOf (W := 0) (rm_prop l Z a0 hw [] o q el k bD_5 true [(f0, false, true)] (((0 : Int32) + 1) + 1) T13.heap n0 sz13 D_9 (by simp)) hZ (hw _ (List.mem_of_getElem? (i := 73) rfl)) (hw _ (List.mem_of_getElem? (i := 2) rfl)) (by decide) (by decide)) q14a q14c (g := (mkF m 138 #[.val (.int p1), .val (.int md), .val (.int pr), .val (.int nr), .val (.ref o), .unset, .unset, .unset] [(.ref o)])) rfl (by rw [hml]; rfl) (Steps.refl _) (argsL := []) (rest := []) (lenOf own_pd5 rfl) rfl (by show 2 * 0 + _ ≤ _; exact Nat.le_of_eq rfl) (hb hby at_138) (fun _ _ => ⟨rfl, rfl, (by decide : 5 + 0 ≤ _), (by decide : 27 + 0 ≤ _)⟩)
        dsimp only [Pt.U, Pt.locs, Pt.cells, Pt.slots] at X14 l14 y14 z14 st14 hQ14
        rw [l14, y14, z14] at X14
        obtain ⟨rfl, Nq14, z14, D_10⟩ := hQ14
        have sz14 : n0 ≤ T14.heap.size := Nat.le_trans sz13 z14
        have N14 := Fr.app N13 Nq14
        obtain ⟨cq15, kq15, q15a, q15b, q15c⟩ := isOf hZ rfl (D_10.1)
        obtain ⟨_, _, ⟨T15, L15, k15, n15⟩, -, X15, ⟨Lc15, hQ15, l15, y15, z15⟩, st15⟩ := X14.virtualBack hx (y := (⟨"com/example/gabarit/gabarit/shacl/DescriptionOrder", "value", "()V"⟩ : MethodName)) (z := (⟨"com/example/gabarit/gabarit/shacl/DescriptionOrder", "value", "()V"⟩ : MethodName)) hown (mvT hZ (hw _ (List.mem_of_getElem? (i := 98) rfl))) (mvT hZ (hw _ (List.mem_of_getElem? (i := 99) rfl))) (notFace_of_selects (args := #[]) (mvT hZ (hw _ (List.mem_of_getElem? (i := 101) rfl)))) (mvT hZ (hw _ (List.mem_of_getElem? (i := 101) rfl))) (mvT hZ (hw _ (List.mem_of_getElem? (i := 100) rfl))) (by decide) (backOf (W := 0) (rm_val l Z a0 hw [] o q el k bD_5 false true [(f0, false, true)] true (((0 : Int32) + 1) + 1) T14.heap n0 sz14 D_10 (by simp) (by simp)) hZ (hw _ (List.mem_of_getElem? (i := 102) rfl)) (hw _ (List.mem_of_getElem? (i := 2) rfl)) (by decide) (by decide)) q15a q15c (g := (mkF m 178 #[.val (.int p1), .val (.int md), .val (.int pr), .val (.int nr), .val (.ref o), .val (.int (own_b true)), .val (.int nr), .val (.int (2 : Int32))] [(.ref o)])) rfl (by rw [hml]; rfl) (Steps.refl _) (argsL := []) (rest := []) (lenOf own_pd0 rfl) rfl (by show 2 * 0 + _ ≤ _; exact Nat.le_of_eq rfl) (hb hby at_178) (fun _ _ => ⟨rfl, rfl, (by decide : 5 + 0 ≤ _), (by decide : 27 + 0 ≤ _)⟩)
        dsimp only [Pt.U, Pt.locs, Pt.cells, Pt.slots] at X15 l15 y15 z15 st15 hQ15
        rw [l15, y15, z15] at X15
        obtain ⟨rfl, Nq15, z15, D_11⟩ := hQ15
        have sz15 : n0 ≤ T15.heap.size := Nat.le_trans sz14 z15
        have N15 := Fr.app N14 Nq15
        obtain ⟨cq16, kq16, q16a, q16b, q16c⟩ := isOf hZ rfl (D_11.1)
        obtain ⟨_, _, ⟨T16, L16, k16, n16⟩, -, X16, ⟨Lc16, hQ16, l16, y16, z16⟩, st16⟩ := X15.virtualBack hx (y := (⟨"com/example/gabarit/gabarit/shacl/DescriptionOrder", "blankNodesOpen", "()I"⟩ : MethodName)) (z := (⟨"com/example/gabarit/gabarit/shacl/DescriptionOrder", "blankNodesOpen", "()I"⟩ : MethodName)) hown (mvT hZ (hw _ (List.mem_of_getElem? (i := 103) rfl))) (mvT hZ (hw _ (List.mem_of_getElem? (i := 104) rfl))) (notFace_of_selects (args := #[]) (mvT hZ (hw _ (List.mem_of_getElem? (i := 106) rfl)))) (mvT hZ (hw _ (List.mem_of_getElem? (i := 106) rfl))) (mvT hZ (hw _ (List.mem_of_getElem? (i := 105) rfl))) (by decide) (backOf (W := 0) (rm_bno l Z a0 hw [] o (((0 : Int32) + 1) + 1) T15.heap n0 sz15 D_11.2.2.2.1) hZ (hw _ (List.mem_of_getElem? (i := 107) rfl)) (hw _ (List.mem_of_getElem? (i := 2) rfl)) (by decide) (by decide)) q16a q16c (g := (mkF m 190 #[.val (.int p1), .val (.int md), .val (.int pr), .val (.int nr), .val (.ref o), .val (.int (own_b true)), .val (.int nr), .val (.int (2 : Int32))] [(.ref o)])) rfl (by rw [hml]; rfl) (Steps.refl _) (argsL := []) (rest := []) (lenOf own_pd8 rfl) rfl (by show 2 * 0 + _ ≤ _; exact Nat.le_of_eq rfl) (hb hby at_190) (fun _ _ => ⟨rfl, rfl, (by decide : 5 + 0 ≤ _), (by decide : 27 + 0 ≤ _)⟩)
        dsimp only [Pt.U, Pt.locs, Pt.cells, Pt.slots] at X16 l16 y16 z16 st16 hQ16
        rw [l16, y16, z16] at X16
        obtain ⟨rfl, Nq16, e16⟩ := hQ16
        have N16 := Fr.app N15 Nq16
        obtain ⟨fs, hr, hrun, hended, hW, hsame⟩ := X16.leave (v := some (.int (1 : Int32))) (fun h => by rw [Bd.returns] at h; cases h)
        refine ⟨_, _, pre0 _ ?_, hrun, hended, _, _, rfl, ?_, ⟨_, rfl⟩, hW, hsame.mono (by decide) (by decide)⟩
        · show Steps p.tables e below (s₁.setTop (mkF m 0 #[.val (.int p1), .unset, .unset, .unset, .unset, .unset, .unset, .unset] [])) _
          refine pM1 _ ?_
          show Steps p.tables e below (T8.setTop (mkF m 111 #[.val (.int p1), .val (.int md), .val (.int pr), .val (.int nr), .val (.ref o), .unset, .unset, .unset] [(.int nr)])) _
          refine XS.ifNo X8.here hx rfl (hb hby at_111) rfl ((if0 _ _).trans (feq (by rw [hq]; decide)).1) ?_
          show Steps p.tables e below (T8.setTop (mkF m 114 #[.val (.int p1), .val (.int md), .val (.int pr), .val (.int nr), .val (.ref o), .unset, .unset, .unset] [])) _
          refine XS.aload X8.here hx rfl (hb hby at_114) rfl rfl ?_
          show Steps p.tables e below (T8.setTop (mkF m 116 #[.val (.int p1), .val (.int md), .val (.int pr), .val (.int nr), .val (.ref o), .unset, .unset, .unset] [(.ref o)])) _
          refine st12.trans ?_
          show Steps p.tables e below (T12.setTop (mkF m 119 #[.val (.int p1), .val (.int md), .val (.int pr), .val (.int nr), .val (.ref o), .unset, .unset, .unset] [(.int (own_b false))])) _
          refine XS.pop X12.here hx rfl (hb hby at_119) rfl rfl ?_
          show Steps p.tables e below (T12.setTop (mkF m 120 #[.val (.int p1), .val (.int md), .val (.int pr), .val (.int nr), .val (.ref o), .unset, .unset, .unset] [])) _
          refine XS.aload X12.here hx rfl (hb hby at_120) rfl rfl ?_
          show Steps p.tables e below (T12.setTop (mkF m 122 #[.val (.int p1), .val (.int md), .val (.int pr), .val (.int nr), .val (.ref o), .unset, .unset, .unset] [(.ref o)])) _
          refine st13.trans ?_
          show Steps p.tables e below (T13.setTop (mkF m 125 #[.val (.int p1), .val (.int md), .val (.int pr), .val (.int nr), .val (.ref o), .unset, .unset, .unset] [])) _
          refine XS.iloadN X13.here hx rfl (hb hby at_125) rfl ?_
          show Steps p.tables e below (T13.setTop (mkF m 126 #[.val (.int p1), .val (.int md), .val (.int pr), .val (.int nr), .val (.ref o), .unset, .unset, .unset] [(.int md)])) _
          refine XS.iconst X13.here hx rfl (hb hby at_126) ?_
          show Steps p.tables e below (T13.setTop (mkF m 127 #[.val (.int p1), .val (.int md), .val (.int pr), .val (.int nr), .val (.ref o), .unset, .unset, .unset] [(.int (3 : Int32)), (.int md)])) _
          refine XS.icmpYes X13.here hx rfl (pc0 := 127) (pc' := 136) rfl (hb hby at_127) rfl (feq (by rw [hm1]; decide)).2 (by decide) (by decide) ?_
          show Steps p.tables e below (T13.setTop (mkF m 136 #[.val (.int p1), .val (.int md), .val (.int pr), .val (.int nr), .val (.ref o), .unset, .unset, .unset] [])) _
          refine XS.aload X13.here hx rfl (hb hby at_136) rfl rfl ?_
          show Steps p.tables e below (T13.setTop (mkF m 138 #[.val (.int p1), .val (.int md), .val (.int pr), .val (.int nr), .val (.ref o), .unset, .unset, .unset] [(.ref o)])) _
          refine st14.trans ?_
          show Steps p.tables e below (T14.setTop (mkF m 141 #[.val (.int p1), .val (.int md), .val (.int pr), .val (.int nr), .val (.ref o), .unset, .unset, .unset] [(.int (own_b true))])) _
          refine XS.istore X14.here hx rfl (hb hby at_141) rfl (l' := #[.val (.int p1), .val (.int md), .val (.int pr), .val (.int nr), .val (.ref o), .val (.int (own_b true)), .unset, .unset]) rfl ?_
          show Steps p.tables e below (T14.setTop (mkF m 143 #[.val (.int p1), .val (.int md), .val (.int pr), .val (.int nr), .val (.ref o), .val (.int (own_b true)), .unset, .unset] [])) _
          refine XS.iloadN X14.here hx rfl (hb hby at_143) rfl ?_
          show Steps p.tables e below (T14.setTop (mkF m 144 #[.val (.int p1), .val (.int md), .val (.int pr), .val (.int nr), .val (.ref o), .val (.int (own_b true)), .unset, .unset] [(.int md)])) _
          refine XS.ifYes X14.here hx rfl (pc0 := 144) (pc' := 156) rfl (hb hby at_144) rfl ((if0 _ _).trans (feq (by rw [hm1]; decide)).2) (by decide) (by decide) ?_
          show Steps p.tables e below (T14.setTop (mkF m 156 #[.val (.int p1), .val (.int md), .val (.int pr), .val (.int nr), .val (.ref o), .val (.int (own_b true)), .unset, .unset] [])) _
          refine XS.iloadN X14.here hx rfl (hb hby at_156) rfl ?_
          show Steps p.tables e below (T14.setTop (mkF m 157 #[.val (.int p1), .val (.int md), .val (.int pr), .val (.int nr), .val (.ref o), .val (.int (own_b true)), .unset, .unset] [(.int md)])) _
          refine XS.iconst X14.here hx rfl (hb hby at_157) ?_
          show Steps p.tables e below (T14.setTop (mkF m 158 #[.val (.int p1), .val (.int md), .val (.int pr), .val (.int nr), .val (.ref o), .val (.int (own_b true)), .unset, .unset] [(.int (3 : Int32)), (.int md)])) _
          refine XS.icmpYes X14.here hx rfl (pc0 := 158) (pc' := 170) rfl (hb hby at_158) rfl (feq (by rw [hm1]; decide)).2 (by decide) (by decide) ?_
          show Steps p.tables e below (T14.setTop (mkF m 170 #[.val (.int p1), .val (.int md), .val (.int pr), .val (.int nr), .val (.ref o), .val (.int (own_b true)), .unset, .unset] [])) _
          refine XS.iloadN X14.here hx rfl (hb hby at_170) rfl ?_
          show Steps p.tables e below (T14.setTop (mkF m 171 #[.val (.int p1), .val (.int md), .val (.int pr), .val (.int nr), .val (.ref o), .val (.int (own_b true)), .unset, .unset] [(.int nr)])) _
          refine XS.istore X14.here hx rfl (hb hby at_171) rfl (l' := #[.val (.int p1), .val (.int md), .val (.int pr), .val (.int nr), .val (.ref o), .val (.int (own_b true)), .val (.int nr), .unset]) rfl ?_
          show Steps p.tables e below (T14.setTop (mkF m 173 #[.val (.int p1), .val (.int md), .val (.int pr), .val (.int nr), .val (.ref o), .val (.int (own_b true)), .val (.int nr), .unset] [])) _
          refine XS.iconst X14.here hx rfl (hb hby at_173) ?_
          show Steps p.tables e below (T14.setTop (mkF m 174 #[.val (.int p1), .val (.int md), .val (.int pr), .val (.int nr), .val (.ref o), .val (.int (own_b true)), .val (.int nr), .unset] [(.int (2 : Int32))])) _
          refine XS.istore X14.here hx rfl (hb hby at_174) rfl (l' := #[.val (.int p1), .val (.int md), .val (.int pr), .val (.int nr), .val (.ref o), .val (.int (own_b true)), .val (.int nr), .val (.int (2 : Int32))]) rfl ?_
          show Steps p.tables e below (T14.setTop (mkF m 176 #[.val (.int p1), .val (.int md), .val (.int pr), .val (.int nr), .val (.ref o), .val (.int (own_b true)), .val (.int nr), .val (.int (2 : Int32))] [])) _
          refine XS.aload X14.here hx rfl (hb hby at_176) rfl rfl ?_
          show Steps p.tables e below (T14.setTop (mkF m 178 #[.val (.int p1), .val (.int md), .val (.int pr), .val (.int nr), .val (.ref o), .val (.int (own_b true)), .val (.int nr), .val (.int (2 : Int32))] [(.ref o)])) _
          refine st15.trans ?_
          show Steps p.tables e below (T15.setTop (mkF m 181 #[.val (.int p1), .val (.int md), .val (.int pr), .val (.int nr), .val (.ref o), .val (.int (own_b true)), .val (.int nr), .val (.int (2 : Int32))] [])) _
          refine XS.iload X15.here hx rfl (hb hby at_181) rfl ?_
          show Steps p.tables e below (T15.setTop (mkF m 183 #[.val (.int p1), .val (.int md), .val (.int pr), .val (.int nr), .val (.ref o), .val (.int (own_b true)), .val (.int nr), .val (.int (2 : Int32))] [(.int (own_b true))])) _
          refine XS.iload X15.here hx rfl (hb hby at_183) rfl ?_
          show Steps p.tables e below (T15.setTop (mkF m 185 #[.val (.int p1), .val (.int md), .val (.int pr), .val (.int nr), .val (.ref o), .val (.int (own_b true)), .val (.int nr), .val (.int (2 : Int32))] [(.int nr), (.int (own_b true))])) _
          refine XS.icmpNo X15.here hx rfl (hb hby at_185) rfl (teq hq.symm).2 ?_
          show Steps p.tables e below (T15.setTop (mkF m 188 #[.val (.int p1), .val (.int md), .val (.int pr), .val (.int nr), .val (.ref o), .val (.int (own_b true)), .val (.int nr), .val (.int (2 : Int32))] [])) _
          refine XS.aload X15.here hx rfl (hb hby at_188) rfl rfl ?_
          show Steps p.tables e below (T15.setTop (mkF m 190 #[.val (.int p1), .val (.int md), .val (.int pr), .val (.int nr), .val (.ref o), .val (.int (own_b true)), .val (.int nr), .val (.int (2 : Int32))] [(.ref o)])) _
          refine st16.trans ?_
          show Steps p.tables e below (T16.setTop (mkF m 193 #[.val (.int p1), .val (.int md), .val (.int pr), .val (.int nr), .val (.ref o), .val (.int (own_b true)), .val (.int nr), .val (.int (2 : Int32))] [(.int (((0 : Int32) + 1) + 1))])) _
          refine XS.iload X16.here hx rfl (hb hby at_193) rfl ?_
          show Steps p.tables e below (T16.setTop (mkF m 195 #[.val (.int p1), .val (.int md), .val (.int pr), .val (.int nr), .val (.ref o), .val (.int (own_b true)), .val (.int nr), .val (.int (2 : Int32))] [(.int (2 : Int32)), (.int (((0 : Int32) + 1) + 1))])) _
          refine XS.icmpNo X16.here hx rfl (hb hby at_195) rfl (teq (by decide)).2 ?_
          show Steps p.tables e below (T16.setTop (mkF m 198 #[.val (.int p1), .val (.int md), .val (.int pr), .val (.int nr), .val (.ref o), .val (.int (own_b true)), .val (.int nr), .val (.int (2 : Int32))] [])) _
          refine XS.iconst X16.here hx rfl (hb hby at_198) ?_
          show Steps p.tables e below (T16.setTop (mkF m 199 #[.val (.int p1), .val (.int md), .val (.int pr), .val (.int nr), .val (.ref o), .val (.int (own_b true)), .val (.int nr), .val (.int (2 : Int32))] [(.int (1 : Int32))])) _
          refine XS.goto X16.here hx rfl (pc0 := 199) (pc' := 203) rfl (hb hby at_199) (by decide) (by decide) ?_
          show Steps p.tables e below (T16.setTop (mkF m 203 #[.val (.int p1), .val (.int md), .val (.int pr), .val (.int nr), .val (.ref o), .val (.int (own_b true)), .val (.int nr), .val (.int (2 : Int32))] [(.int (1 : Int32))])) _
          exact retN X16 hx (t := .boolean) Bd.returns (by simp) (hb hby at_203) hr
        · show Q_law Z p1 h0 n0 _ T16.heap _
          rw [e16]
          exact ⟨rfl, N16⟩
    · obtain ⟨cq17, kq17, q17a, q17b, q17c⟩ := isOf hZ rfl (D_1.1)
      obtain ⟨_, _, ⟨T17, L17, k17, n17⟩, -, X17, ⟨Lc17, hQ17, l17, y17, z17⟩, st17⟩ := X3.virtualBack hx (y := (⟨"com/example/gabarit/gabarit/shacl/DescriptionOrder", "property", "()Z"⟩ : MethodName)) (z := (⟨"com/example/gabarit/gabarit/shacl/DescriptionOrder", "property", "()Z"⟩ : MethodName)) hown (mvT hZ (hw _ (List.mem_of_getElem? (i := 69) rfl))) (mvT hZ (hw _ (List.mem_of_getElem? (i := 70) rfl))) (notFace_of_selects (args := #[]) (mvT hZ (hw _ (List.mem_of_getElem? (i := 72) rfl)))) (mvT hZ (hw _ (List.mem_of_getElem? (i := 72) rfl))) (mvT hZ (hw _ (List.mem_of_getElem? (i := 71) rfl))) (by decide) (backOf (W := 0) (rm_prop l Z a0 hw [] o q el k f0 false [] ((0 : Int32) + 1) T3.heap n0 sz3 D_1 (by simp)) hZ (hw _ (List.mem_of_getElem? (i := 73) rfl)) (hw _ (List.mem_of_getElem? (i := 2) rfl)) (by decide) (by decide)) q17a q17c (g := (mkF m 91 #[.val (.int p1), .val (.int md), .val (.int pr), .val (.int nr), .val (.ref o), .unset, .unset, .unset] [(.ref o)])) rfl (by rw [hml]; rfl) (Steps.refl _) (argsL := []) (rest := []) (lenOf own_pd5 rfl) rfl (by show 2 * 0 + _ ≤ _; exact Nat.le_of_eq rfl) (hb hby at_91) (fun _ _ => ⟨rfl, rfl, (by decide : 4 + 0 ≤ _), (by decide : 25 + 0 ≤ _)⟩)
      dsimp only [Pt.U, Pt.locs, Pt.cells, Pt.slots] at X17 l17 y17 z17 st17 hQ17
      rw [l17, y17, z17] at X17
      obtain ⟨rfl, Nq17, z17, D_12⟩ := hQ17
      have sz17 : n0 ≤ T17.heap.size := Nat.le_trans sz3 z17
      have N17 := Fr.app N3 Nq17
      obtain ⟨cq18, kq18, q18a, q18b, q18c⟩ := isOf hZ rfl (D_12.1)
      obtain ⟨_, _, ⟨T18, L18, k18, n18⟩, -, X18, ⟨Lc18, hQ18, l18, y18, z18⟩, st18⟩ := X17.virtualBack hx (y := (⟨"com/example/gabarit/gabarit/shacl/DescriptionOrder", "beginList", "()V"⟩ : MethodName)) (z := (⟨"com/example/gabarit/gabarit/shacl/DescriptionOrder", "beginList", "()V"⟩ : MethodName)) hown (mvT hZ (hw _ (List.mem_of_getElem? (i := 127) rfl))) (mvT hZ (hw _ (List.mem_of_getElem? (i := 128) rfl))) (notFace_of_selects (args := #[]) (mvT hZ (hw _ (List.mem_of_getElem? (i := 130) rfl)))) (mvT hZ (hw _ (List.mem_of_getElem? (i := 130) rfl))) (mvT hZ (hw _ (List.mem_of_getElem? (i := 129) rfl))) (by decide) (backOf (W := 0) (rm_bl l Z a0 hw [] o q el k f0 false true [] true ((0 : Int32) + 1) T17.heap n0 sz17 D_12 (by simp) (by simp)) hZ (hw _ (List.mem_of_getElem? (i := 131) rfl)) (hw _ (List.mem_of_getElem? (i := 2) rfl)) (by decide) (by decide)) q18a q18c (g := (mkF m 97 #[.val (.int p1), .val (.int md), .val (.int pr), .val (.int nr), .val (.ref o), .unset, .unset, .unset] [(.ref o)])) rfl (by rw [hml]; rfl) (Steps.refl _) (argsL := []) (rest := []) (lenOf own_pd0 rfl) rfl (by show 2 * 0 + _ ≤ _; exact Nat.le_of_eq rfl) (hb hby at_97) (fun _ _ => ⟨rfl, rfl, (by decide : 4 + 1 ≤ _), (by decide : 25 + 2 ≤ _)⟩)
      dsimp only [Pt.U, Pt.locs, Pt.cells, Pt.slots] at X18 l18 y18 z18 st18 hQ18
      rw [l18, y18, z18] at X18
      obtain ⟨rfl, Nq18, z18, bD_13, D_13⟩ := hQ18
      have sz18 : n0 ≤ T18.heap.size := Nat.le_trans sz17 z18
      have N18 := Fr.app N17 Nq18
      obtain ⟨cq19, kq19, q19a, q19b, q19c⟩ := isOf hZ rfl (D_13.1)
      obtain ⟨_, _, ⟨T19, L19, k19, n19⟩, -, X19, ⟨Lc19, hQ19, l19, y19, z19⟩, st19⟩ := X18.virtualBack hx (y := (⟨"com/example/gabarit/gabarit/shacl/DescriptionOrder", "beginBlankNode", "()Z"⟩ : MethodName)) (z := (⟨"com/example/gabarit/gabarit/shacl/DescriptionOrder", "beginBlankNode", "()Z"⟩ : MethodName)) hown (mvT hZ (hw _ (List.mem_of_getElem? (i := 28) rfl))) (mvT hZ (hw _ (List.mem_of_getElem? (i := 29) rfl))) (notFace_of_selects (args := #[]) (mvT hZ (hw _ (List.mem_of_getElem? (i := 31) rfl)))) (mvT hZ (hw _ (List.mem_of_getElem? (i := 31) rfl))) (mvT hZ (hw _ (List.mem_of_getElem? (i := 30) rfl))) (by decide) (backOf (W := 0) (rm_bbN l Z a0 hw [] o q el k bD_13 true false [(f0, false, true)] false ((0 : Int32) + 1) T18.heap n0 sz18 D_13 (by simp) (by simp)) hZ (hw _ (List.mem_of_getElem? (i := 32) rfl)) (hw _ (List.mem_of_getElem? (i := 2) rfl)) (by decide) (by decide)) q19a q19c (g := (mkF m 102 #[.val (.int p1), .val (.int md), .val (.int pr), .val (.int nr), .val (.ref o), .unset, .unset, .unset] [(.ref o)])) rfl (by rw [hml]; rfl) (Steps.refl _) (argsL := []) (rest := []) (lenOf own_pd5 rfl) rfl (by show 2 * 0 + _ ≤ _; exact Nat.le_of_eq rfl) (hb hby at_102) (fun _ _ => ⟨rfl, rfl, (by decide : 5 + 1 ≤ _), (by decide : 27 + 2 ≤ _)⟩)
      dsimp only [Pt.U, Pt.locs, Pt.cells, Pt.slots] at X19 l19 y19 z19 st19 hQ19
      rw [l19, y19, z19] at X19
      obtain ⟨⟨xD_14, rfl⟩, Nq19, z19, bD_14, D_14⟩ := hQ19
      have sz19 : n0 ≤ T19.heap.size := Nat.le_trans sz18 z19
      have N19 := Fr.app N18 Nq19
      have pM2 : ∀ tt, Steps p.tables e below (T19.setTop (mkF m 111 #[.val (.int p1), .val (.int md), .val (.int pr), .val (.int nr), .val (.ref o), .unset, .unset, .unset] [(.int nr)])) tt → Steps p.tables e below (s₁.setTop (mkF m 0 #[.val (.int p1), .unset, .unset, .unset, .unset, .unset, .unset, .unset] [])) tt := by
        intro tt kt
        show Steps p.tables e below (s₁.setTop (mkF m 0 #[.val (.int p1), .unset, .unset, .unset, .unset, .unset, .unset, .unset] [])) _
        refine pA _ ?_
        show Steps p.tables e below (T3.setTop (mkF m 48 #[.val (.int p1), .val (.int md), .val (.int pr), .val (.int nr), .val (.ref o), .unset, .unset, .unset] [(.int pr)])) _
        refine XS.ifYes X3.here hx rfl (pc0 := 48) (pc' := 62) rfl (hb hby at_48) rfl ((if0 _ _).trans (teq hp).1) (by decide) (by decide) ?_
        show Steps p.tables e below (T3.setTop (mkF m 62 #[.val (.int p1), .val (.int md), .val (.int pr), .val (.int nr), .val (.ref o), .unset, .unset, .unset] [])) _
        refine XS.iloadN X3.here hx rfl (hb hby at_62) rfl ?_
        show Steps p.tables e below (T3.setTop (mkF m 63 #[.val (.int p1), .val (.int md), .val (.int pr), .val (.int nr), .val (.ref o), .unset, .unset, .unset] [(.int md)])) _
        refine XS.iconst X3.here hx rfl (hb hby at_63) ?_
        show Steps p.tables e below (T3.setTop (mkF m 64 #[.val (.int p1), .val (.int md), .val (.int pr), .val (.int nr), .val (.ref o), .unset, .unset, .unset] [(.int (1 : Int32)), (.int md)])) _
        refine XS.icmpNo X3.here hx rfl (hb hby at_64) rfl (feq (by rw [hm2]; decide)).1 ?_
        show Steps p.tables e below (T3.setTop (mkF m 67 #[.val (.int p1), .val (.int md), .val (.int pr), .val (.int nr), .val (.ref o), .unset, .unset, .unset] [])) _
        refine XS.iloadN X3.here hx rfl (hb hby at_67) rfl ?_
        show Steps p.tables e below (T3.setTop (mkF m 68 #[.val (.int p1), .val (.int md), .val (.int pr), .val (.int nr), .val (.ref o), .unset, .unset, .unset] [(.int md)])) _
        refine XS.iconst X3.here hx rfl (hb hby at_68) ?_
        show Steps p.tables e below (T3.setTop (mkF m 69 #[.val (.int p1), .val (.int md), .val (.int pr), .val (.int nr), .val (.ref o), .unset, .unset, .unset] [(.int (3 : Int32)), (.int md)])) _
        refine XS.icmpYes X3.here hx rfl (pc0 := 69) (pc' := 84) rfl (hb hby at_69) rfl (feq (by rw [hm2]; decide)).2 (by decide) (by decide) ?_
        show Steps p.tables e below (T3.setTop (mkF m 84 #[.val (.int p1), .val (.int md), .val (.int pr), .val (.int nr), .val (.ref o), .unset, .unset, .unset] [])) _
        refine XS.iloadN X3.here hx rfl (hb hby at_84) rfl ?_
        show Steps p.tables e below (T3.setTop (mkF m 85 #[.val (.int p1), .val (.int md), .val (.int pr), .val (.int nr), .val (.ref o), .unset, .unset, .unset] [(.int md)])) _
        refine XS.iconst X3.here hx rfl (hb hby at_85) ?_
        show Steps p.tables e below (T3.setTop (mkF m 86 #[.val (.int p1), .val (.int md), .val (.int pr), .val (.int nr), .val (.ref o), .unset, .unset, .unset] [(.int (2 : Int32)), (.int md)])) _
        refine XS.icmpNo X3.here hx rfl (hb hby at_86) rfl (teq hm2).2 ?_
        show Steps p.tables e below (T3.setTop (mkF m 89 #[.val (.int p1), .val (.int md), .val (.int pr), .val (.int nr), .val (.ref o), .unset, .unset, .unset] [])) _
        refine XS.aload X3.here hx rfl (hb hby at_89) rfl rfl ?_
        show Steps p.tables e below (T3.setTop (mkF m 91 #[.val (.int p1), .val (.int md), .val (.int pr), .val (.int nr), .val (.ref o), .unset, .unset, .unset] [(.ref o)])) _
        refine st17.trans ?_
        show Steps p.tables e below (T17.setTop (mkF m 94 #[.val (.int p1), .val (.int md), .val (.int pr), .val (.int nr), .val (.ref o), .unset, .unset, .unset] [(.int (own_b false))])) _
        refine XS.pop X17.here hx rfl (hb hby at_94) rfl rfl ?_
        show Steps p.tables e below (T17.setTop (mkF m 95 #[.val (.int p1), .val (.int md), .val (.int pr), .val (.int nr), .val (.ref o), .unset, .unset, .unset] [])) _
        refine XS.aload X17.here hx rfl (hb hby at_95) rfl rfl ?_
        show Steps p.tables e below (T17.setTop (mkF m 97 #[.val (.int p1), .val (.int md), .val (.int pr), .val (.int nr), .val (.ref o), .unset, .unset, .unset] [(.ref o)])) _
        refine st18.trans ?_
        show Steps p.tables e below (T18.setTop (mkF m 100 #[.val (.int p1), .val (.int md), .val (.int pr), .val (.int nr), .val (.ref o), .unset, .unset, .unset] [])) _
        refine XS.aload X18.here hx rfl (hb hby at_100) rfl rfl ?_
        show Steps p.tables e below (T18.setTop (mkF m 102 #[.val (.int p1), .val (.int md), .val (.int pr), .val (.int nr), .val (.ref o), .unset, .unset, .unset] [(.ref o)])) _
        refine st19.trans ?_
        show Steps p.tables e below (T19.setTop (mkF m 105 #[.val (.int p1), .val (.int md), .val (.int pr), .val (.int nr), .val (.ref o), .unset, .unset, .unset] [(.int xD_14)])) _
        refine XS.pop X19.here hx rfl (hb hby at_105) rfl rfl ?_
        show Steps p.tables e below (T19.setTop (mkF m 106 #[.val (.int p1), .val (.int md), .val (.int pr), .val (.int nr), .val (.ref o), .unset, .unset, .unset] [])) _
        refine XS.iloadN X19.here hx rfl (hb hby at_106) rfl ?_
        show Steps p.tables e below (T19.setTop (mkF m 107 #[.val (.int p1), .val (.int md), .val (.int pr), .val (.int nr), .val (.ref o), .unset, .unset, .unset] [(.int md)])) _
        refine XS.ifNo X19.here hx rfl (hb hby at_107) rfl ((if0 _ _).trans (feq (by rw [hm2]; decide)).1) ?_
        show Steps p.tables e below (T19.setTop (mkF m 110 #[.val (.int p1), .val (.int md), .val (.int pr), .val (.int nr), .val (.ref o), .unset, .unset, .unset] [])) _
        refine XS.iloadN X19.here hx rfl (hb hby at_110) rfl ?_
        exact kt
      rcases hnr with hq | hq
      · obtain ⟨cq20, kq20, q20a, q20b, q20c⟩ := isOf hZ rfl (D_14.1)
        obtain ⟨_, _, ⟨T20, L20, k20, n20⟩, -, X20, ⟨Lc20, hQ20, l20, y20, z20⟩, st20⟩ := X19.virtualBack hx (y := (⟨"com/example/gabarit/gabarit/shacl/DescriptionOrder", "property", "()Z"⟩ : MethodName)) (z := (⟨"com/example/gabarit/gabarit/shacl/DescriptionOrder", "property", "()Z"⟩ : MethodName)) hown (mvT hZ (hw _ (List.mem_of_getElem? (i := 69) rfl))) (mvT hZ (hw _ (List.mem_of_getElem? (i := 70) rfl))) (notFace_of_selects (args := #[]) (mvT hZ (hw _ (List.mem_of_getElem? (i := 72) rfl)))) (mvT hZ (hw _ (List.mem_of_getElem? (i := 72) rfl))) (mvT hZ (hw _ (List.mem_of_getElem? (i := 71) rfl))) (by decide) (backOf (W := 0) (rm_prop l Z a0 hw [] o q el k bD_14 false [(bD_13, true, true), (f0, false, true)] (((0 : Int32) + 1) + 1) T19.heap n0 sz19 D_14 (by simp)) hZ (hw _ (List.mem_of_getElem? (i := 73) rfl)) (hw _ (List.mem_of_getElem? (i := 2) rfl)) (by decide) (by decide)) q20a q20c (g := (mkF m 138 #[.val (.int p1), .val (.int md), .val (.int pr), .val (.int nr), .val (.ref o), .unset, .unset, .unset] [(.ref o)])) rfl (by rw [hml]; rfl) (Steps.refl _) (argsL := []) (rest := []) (lenOf own_pd5 rfl) rfl (by show 2 * 0 + _ ≤ _; exact Nat.le_of_eq rfl) (hb hby at_138) (fun _ _ => ⟨rfl, rfl, (by decide : 6 + 0 ≤ _), (by decide : 29 + 0 ≤ _)⟩)
        dsimp only [Pt.U, Pt.locs, Pt.cells, Pt.slots] at X20 l20 y20 z20 st20 hQ20
        rw [l20, y20, z20] at X20
        obtain ⟨rfl, Nq20, z20, D_15⟩ := hQ20
        have sz20 : n0 ≤ T20.heap.size := Nat.le_trans sz19 z20
        have N20 := Fr.app N19 Nq20
        obtain ⟨cq21, kq21, q21a, q21b, q21c⟩ := isOf hZ rfl (D_15.1)
        obtain ⟨_, _, ⟨T21, L21, k21, n21⟩, -, X21, ⟨Lc21, hQ21, l21, y21, z21⟩, st21⟩ := X20.virtualBack hx (y := (⟨"com/example/gabarit/gabarit/shacl/DescriptionOrder", "value", "()V"⟩ : MethodName)) (z := (⟨"com/example/gabarit/gabarit/shacl/DescriptionOrder", "value", "()V"⟩ : MethodName)) hown (mvT hZ (hw _ (List.mem_of_getElem? (i := 98) rfl))) (mvT hZ (hw _ (List.mem_of_getElem? (i := 99) rfl))) (notFace_of_selects (args := #[]) (mvT hZ (hw _ (List.mem_of_getElem? (i := 101) rfl)))) (mvT hZ (hw _ (List.mem_of_getElem? (i := 101) rfl))) (mvT hZ (hw _ (List.mem_of_getElem? (i := 100) rfl))) (by decide) (backOf (W := 0) (rm_val l Z a0 hw [] o q el k bD_14 false true [(bD_13, true, true), (f0, false, true)] true (((0 : Int32) + 1) + 1) T20.heap n0 sz20 D_15 (by simp) (by simp)) hZ (hw _ (List.mem_of_getElem? (i := 102) rfl)) (hw _ (List.mem_of_getElem? (i := 2) rfl)) (by decide) (by decide)) q21a q21c (g := (mkF m 178 #[.val (.int p1), .val (.int md), .val (.int pr), .val (.int nr), .val (.ref o), .val (.int (own_b false)), .val (.int nr), .val (.int (2 : Int32))] [(.ref o)])) rfl (by rw [hml]; rfl) (Steps.refl _) (argsL := []) (rest := []) (lenOf own_pd0 rfl) rfl (by show 2 * 0 + _ ≤ _; exact Nat.le_of_eq rfl) (hb hby at_178) (fun _ _ => ⟨rfl, rfl, (by decide : 6 + 0 ≤ _), (by decide : 29 + 0 ≤ _)⟩)
        dsimp only [Pt.U, Pt.locs, Pt.cells, Pt.slots] at X21 l21 y21 z21 st21 hQ21
        rw [l21, y21, z21] at X21
        obtain ⟨rfl, Nq21, z21, D_16⟩ := hQ21
        have sz21 : n0 ≤ T21.heap.size := Nat.le_trans sz20 z21
        have N21 := Fr.app N20 Nq21
        obtain ⟨cq22, kq22, q22a, q22b, q22c⟩ := isOf hZ rfl (D_16.1)
        obtain ⟨_, _, ⟨T22, L22, k22, n22⟩, -, X22, ⟨Lc22, hQ22, l22, y22, z22⟩, st22⟩ := X21.virtualBack hx (y := (⟨"com/example/gabarit/gabarit/shacl/DescriptionOrder", "blankNodesOpen", "()I"⟩ : MethodName)) (z := (⟨"com/example/gabarit/gabarit/shacl/DescriptionOrder", "blankNodesOpen", "()I"⟩ : MethodName)) hown (mvT hZ (hw _ (List.mem_of_getElem? (i := 103) rfl))) (mvT hZ (hw _ (List.mem_of_getElem? (i := 104) rfl))) (notFace_of_selects (args := #[]) (mvT hZ (hw _ (List.mem_of_getElem? (i := 106) rfl)))) (mvT hZ (hw _ (List.mem_of_getElem? (i := 106) rfl))) (mvT hZ (hw _ (List.mem_of_getElem? (i := 105) rfl))) (by decide) (backOf (W := 0) (rm_bno l Z a0 hw [] o (((0 : Int32) + 1) + 1) T21.heap n0 sz21 D_16.2.2.2.1) hZ (hw _ (List.mem_of_getElem? (i := 107) rfl)) (hw _ (List.mem_of_getElem? (i := 2) rfl)) (by decide) (by decide)) q22a q22c (g := (mkF m 190 #[.val (.int p1), .val (.int md), .val (.int pr), .val (.int nr), .val (.ref o), .val (.int (own_b false)), .val (.int nr), .val (.int (2 : Int32))] [(.ref o)])) rfl (by rw [hml]; rfl) (Steps.refl _) (argsL := []) (rest := []) (lenOf own_pd8 rfl) rfl (by show 2 * 0 + _ ≤ _; exact Nat.le_of_eq rfl) (hb hby at_190) (fun _ _ => ⟨rfl, rfl, (by decide : 6 + 0 ≤ _), (by decide : 29 + 0 ≤ _)⟩)
        dsimp only [Pt.U, Pt.locs, Pt.cells, Pt.slots] at X22 l22 y22 z22 st22 hQ22
        rw [l22, y22, z22] at X22
        obtain ⟨rfl, Nq22, e22⟩ := hQ22
        have N22 := Fr.app N21 Nq22
        obtain ⟨fs, hr, hrun, hended, hW, hsame⟩ := X22.leave (v := some (.int (1 : Int32))) (fun h => by rw [Bd.returns] at h; cases h)
        refine ⟨_, _, pre0 _ ?_, hrun, hended, _, _, rfl, ?_, ⟨_, rfl⟩, hW, hsame.mono (by decide) (by decide)⟩
        · show Steps p.tables e below (s₁.setTop (mkF m 0 #[.val (.int p1), .unset, .unset, .unset, .unset, .unset, .unset, .unset] [])) _
          refine pM2 _ ?_
          show Steps p.tables e below (T19.setTop (mkF m 111 #[.val (.int p1), .val (.int md), .val (.int pr), .val (.int nr), .val (.ref o), .unset, .unset, .unset] [(.int nr)])) _
          refine XS.ifYes X19.here hx rfl (pc0 := 111) (pc' := 125) rfl (hb hby at_111) rfl ((if0 _ _).trans (teq hq).1) (by decide) (by decide) ?_
          show Steps p.tables e below (T19.setTop (mkF m 125 #[.val (.int p1), .val (.int md), .val (.int pr), .val (.int nr), .val (.ref o), .unset, .unset, .unset] [])) _
          refine XS.iloadN X19.here hx rfl (hb hby at_125) rfl ?_
          show Steps p.tables e below (T19.setTop (mkF m 126 #[.val (.int p1), .val (.int md), .val (.int pr), .val (.int nr), .val (.ref o), .unset, .unset, .unset] [(.int md)])) _
          refine XS.iconst X19.here hx rfl (hb hby at_126) ?_
          show Steps p.tables e below (T19.setTop (mkF m 127 #[.val (.int p1), .val (.int md), .val (.int pr), .val (.int nr), .val (.ref o), .unset, .unset, .unset] [(.int (3 : Int32)), (.int md)])) _
          refine XS.icmpYes X19.here hx rfl (pc0 := 127) (pc' := 136) rfl (hb hby at_127) rfl (feq (by rw [hm2]; decide)).2 (by decide) (by decide) ?_
          show Steps p.tables e below (T19.setTop (mkF m 136 #[.val (.int p1), .val (.int md), .val (.int pr), .val (.int nr), .val (.ref o), .unset, .unset, .unset] [])) _
          refine XS.aload X19.here hx rfl (hb hby at_136) rfl rfl ?_
          show Steps p.tables e below (T19.setTop (mkF m 138 #[.val (.int p1), .val (.int md), .val (.int pr), .val (.int nr), .val (.ref o), .unset, .unset, .unset] [(.ref o)])) _
          refine st20.trans ?_
          show Steps p.tables e below (T20.setTop (mkF m 141 #[.val (.int p1), .val (.int md), .val (.int pr), .val (.int nr), .val (.ref o), .unset, .unset, .unset] [(.int (own_b false))])) _
          refine XS.istore X20.here hx rfl (hb hby at_141) rfl (l' := #[.val (.int p1), .val (.int md), .val (.int pr), .val (.int nr), .val (.ref o), .val (.int (own_b false)), .unset, .unset]) rfl ?_
          show Steps p.tables e below (T20.setTop (mkF m 143 #[.val (.int p1), .val (.int md), .val (.int pr), .val (.int nr), .val (.ref o), .val (.int (own_b false)), .unset, .unset] [])) _
          refine XS.iloadN X20.here hx rfl (hb hby at_143) rfl ?_
          show Steps p.tables e below (T20.setTop (mkF m 144 #[.val (.int p1), .val (.int md), .val (.int pr), .val (.int nr), .val (.ref o), .val (.int (own_b false)), .unset, .unset] [(.int md)])) _
          refine XS.ifYes X20.here hx rfl (pc0 := 144) (pc' := 156) rfl (hb hby at_144) rfl ((if0 _ _).trans (feq (by rw [hm2]; decide)).2) (by decide) (by decide) ?_
          show Steps p.tables e below (T20.setTop (mkF m 156 #[.val (.int p1), .val (.int md), .val (.int pr), .val (.int nr), .val (.ref o), .val (.int (own_b false)), .unset, .unset] [])) _
          refine XS.iloadN X20.here hx rfl (hb hby at_156) rfl ?_
          show Steps p.tables e below (T20.setTop (mkF m 157 #[.val (.int p1), .val (.int md), .val (.int pr), .val (.int nr), .val (.ref o), .val (.int (own_b false)), .unset, .unset] [(.int md)])) _
          refine XS.iconst X20.here hx rfl (hb hby at_157) ?_
          show Steps p.tables e below (T20.setTop (mkF m 158 #[.val (.int p1), .val (.int md), .val (.int pr), .val (.int nr), .val (.ref o), .val (.int (own_b false)), .unset, .unset] [(.int (3 : Int32)), (.int md)])) _
          refine XS.icmpYes X20.here hx rfl (pc0 := 158) (pc' := 170) rfl (hb hby at_158) rfl (feq (by rw [hm2]; decide)).2 (by decide) (by decide) ?_
          show Steps p.tables e below (T20.setTop (mkF m 170 #[.val (.int p1), .val (.int md), .val (.int pr), .val (.int nr), .val (.ref o), .val (.int (own_b false)), .unset, .unset] [])) _
          refine XS.iloadN X20.here hx rfl (hb hby at_170) rfl ?_
          show Steps p.tables e below (T20.setTop (mkF m 171 #[.val (.int p1), .val (.int md), .val (.int pr), .val (.int nr), .val (.ref o), .val (.int (own_b false)), .unset, .unset] [(.int nr)])) _
          refine XS.istore X20.here hx rfl (hb hby at_171) rfl (l' := #[.val (.int p1), .val (.int md), .val (.int pr), .val (.int nr), .val (.ref o), .val (.int (own_b false)), .val (.int nr), .unset]) rfl ?_
          show Steps p.tables e below (T20.setTop (mkF m 173 #[.val (.int p1), .val (.int md), .val (.int pr), .val (.int nr), .val (.ref o), .val (.int (own_b false)), .val (.int nr), .unset] [])) _
          refine XS.iconst X20.here hx rfl (hb hby at_173) ?_
          show Steps p.tables e below (T20.setTop (mkF m 174 #[.val (.int p1), .val (.int md), .val (.int pr), .val (.int nr), .val (.ref o), .val (.int (own_b false)), .val (.int nr), .unset] [(.int (2 : Int32))])) _
          refine XS.istore X20.here hx rfl (hb hby at_174) rfl (l' := #[.val (.int p1), .val (.int md), .val (.int pr), .val (.int nr), .val (.ref o), .val (.int (own_b false)), .val (.int nr), .val (.int (2 : Int32))]) rfl ?_
          show Steps p.tables e below (T20.setTop (mkF m 176 #[.val (.int p1), .val (.int md), .val (.int pr), .val (.int nr), .val (.ref o), .val (.int (own_b false)), .val (.int nr), .val (.int (2 : Int32))] [])) _
          refine XS.aload X20.here hx rfl (hb hby at_176) rfl rfl ?_
          show Steps p.tables e below (T20.setTop (mkF m 178 #[.val (.int p1), .val (.int md), .val (.int pr), .val (.int nr), .val (.ref o), .val (.int (own_b false)), .val (.int nr), .val (.int (2 : Int32))] [(.ref o)])) _
          refine st21.trans ?_
          show Steps p.tables e below (T21.setTop (mkF m 181 #[.val (.int p1), .val (.int md), .val (.int pr), .val (.int nr), .val (.ref o), .val (.int (own_b false)), .val (.int nr), .val (.int (2 : Int32))] [])) _
          refine XS.iload X21.here hx rfl (hb hby at_181) rfl ?_
          show Steps p.tables e below (T21.setTop (mkF m 183 #[.val (.int p1), .val (.int md), .val (.int pr), .val (.int nr), .val (.ref o), .val (.int (own_b false)), .val (.int nr), .val (.int (2 : Int32))] [(.int (own_b false))])) _
          refine XS.iload X21.here hx rfl (hb hby at_183) rfl ?_
          show Steps p.tables e below (T21.setTop (mkF m 185 #[.val (.int p1), .val (.int md), .val (.int pr), .val (.int nr), .val (.ref o), .val (.int (own_b false)), .val (.int nr), .val (.int (2 : Int32))] [(.int nr), (.int (own_b false))])) _
          refine XS.icmpNo X21.here hx rfl (hb hby at_185) rfl (teq hq.symm).2 ?_
          show Steps p.tables e below (T21.setTop (mkF m 188 #[.val (.int p1), .val (.int md), .val (.int pr), .val (.int nr), .val (.ref o), .val (.int (own_b false)), .val (.int nr), .val (.int (2 : Int32))] [])) _
          refine XS.aload X21.here hx rfl (hb hby at_188) rfl rfl ?_
          show Steps p.tables e below (T21.setTop (mkF m 190 #[.val (.int p1), .val (.int md), .val (.int pr), .val (.int nr), .val (.ref o), .val (.int (own_b false)), .val (.int nr), .val (.int (2 : Int32))] [(.ref o)])) _
          refine st22.trans ?_
          show Steps p.tables e below (T22.setTop (mkF m 193 #[.val (.int p1), .val (.int md), .val (.int pr), .val (.int nr), .val (.ref o), .val (.int (own_b false)), .val (.int nr), .val (.int (2 : Int32))] [(.int (((0 : Int32) + 1) + 1))])) _
          refine XS.iload X22.here hx rfl (hb hby at_193) rfl ?_
          show Steps p.tables e below (T22.setTop (mkF m 195 #[.val (.int p1), .val (.int md), .val (.int pr), .val (.int nr), .val (.ref o), .val (.int (own_b false)), .val (.int nr), .val (.int (2 : Int32))] [(.int (2 : Int32)), (.int (((0 : Int32) + 1) + 1))])) _
          refine XS.icmpNo X22.here hx rfl (hb hby at_195) rfl (teq (by decide)).2 ?_
          show Steps p.tables e below (T22.setTop (mkF m 198 #[.val (.int p1), .val (.int md), .val (.int pr), .val (.int nr), .val (.ref o), .val (.int (own_b false)), .val (.int nr), .val (.int (2 : Int32))] [])) _
          refine XS.iconst X22.here hx rfl (hb hby at_198) ?_
          show Steps p.tables e below (T22.setTop (mkF m 199 #[.val (.int p1), .val (.int md), .val (.int pr), .val (.int nr), .val (.ref o), .val (.int (own_b false)), .val (.int nr), .val (.int (2 : Int32))] [(.int (1 : Int32))])) _
          refine XS.goto X22.here hx rfl (pc0 := 199) (pc' := 203) rfl (hb hby at_199) (by decide) (by decide) ?_
          show Steps p.tables e below (T22.setTop (mkF m 203 #[.val (.int p1), .val (.int md), .val (.int pr), .val (.int nr), .val (.ref o), .val (.int (own_b false)), .val (.int nr), .val (.int (2 : Int32))] [(.int (1 : Int32))])) _
          exact retN X22 hx (t := .boolean) Bd.returns (by simp) (hb hby at_203) hr
        · show Q_law Z p1 h0 n0 _ T22.heap _
          rw [e22]
          exact ⟨rfl, N22⟩
      · obtain ⟨cq23, kq23, q23a, q23b, q23c⟩ := isOf hZ rfl (D_14.1)
        obtain ⟨_, _, ⟨T23, L23, k23, n23⟩, -, X23, ⟨Lc23, hQ23, l23, y23, z23⟩, st23⟩ := X19.virtualBack hx (y := (⟨"com/example/gabarit/gabarit/shacl/DescriptionOrder", "property", "()Z"⟩ : MethodName)) (z := (⟨"com/example/gabarit/gabarit/shacl/DescriptionOrder", "property", "()Z"⟩ : MethodName)) hown (mvT hZ (hw _ (List.mem_of_getElem? (i := 69) rfl))) (mvT hZ (hw _ (List.mem_of_getElem? (i := 70) rfl))) (notFace_of_selects (args := #[]) (mvT hZ (hw _ (List.mem_of_getElem? (i := 72) rfl)))) (mvT hZ (hw _ (List.mem_of_getElem? (i := 72) rfl))) (mvT hZ (hw _ (List.mem_of_getElem? (i := 71) rfl))) (by decide) (backOf (W := 0) (rm_prop l Z a0 hw [] o q el k bD_14 false [(bD_13, true, true), (f0, false, true)] (((0 : Int32) + 1) + 1) T19.heap n0 sz19 D_14 (by simp)) hZ (hw _ (List.mem_of_getElem? (i := 73) rfl)) (hw _ (List.mem_of_getElem? (i := 2) rfl)) (by decide) (by decide)) q23a q23c (g := (mkF m 116 #[.val (.int p1), .val (.int md), .val (.int pr), .val (.int nr), .val (.ref o), .unset, .unset, .unset] [(.ref o)])) rfl (by rw [hml]; rfl) (Steps.refl _) (argsL := []) (rest := []) (lenOf own_pd5 rfl) rfl (by show 2 * 0 + _ ≤ _; exact Nat.le_of_eq rfl) (hb hby at_116) (fun _ _ => ⟨rfl, rfl, (by decide : 6 + 0 ≤ _), (by decide : 29 + 0 ≤ _)⟩)
        dsimp only [Pt.U, Pt.locs, Pt.cells, Pt.slots] at X23 l23 y23 z23 st23 hQ23
        rw [l23, y23, z23] at X23
        obtain ⟨rfl, Nq23, z23, D_17⟩ := hQ23
        have sz23 : n0 ≤ T23.heap.size := Nat.le_trans sz19 z23
        have N23 := Fr.app N19 Nq23
        obtain ⟨cq24, kq24, q24a, q24b, q24c⟩ := isOf hZ rfl (D_17.1)
        obtain ⟨_, _, ⟨T24, L24, k24, n24⟩, -, X24, ⟨Lc24, hQ24, l24, y24, z24⟩, st24⟩ := X23.virtualBack hx (y := (⟨"com/example/gabarit/gabarit/shacl/DescriptionOrder", "value", "()V"⟩ : MethodName)) (z := (⟨"com/example/gabarit/gabarit/shacl/DescriptionOrder", "value", "()V"⟩ : MethodName)) hown (mvT hZ (hw _ (List.mem_of_getElem? (i := 98) rfl))) (mvT hZ (hw _ (List.mem_of_getElem? (i := 99) rfl))) (notFace_of_selects (args := #[]) (mvT hZ (hw _ (List.mem_of_getElem? (i := 101) rfl)))) (mvT hZ (hw _ (List.mem_of_getElem? (i := 101) rfl))) (mvT hZ (hw _ (List.mem_of_getElem? (i := 100) rfl))) (by decide) (backOf (W := 0) (rm_val l Z a0 hw [] o q el k bD_14 false true [(bD_13, true, true), (f0, false, true)] true (((0 : Int32) + 1) + 1) T23.heap n0 sz23 D_17 (by simp) (by simp)) hZ (hw _ (List.mem_of_getElem? (i := 102) rfl)) (hw _ (List.mem_of_getElem? (i := 2) rfl)) (by decide) (by decide)) q24a q24c (g := (mkF m 122 #[.val (.int p1), .val (.int md), .val (.int pr), .val (.int nr), .val (.ref o), .unset, .unset, .unset] [(.ref o)])) rfl (by rw [hml]; rfl) (Steps.refl _) (argsL := []) (rest := []) (lenOf own_pd0 rfl) rfl (by show 2 * 0 + _ ≤ _; exact Nat.le_of_eq rfl) (hb hby at_122) (fun _ _ => ⟨rfl, rfl, (by decide : 6 + 0 ≤ _), (by decide : 29 + 0 ≤ _)⟩)
        dsimp only [Pt.U, Pt.locs, Pt.cells, Pt.slots] at X24 l24 y24 z24 st24 hQ24
        rw [l24, y24, z24] at X24
        obtain ⟨rfl, Nq24, z24, D_18⟩ := hQ24
        have sz24 : n0 ≤ T24.heap.size := Nat.le_trans sz23 z24
        have N24 := Fr.app N23 Nq24
        obtain ⟨cq25, kq25, q25a, q25b, q25c⟩ := isOf hZ rfl (D_18.1)
        obtain ⟨_, _, ⟨T25, L25, k25, n25⟩, -, X25, ⟨Lc25, hQ25, l25, y25, z25⟩, st25⟩ := X24.virtualBack hx (y := (⟨"com/example/gabarit/gabarit/shacl/DescriptionOrder", "property", "()Z"⟩ : MethodName)) (z := (⟨"com/example/gabarit/gabarit/shacl/DescriptionOrder", "property", "()Z"⟩ : MethodName)) hown (mvT hZ (hw _ (List.mem_of_getElem? (i := 69) rfl))) (mvT hZ (hw _ (List.mem_of_getElem? (i := 70) rfl))) (notFace_of_selects (args := #[]) (mvT hZ (hw _ (List.mem_of_getElem? (i := 72) rfl)))) (mvT hZ (hw _ (List.mem_of_getElem? (i := 72) rfl))) (mvT hZ (hw _ (List.mem_of_getElem? (i := 71) rfl))) (by decide) (backOf (W := 0) (rm_prop l Z a0 hw [] o q el k bD_14 true [(bD_13, true, true), (f0, false, true)] (((0 : Int32) + 1) + 1) T24.heap n0 sz24 D_18 (by simp)) hZ (hw _ (List.mem_of_getElem? (i := 73) rfl)) (hw _ (List.mem_of_getElem? (i := 2) rfl)) (by decide) (by decide)) q25a q25c (g := (mkF m 138 #[.val (.int p1), .val (.int md), .val (.int pr), .val (.int nr), .val (.ref o), .unset, .unset, .unset] [(.ref o)])) rfl (by rw [hml]; rfl) (Steps.refl _) (argsL := []) (rest := []) (lenOf own_pd5 rfl) rfl (by show 2 * 0 + _ ≤ _; exact Nat.le_of_eq rfl) (hb hby at_138) (fun _ _ => ⟨rfl, rfl, (by decide : 6 + 0 ≤ _), (by decide : 29 + 0 ≤ _)⟩)
        dsimp only [Pt.U, Pt.locs, Pt.cells, Pt.slots] at X25 l25 y25 z25 st25 hQ25
        rw [l25, y25, z25] at X25
        obtain ⟨rfl, Nq25, z25, D_19⟩ := hQ25
        have sz25 : n0 ≤ T25.heap.size := Nat.le_trans sz24 z25
        have N25 := Fr.app N24 Nq25
        obtain ⟨cq26, kq26, q26a, q26b, q26c⟩ := isOf hZ rfl (D_19.1)
        obtain ⟨_, _, ⟨T26, L26, k26, n26⟩, -, X26, ⟨Lc26, hQ26, l26, y26, z26⟩, st26⟩ := X25.virtualBack hx (y := (⟨"com/example/gabarit/gabarit/shacl/DescriptionOrder", "value", "()V"⟩ : MethodName)) (z := (⟨"com/example/gabarit/gabarit/shacl/DescriptionOrder", "value", "()V"⟩ : MethodName)) hown (mvT hZ (hw _ (List.mem_of_getElem? (i := 98) rfl))) (mvT hZ (hw _ (List.mem_of_getElem? (i := 99) rfl))) (notFace_of_selects (args := #[]) (mvT hZ (hw _ (List.mem_of_getElem? (i := 101) rfl)))) (mvT hZ (hw _ (List.mem_of_getElem? (i := 101) rfl))) (mvT hZ (hw _ (List.mem_of_getElem? (i := 100) rfl))) (by decide) (backOf (W := 0) (rm_val l Z a0 hw [] o q el k bD_14 false true [(bD_13, true, true), (f0, false, true)] true (((0 : Int32) + 1) + 1) T25.heap n0 sz25 D_19 (by simp) (by simp)) hZ (hw _ (List.mem_of_getElem? (i := 102) rfl)) (hw _ (List.mem_of_getElem? (i := 2) rfl)) (by decide) (by decide)) q26a q26c (g := (mkF m 178 #[.val (.int p1), .val (.int md), .val (.int pr), .val (.int nr), .val (.ref o), .val (.int (own_b true)), .val (.int nr), .val (.int (2 : Int32))] [(.ref o)])) rfl (by rw [hml]; rfl) (Steps.refl _) (argsL := []) (rest := []) (lenOf own_pd0 rfl) rfl (by show 2 * 0 + _ ≤ _; exact Nat.le_of_eq rfl) (hb hby at_178) (fun _ _ => ⟨rfl, rfl, (by decide : 6 + 0 ≤ _), (by decide : 29 + 0 ≤ _)⟩)
        dsimp only [Pt.U, Pt.locs, Pt.cells, Pt.slots] at X26 l26 y26 z26 st26 hQ26
        rw [l26, y26, z26] at X26
        obtain ⟨rfl, Nq26, z26, D_20⟩ := hQ26
        have sz26 : n0 ≤ T26.heap.size := Nat.le_trans sz25 z26
        have N26 := Fr.app N25 Nq26
        obtain ⟨cq27, kq27, q27a, q27b, q27c⟩ := isOf hZ rfl (D_20.1)
        obtain ⟨_, _, ⟨T27, L27, k27, n27⟩, -, X27, ⟨Lc27, hQ27, l27, y27, z27⟩, st27⟩ := X26.virtualBack hx (y := (⟨"com/example/gabarit/gabarit/shacl/DescriptionOrder", "blankNodesOpen", "()I"⟩ : MethodName)) (z := (⟨"com/example/gabarit/gabarit/shacl/DescriptionOrder", "blankNodesOpen", "()I"⟩ : MethodName)) hown (mvT hZ (hw _ (List.mem_of_getElem? (i := 103) rfl))) (mvT hZ (hw _ (List.mem_of_getElem? (i := 104) rfl))) (notFace_of_selects (args := #[]) (mvT hZ (hw _ (List.mem_of_getElem? (i := 106) rfl)))) (mvT hZ (hw _ (List.mem_of_getElem? (i := 106) rfl))) (mvT hZ (hw _ (List.mem_of_getElem? (i := 105) rfl))) (by decide) (backOf (W := 0) (rm_bno l Z a0 hw [] o (((0 : Int32) + 1) + 1) T26.heap n0 sz26 D_20.2.2.2.1) hZ (hw _ (List.mem_of_getElem? (i := 107) rfl)) (hw _ (List.mem_of_getElem? (i := 2) rfl)) (by decide) (by decide)) q27a q27c (g := (mkF m 190 #[.val (.int p1), .val (.int md), .val (.int pr), .val (.int nr), .val (.ref o), .val (.int (own_b true)), .val (.int nr), .val (.int (2 : Int32))] [(.ref o)])) rfl (by rw [hml]; rfl) (Steps.refl _) (argsL := []) (rest := []) (lenOf own_pd8 rfl) rfl (by show 2 * 0 + _ ≤ _; exact Nat.le_of_eq rfl) (hb hby at_190) (fun _ _ => ⟨rfl, rfl, (by decide : 6 + 0 ≤ _), (by decide : 29 + 0 ≤ _)⟩)
        dsimp only [Pt.U, Pt.locs, Pt.cells, Pt.slots] at X27 l27 y27 z27 st27 hQ27
        rw [l27, y27, z27] at X27
        obtain ⟨rfl, Nq27, e27⟩ := hQ27
        have N27 := Fr.app N26 Nq27
        obtain ⟨fs, hr, hrun, hended, hW, hsame⟩ := X27.leave (v := some (.int (1 : Int32))) (fun h => by rw [Bd.returns] at h; cases h)
        refine ⟨_, _, pre0 _ ?_, hrun, hended, _, _, rfl, ?_, ⟨_, rfl⟩, hW, hsame.mono (by decide) (by decide)⟩
        · show Steps p.tables e below (s₁.setTop (mkF m 0 #[.val (.int p1), .unset, .unset, .unset, .unset, .unset, .unset, .unset] [])) _
          refine pM2 _ ?_
          show Steps p.tables e below (T19.setTop (mkF m 111 #[.val (.int p1), .val (.int md), .val (.int pr), .val (.int nr), .val (.ref o), .unset, .unset, .unset] [(.int nr)])) _
          refine XS.ifNo X19.here hx rfl (hb hby at_111) rfl ((if0 _ _).trans (feq (by rw [hq]; decide)).1) ?_
          show Steps p.tables e below (T19.setTop (mkF m 114 #[.val (.int p1), .val (.int md), .val (.int pr), .val (.int nr), .val (.ref o), .unset, .unset, .unset] [])) _
          refine XS.aload X19.here hx rfl (hb hby at_114) rfl rfl ?_
          show Steps p.tables e below (T19.setTop (mkF m 116 #[.val (.int p1), .val (.int md), .val (.int pr), .val (.int nr), .val (.ref o), .unset, .unset, .unset] [(.ref o)])) _
          refine st23.trans ?_
          show Steps p.tables e below (T23.setTop (mkF m 119 #[.val (.int p1), .val (.int md), .val (.int pr), .val (.int nr), .val (.ref o), .unset, .unset, .unset] [(.int (own_b false))])) _
          refine XS.pop X23.here hx rfl (hb hby at_119) rfl rfl ?_
          show Steps p.tables e below (T23.setTop (mkF m 120 #[.val (.int p1), .val (.int md), .val (.int pr), .val (.int nr), .val (.ref o), .unset, .unset, .unset] [])) _
          refine XS.aload X23.here hx rfl (hb hby at_120) rfl rfl ?_
          show Steps p.tables e below (T23.setTop (mkF m 122 #[.val (.int p1), .val (.int md), .val (.int pr), .val (.int nr), .val (.ref o), .unset, .unset, .unset] [(.ref o)])) _
          refine st24.trans ?_
          show Steps p.tables e below (T24.setTop (mkF m 125 #[.val (.int p1), .val (.int md), .val (.int pr), .val (.int nr), .val (.ref o), .unset, .unset, .unset] [])) _
          refine XS.iloadN X24.here hx rfl (hb hby at_125) rfl ?_
          show Steps p.tables e below (T24.setTop (mkF m 126 #[.val (.int p1), .val (.int md), .val (.int pr), .val (.int nr), .val (.ref o), .unset, .unset, .unset] [(.int md)])) _
          refine XS.iconst X24.here hx rfl (hb hby at_126) ?_
          show Steps p.tables e below (T24.setTop (mkF m 127 #[.val (.int p1), .val (.int md), .val (.int pr), .val (.int nr), .val (.ref o), .unset, .unset, .unset] [(.int (3 : Int32)), (.int md)])) _
          refine XS.icmpYes X24.here hx rfl (pc0 := 127) (pc' := 136) rfl (hb hby at_127) rfl (feq (by rw [hm2]; decide)).2 (by decide) (by decide) ?_
          show Steps p.tables e below (T24.setTop (mkF m 136 #[.val (.int p1), .val (.int md), .val (.int pr), .val (.int nr), .val (.ref o), .unset, .unset, .unset] [])) _
          refine XS.aload X24.here hx rfl (hb hby at_136) rfl rfl ?_
          show Steps p.tables e below (T24.setTop (mkF m 138 #[.val (.int p1), .val (.int md), .val (.int pr), .val (.int nr), .val (.ref o), .unset, .unset, .unset] [(.ref o)])) _
          refine st25.trans ?_
          show Steps p.tables e below (T25.setTop (mkF m 141 #[.val (.int p1), .val (.int md), .val (.int pr), .val (.int nr), .val (.ref o), .unset, .unset, .unset] [(.int (own_b true))])) _
          refine XS.istore X25.here hx rfl (hb hby at_141) rfl (l' := #[.val (.int p1), .val (.int md), .val (.int pr), .val (.int nr), .val (.ref o), .val (.int (own_b true)), .unset, .unset]) rfl ?_
          show Steps p.tables e below (T25.setTop (mkF m 143 #[.val (.int p1), .val (.int md), .val (.int pr), .val (.int nr), .val (.ref o), .val (.int (own_b true)), .unset, .unset] [])) _
          refine XS.iloadN X25.here hx rfl (hb hby at_143) rfl ?_
          show Steps p.tables e below (T25.setTop (mkF m 144 #[.val (.int p1), .val (.int md), .val (.int pr), .val (.int nr), .val (.ref o), .val (.int (own_b true)), .unset, .unset] [(.int md)])) _
          refine XS.ifYes X25.here hx rfl (pc0 := 144) (pc' := 156) rfl (hb hby at_144) rfl ((if0 _ _).trans (feq (by rw [hm2]; decide)).2) (by decide) (by decide) ?_
          show Steps p.tables e below (T25.setTop (mkF m 156 #[.val (.int p1), .val (.int md), .val (.int pr), .val (.int nr), .val (.ref o), .val (.int (own_b true)), .unset, .unset] [])) _
          refine XS.iloadN X25.here hx rfl (hb hby at_156) rfl ?_
          show Steps p.tables e below (T25.setTop (mkF m 157 #[.val (.int p1), .val (.int md), .val (.int pr), .val (.int nr), .val (.ref o), .val (.int (own_b true)), .unset, .unset] [(.int md)])) _
          refine XS.iconst X25.here hx rfl (hb hby at_157) ?_
          show Steps p.tables e below (T25.setTop (mkF m 158 #[.val (.int p1), .val (.int md), .val (.int pr), .val (.int nr), .val (.ref o), .val (.int (own_b true)), .unset, .unset] [(.int (3 : Int32)), (.int md)])) _
          refine XS.icmpYes X25.here hx rfl (pc0 := 158) (pc' := 170) rfl (hb hby at_158) rfl (feq (by rw [hm2]; decide)).2 (by decide) (by decide) ?_
          show Steps p.tables e below (T25.setTop (mkF m 170 #[.val (.int p1), .val (.int md), .val (.int pr), .val (.int nr), .val (.ref o), .val (.int (own_b true)), .unset, .unset] [])) _
          refine XS.iloadN X25.here hx rfl (hb hby at_170) rfl ?_
          show Steps p.tables e below (T25.setTop (mkF m 171 #[.val (.int p1), .val (.int md), .val (.int pr), .val (.int nr), .val (.ref o), .val (.int (own_b true)), .unset, .unset] [(.int nr)])) _
          refine XS.istore X25.here hx rfl (hb hby at_171) rfl (l' := #[.val (.int p1), .val (.int md), .val (.int pr), .val (.int nr), .val (.ref o), .val (.int (own_b true)), .val (.int nr), .unset]) rfl ?_
          show Steps p.tables e below (T25.setTop (mkF m 173 #[.val (.int p1), .val (.int md), .val (.int pr), .val (.int nr), .val (.ref o), .val (.int (own_b true)), .val (.int nr), .unset] [])) _
          refine XS.iconst X25.here hx rfl (hb hby at_173) ?_
          show Steps p.tables e below (T25.setTop (mkF m 174 #[.val (.int p1), .val (.int md), .val (.int pr), .val (.int nr), .val (.ref o), .val (.int (own_b true)), .val (.int nr), .unset] [(.int (2 : Int32))])) _
          refine XS.istore X25.here hx rfl (hb hby at_174) rfl (l' := #[.val (.int p1), .val (.int md), .val (.int pr), .val (.int nr), .val (.ref o), .val (.int (own_b true)), .val (.int nr), .val (.int (2 : Int32))]) rfl ?_
          show Steps p.tables e below (T25.setTop (mkF m 176 #[.val (.int p1), .val (.int md), .val (.int pr), .val (.int nr), .val (.ref o), .val (.int (own_b true)), .val (.int nr), .val (.int (2 : Int32))] [])) _
          refine XS.aload X25.here hx rfl (hb hby at_176) rfl rfl ?_
          show Steps p.tables e below (T25.setTop (mkF m 178 #[.val (.int p1), .val (.int md), .val (.int pr), .val (.int nr), .val (.ref o), .val (.int (own_b true)), .val (.int nr), .val (.int (2 : Int32))] [(.ref o)])) _
          refine st26.trans ?_
          show Steps p.tables e below (T26.setTop (mkF m 181 #[.val (.int p1), .val (.int md), .val (.int pr), .val (.int nr), .val (.ref o), .val (.int (own_b true)), .val (.int nr), .val (.int (2 : Int32))] [])) _
          refine XS.iload X26.here hx rfl (hb hby at_181) rfl ?_
          show Steps p.tables e below (T26.setTop (mkF m 183 #[.val (.int p1), .val (.int md), .val (.int pr), .val (.int nr), .val (.ref o), .val (.int (own_b true)), .val (.int nr), .val (.int (2 : Int32))] [(.int (own_b true))])) _
          refine XS.iload X26.here hx rfl (hb hby at_183) rfl ?_
          show Steps p.tables e below (T26.setTop (mkF m 185 #[.val (.int p1), .val (.int md), .val (.int pr), .val (.int nr), .val (.ref o), .val (.int (own_b true)), .val (.int nr), .val (.int (2 : Int32))] [(.int nr), (.int (own_b true))])) _
          refine XS.icmpNo X26.here hx rfl (hb hby at_185) rfl (teq hq.symm).2 ?_
          show Steps p.tables e below (T26.setTop (mkF m 188 #[.val (.int p1), .val (.int md), .val (.int pr), .val (.int nr), .val (.ref o), .val (.int (own_b true)), .val (.int nr), .val (.int (2 : Int32))] [])) _
          refine XS.aload X26.here hx rfl (hb hby at_188) rfl rfl ?_
          show Steps p.tables e below (T26.setTop (mkF m 190 #[.val (.int p1), .val (.int md), .val (.int pr), .val (.int nr), .val (.ref o), .val (.int (own_b true)), .val (.int nr), .val (.int (2 : Int32))] [(.ref o)])) _
          refine st27.trans ?_
          show Steps p.tables e below (T27.setTop (mkF m 193 #[.val (.int p1), .val (.int md), .val (.int pr), .val (.int nr), .val (.ref o), .val (.int (own_b true)), .val (.int nr), .val (.int (2 : Int32))] [(.int (((0 : Int32) + 1) + 1))])) _
          refine XS.iload X27.here hx rfl (hb hby at_193) rfl ?_
          show Steps p.tables e below (T27.setTop (mkF m 195 #[.val (.int p1), .val (.int md), .val (.int pr), .val (.int nr), .val (.ref o), .val (.int (own_b true)), .val (.int nr), .val (.int (2 : Int32))] [(.int (2 : Int32)), (.int (((0 : Int32) + 1) + 1))])) _
          refine XS.icmpNo X27.here hx rfl (hb hby at_195) rfl (teq (by decide)).2 ?_
          show Steps p.tables e below (T27.setTop (mkF m 198 #[.val (.int p1), .val (.int md), .val (.int pr), .val (.int nr), .val (.ref o), .val (.int (own_b true)), .val (.int nr), .val (.int (2 : Int32))] [])) _
          refine XS.iconst X27.here hx rfl (hb hby at_198) ?_
          show Steps p.tables e below (T27.setTop (mkF m 199 #[.val (.int p1), .val (.int md), .val (.int pr), .val (.int nr), .val (.ref o), .val (.int (own_b true)), .val (.int nr), .val (.int (2 : Int32))] [(.int (1 : Int32))])) _
          refine XS.goto X27.here hx rfl (pc0 := 199) (pc' := 203) rfl (hb hby at_199) (by decide) (by decide) ?_
          show Steps p.tables e below (T27.setTop (mkF m 203 #[.val (.int p1), .val (.int md), .val (.int pr), .val (.int nr), .val (.ref o), .val (.int (own_b true)), .val (.int nr), .val (.int (2 : Int32))] [(.int (1 : Int32))])) _
          exact retN X27 hx (t := .boolean) Bd.returns (by simp) (hb hby at_203) hr
        · show Q_law Z p1 h0 n0 _ T27.heap _
          rw [e27]
          exact ⟨rfl, N27⟩
    · obtain ⟨cq28, kq28, q28a, q28b, q28c⟩ := isOf hZ rfl (D_1.1)
      obtain ⟨_, _, ⟨T28, L28, k28, n28⟩, -, X28, ⟨Lc28, hQ28, l28, y28, z28⟩, st28⟩ := X3.virtualBack hx (y := (⟨"com/example/gabarit/gabarit/shacl/DescriptionOrder", "property", "()Z"⟩ : MethodName)) (z := (⟨"com/example/gabarit/gabarit/shacl/DescriptionOrder", "property", "()Z"⟩ : MethodName)) hown (mvT hZ (hw _ (List.mem_of_getElem? (i := 69) rfl))) (mvT hZ (hw _ (List.mem_of_getElem? (i := 70) rfl))) (notFace_of_selects (args := #[]) (mvT hZ (hw _ (List.mem_of_getElem? (i := 72) rfl)))) (mvT hZ (hw _ (List.mem_of_getElem? (i := 72) rfl))) (mvT hZ (hw _ (List.mem_of_getElem? (i := 71) rfl))) (by decide) (backOf (W := 0) (rm_prop l Z a0 hw [] o q el k f0 false [] ((0 : Int32) + 1) T3.heap n0 sz3 D_1 (by simp)) hZ (hw _ (List.mem_of_getElem? (i := 73) rfl)) (hw _ (List.mem_of_getElem? (i := 2) rfl)) (by decide) (by decide)) q28a q28c (g := (mkF m 74 #[.val (.int p1), .val (.int md), .val (.int pr), .val (.int nr), .val (.ref o), .unset, .unset, .unset] [(.ref o)])) rfl (by rw [hml]; rfl) (Steps.refl _) (argsL := []) (rest := []) (lenOf own_pd5 rfl) rfl (by show 2 * 0 + _ ≤ _; exact Nat.le_of_eq rfl) (hb hby at_74) (fun _ _ => ⟨rfl, rfl, (by decide : 4 + 0 ≤ _), (by decide : 25 + 0 ≤ _)⟩)
      dsimp only [Pt.U, Pt.locs, Pt.cells, Pt.slots] at X28 l28 y28 z28 st28 hQ28
      rw [l28, y28, z28] at X28
      obtain ⟨rfl, Nq28, z28, D_21⟩ := hQ28
      have sz28 : n0 ≤ T28.heap.size := Nat.le_trans sz3 z28
      have N28 := Fr.app N3 Nq28
      obtain ⟨cq29, kq29, q29a, q29b, q29c⟩ := isOf hZ rfl (D_21.1)
      obtain ⟨_, _, ⟨T29, L29, k29, n29⟩, -, X29, ⟨Lc29, hQ29, l29, y29, z29⟩, st29⟩ := X28.virtualBack hx (y := (⟨"com/example/gabarit/gabarit/shacl/DescriptionOrder", "beginBlankNode", "()Z"⟩ : MethodName)) (z := (⟨"com/example/gabarit/gabarit/shacl/DescriptionOrder", "beginBlankNode", "()Z"⟩ : MethodName)) hown (mvT hZ (hw _ (List.mem_of_getElem? (i := 28) rfl))) (mvT hZ (hw _ (List.mem_of_getElem? (i := 29) rfl))) (notFace_of_selects (args := #[]) (mvT hZ (hw _ (List.mem_of_getElem? (i := 31) rfl)))) (mvT hZ (hw _ (List.mem_of_getElem? (i := 31) rfl))) (mvT hZ (hw _ (List.mem_of_getElem? (i := 30) rfl))) (by decide) (backOf (W := 0) (rm_bbN l Z a0 hw [] o q el k f0 false true [] true ((0 : Int32) + 1) T28.heap n0 sz28 D_21 (by simp) (by simp)) hZ (hw _ (List.mem_of_getElem? (i := 32) rfl)) (hw _ (List.mem_of_getElem? (i := 2) rfl)) (by decide) (by decide)) q29a q29c (g := (mkF m 80 #[.val (.int p1), .val (.int md), .val (.int pr), .val (.int nr), .val (.ref o), .unset, .unset, .unset] [(.ref o)])) rfl (by rw [hml]; rfl) (Steps.refl _) (argsL := []) (rest := []) (lenOf own_pd5 rfl) rfl (by show 2 * 0 + _ ≤ _; exact Nat.le_of_eq rfl) (hb hby at_80) (fun _ _ => ⟨rfl, rfl, (by decide : 4 + 1 ≤ _), (by decide : 25 + 2 ≤ _)⟩)
      dsimp only [Pt.U, Pt.locs, Pt.cells, Pt.slots] at X29 l29 y29 z29 st29 hQ29
      rw [l29, y29, z29] at X29
      obtain ⟨⟨xD_22, rfl⟩, Nq29, z29, bD_22, D_22⟩ := hQ29
      have sz29 : n0 ≤ T29.heap.size := Nat.le_trans sz28 z29
      have N29 := Fr.app N28 Nq29
      have pM3 : ∀ tt, Steps p.tables e below (T29.setTop (mkF m 111 #[.val (.int p1), .val (.int md), .val (.int pr), .val (.int nr), .val (.ref o), .unset, .unset, .unset] [(.int nr)])) tt → Steps p.tables e below (s₁.setTop (mkF m 0 #[.val (.int p1), .unset, .unset, .unset, .unset, .unset, .unset, .unset] [])) tt := by
        intro tt kt
        show Steps p.tables e below (s₁.setTop (mkF m 0 #[.val (.int p1), .unset, .unset, .unset, .unset, .unset, .unset, .unset] [])) _
        refine pA _ ?_
        show Steps p.tables e below (T3.setTop (mkF m 48 #[.val (.int p1), .val (.int md), .val (.int pr), .val (.int nr), .val (.ref o), .unset, .unset, .unset] [(.int pr)])) _
        refine XS.ifYes X3.here hx rfl (pc0 := 48) (pc' := 62) rfl (hb hby at_48) rfl ((if0 _ _).trans (teq hp).1) (by decide) (by decide) ?_
        show Steps p.tables e below (T3.setTop (mkF m 62 #[.val (.int p1), .val (.int md), .val (.int pr), .val (.int nr), .val (.ref o), .unset, .unset, .unset] [])) _
        refine XS.iloadN X3.here hx rfl (hb hby at_62) rfl ?_
        show Steps p.tables e below (T3.setTop (mkF m 63 #[.val (.int p1), .val (.int md), .val (.int pr), .val (.int nr), .val (.ref o), .unset, .unset, .unset] [(.int md)])) _
        refine XS.iconst X3.here hx rfl (hb hby at_63) ?_
        show Steps p.tables e below (T3.setTop (mkF m 64 #[.val (.int p1), .val (.int md), .val (.int pr), .val (.int nr), .val (.ref o), .unset, .unset, .unset] [(.int (1 : Int32)), (.int md)])) _
        refine XS.icmpNo X3.here hx rfl (hb hby at_64) rfl (feq (by rw [hm3]; decide)).1 ?_
        show Steps p.tables e below (T3.setTop (mkF m 67 #[.val (.int p1), .val (.int md), .val (.int pr), .val (.int nr), .val (.ref o), .unset, .unset, .unset] [])) _
        refine XS.iloadN X3.here hx rfl (hb hby at_67) rfl ?_
        show Steps p.tables e below (T3.setTop (mkF m 68 #[.val (.int p1), .val (.int md), .val (.int pr), .val (.int nr), .val (.ref o), .unset, .unset, .unset] [(.int md)])) _
        refine XS.iconst X3.here hx rfl (hb hby at_68) ?_
        show Steps p.tables e below (T3.setTop (mkF m 69 #[.val (.int p1), .val (.int md), .val (.int pr), .val (.int nr), .val (.ref o), .unset, .unset, .unset] [(.int (3 : Int32)), (.int md)])) _
        refine XS.icmpNo X3.here hx rfl (hb hby at_69) rfl (teq hm3).2 ?_
        show Steps p.tables e below (T3.setTop (mkF m 72 #[.val (.int p1), .val (.int md), .val (.int pr), .val (.int nr), .val (.ref o), .unset, .unset, .unset] [])) _
        refine XS.aload X3.here hx rfl (hb hby at_72) rfl rfl ?_
        show Steps p.tables e below (T3.setTop (mkF m 74 #[.val (.int p1), .val (.int md), .val (.int pr), .val (.int nr), .val (.ref o), .unset, .unset, .unset] [(.ref o)])) _
        refine st28.trans ?_
        show Steps p.tables e below (T28.setTop (mkF m 77 #[.val (.int p1), .val (.int md), .val (.int pr), .val (.int nr), .val (.ref o), .unset, .unset, .unset] [(.int (own_b false))])) _
        refine XS.pop X28.here hx rfl (hb hby at_77) rfl rfl ?_
        show Steps p.tables e below (T28.setTop (mkF m 78 #[.val (.int p1), .val (.int md), .val (.int pr), .val (.int nr), .val (.ref o), .unset, .unset, .unset] [])) _
        refine XS.aload X28.here hx rfl (hb hby at_78) rfl rfl ?_
        show Steps p.tables e below (T28.setTop (mkF m 80 #[.val (.int p1), .val (.int md), .val (.int pr), .val (.int nr), .val (.ref o), .unset, .unset, .unset] [(.ref o)])) _
        refine st29.trans ?_
        show Steps p.tables e below (T29.setTop (mkF m 83 #[.val (.int p1), .val (.int md), .val (.int pr), .val (.int nr), .val (.ref o), .unset, .unset, .unset] [(.int xD_22)])) _
        refine XS.pop X29.here hx rfl (hb hby at_83) rfl rfl ?_
        show Steps p.tables e below (T29.setTop (mkF m 84 #[.val (.int p1), .val (.int md), .val (.int pr), .val (.int nr), .val (.ref o), .unset, .unset, .unset] [])) _
        refine XS.iloadN X29.here hx rfl (hb hby at_84) rfl ?_
        show Steps p.tables e below (T29.setTop (mkF m 85 #[.val (.int p1), .val (.int md), .val (.int pr), .val (.int nr), .val (.ref o), .unset, .unset, .unset] [(.int md)])) _
        refine XS.iconst X29.here hx rfl (hb hby at_85) ?_
        show Steps p.tables e below (T29.setTop (mkF m 86 #[.val (.int p1), .val (.int md), .val (.int pr), .val (.int nr), .val (.ref o), .unset, .unset, .unset] [(.int (2 : Int32)), (.int md)])) _
        refine XS.icmpYes X29.here hx rfl (pc0 := 86) (pc' := 106) rfl (hb hby at_86) rfl (feq (by rw [hm3]; decide)).2 (by decide) (by decide) ?_
        show Steps p.tables e below (T29.setTop (mkF m 106 #[.val (.int p1), .val (.int md), .val (.int pr), .val (.int nr), .val (.ref o), .unset, .unset, .unset] [])) _
        refine XS.iloadN X29.here hx rfl (hb hby at_106) rfl ?_
        show Steps p.tables e below (T29.setTop (mkF m 107 #[.val (.int p1), .val (.int md), .val (.int pr), .val (.int nr), .val (.ref o), .unset, .unset, .unset] [(.int md)])) _
        refine XS.ifNo X29.here hx rfl (hb hby at_107) rfl ((if0 _ _).trans (feq (by rw [hm3]; decide)).1) ?_
        show Steps p.tables e below (T29.setTop (mkF m 110 #[.val (.int p1), .val (.int md), .val (.int pr), .val (.int nr), .val (.ref o), .unset, .unset, .unset] [])) _
        refine XS.iloadN X29.here hx rfl (hb hby at_110) rfl ?_
        exact kt
      rcases hnr with hq | hq
      · obtain ⟨cq30, kq30, q30a, q30b, q30c⟩ := isOf hZ rfl (D_22.1)
        obtain ⟨_, _, ⟨T30, L30, k30, n30⟩, -, X30, ⟨Lc30, hQ30, l30, y30, z30⟩, st30⟩ := X29.virtualBack hx (y := (⟨"com/example/gabarit/gabarit/shacl/DescriptionOrder", "endBlankNode", "()Z"⟩ : MethodName)) (z := (⟨"com/example/gabarit/gabarit/shacl/DescriptionOrder", "endBlankNode", "()Z"⟩ : MethodName)) hown (mvT hZ (hw _ (List.mem_of_getElem? (i := 109) rfl))) (mvT hZ (hw _ (List.mem_of_getElem? (i := 110) rfl))) (notFace_of_selects (args := #[]) (mvT hZ (hw _ (List.mem_of_getElem? (i := 112) rfl)))) (mvT hZ (hw _ (List.mem_of_getElem? (i := 112) rfl))) (mvT hZ (hw _ (List.mem_of_getElem? (i := 111) rfl))) (by decide) (backOf (W := 0) (rm_ebn l Z a0 hw [] o q el k bD_22 false [(f0, false, true)] (((0 : Int32) + 1) + 1) T29.heap n0 sz29 D_22 (by simp)) hZ (hw _ (List.mem_of_getElem? (i := 113) rfl)) (hw _ (List.mem_of_getElem? (i := 2) rfl)) (by decide) (by decide)) q30a q30c (g := (mkF m 132 #[.val (.int p1), .val (.int md), .val (.int pr), .val (.int nr), .val (.ref o), .unset, .unset, .unset] [(.ref o)])) rfl (by rw [hml]; rfl) (Steps.refl _) (argsL := []) (rest := []) (lenOf own_pd5 rfl) rfl (by show 2 * 0 + _ ≤ _; exact Nat.le_of_eq rfl) (hb hby at_132) (fun _ _ => ⟨rfl, rfl, (by decide : 5 + 0 ≤ _), (by decide : 27 + 0 ≤ _)⟩)
        dsimp only [Pt.U, Pt.locs, Pt.cells, Pt.slots] at X30 l30 y30 z30 st30 hQ30
        rw [l30, y30, z30] at X30
        obtain ⟨rfl, Nq30, z30, D_23⟩ := hQ30
        have sz30 : n0 ≤ T30.heap.size := Nat.le_trans sz29 z30
        have N30 := Fr.app N29 Nq30
        obtain ⟨cq31, kq31, q31a, q31b, q31c⟩ := isOf hZ rfl (D_23.1)
        obtain ⟨_, _, ⟨T31, L31, k31, n31⟩, -, X31, ⟨Lc31, hQ31, l31, y31, z31⟩, st31⟩ := X30.virtualBack hx (y := (⟨"com/example/gabarit/gabarit/shacl/DescriptionOrder", "property", "()Z"⟩ : MethodName)) (z := (⟨"com/example/gabarit/gabarit/shacl/DescriptionOrder", "property", "()Z"⟩ : MethodName)) hown (mvT hZ (hw _ (List.mem_of_getElem? (i := 69) rfl))) (mvT hZ (hw _ (List.mem_of_getElem? (i := 70) rfl))) (notFace_of_selects (args := #[]) (mvT hZ (hw _ (List.mem_of_getElem? (i := 72) rfl)))) (mvT hZ (hw _ (List.mem_of_getElem? (i := 72) rfl))) (mvT hZ (hw _ (List.mem_of_getElem? (i := 71) rfl))) (by decide) (backOf (W := 0) (rm_prop l Z a0 hw [] o q el k f0 true [] ((((0 : Int32) + 1) + 1) - 1) T30.heap n0 sz30 D_23 (by simp)) hZ (hw _ (List.mem_of_getElem? (i := 73) rfl)) (hw _ (List.mem_of_getElem? (i := 2) rfl)) (by decide) (by decide)) q31a q31c (g := (mkF m 138 #[.val (.int p1), .val (.int md), .val (.int pr), .val (.int nr), .val (.ref o), .unset, .unset, .unset] [(.ref o)])) rfl (by rw [hml]; rfl) (Steps.refl _) (argsL := []) (rest := []) (lenOf own_pd5 rfl) rfl (by show 2 * 0 + _ ≤ _; exact Nat.le_of_eq rfl) (hb hby at_138) (fun _ _ => ⟨rfl, rfl, (by decide : 5 + 0 ≤ _), (by decide : 27 + 0 ≤ _)⟩)
        dsimp only [Pt.U, Pt.locs, Pt.cells, Pt.slots] at X31 l31 y31 z31 st31 hQ31
        rw [l31, y31, z31] at X31
        obtain ⟨rfl, Nq31, z31, D_24⟩ := hQ31
        have sz31 : n0 ≤ T31.heap.size := Nat.le_trans sz30 z31
        have N31 := Fr.app N30 Nq31
        obtain ⟨cq32, kq32, q32a, q32b, q32c⟩ := isOf hZ rfl (D_24.1)
        obtain ⟨_, _, ⟨T32, L32, k32, n32⟩, -, X32, ⟨Lc32, hQ32, l32, y32, z32⟩, st32⟩ := X31.virtualBack hx (y := (⟨"com/example/gabarit/gabarit/shacl/DescriptionOrder", "value", "()V"⟩ : MethodName)) (z := (⟨"com/example/gabarit/gabarit/shacl/DescriptionOrder", "value", "()V"⟩ : MethodName)) hown (mvT hZ (hw _ (List.mem_of_getElem? (i := 98) rfl))) (mvT hZ (hw _ (List.mem_of_getElem? (i := 99) rfl))) (notFace_of_selects (args := #[]) (mvT hZ (hw _ (List.mem_of_getElem? (i := 101) rfl)))) (mvT hZ (hw _ (List.mem_of_getElem? (i := 101) rfl))) (mvT hZ (hw _ (List.mem_of_getElem? (i := 100) rfl))) (by decide) (backOf (W := 0) (rm_val l Z a0 hw [] o q el k f0 false true [] true ((((0 : Int32) + 1) + 1) - 1) T31.heap n0 sz31 D_24 (by simp) (by simp)) hZ (hw _ (List.mem_of_getElem? (i := 102) rfl)) (hw _ (List.mem_of_getElem? (i := 2) rfl)) (by decide) (by decide)) q32a q32c (g := (mkF m 178 #[.val (.int p1), .val (.int md), .val (.int pr), .val (.int nr), .val (.ref o), .val (.int (own_b true)), .val (.int (1 : Int32)), .val (.int (1 : Int32))] [(.ref o)])) rfl (by rw [hml]; rfl) (Steps.refl _) (argsL := []) (rest := []) (lenOf own_pd0 rfl) rfl (by show 2 * 0 + _ ≤ _; exact Nat.le_of_eq rfl) (hb hby at_178) (fun _ _ => ⟨rfl, rfl, (by decide : 5 + 0 ≤ _), (by decide : 27 + 0 ≤ _)⟩)
        dsimp only [Pt.U, Pt.locs, Pt.cells, Pt.slots] at X32 l32 y32 z32 st32 hQ32
        rw [l32, y32, z32] at X32
        obtain ⟨rfl, Nq32, z32, D_25⟩ := hQ32
        have sz32 : n0 ≤ T32.heap.size := Nat.le_trans sz31 z32
        have N32 := Fr.app N31 Nq32
        obtain ⟨cq33, kq33, q33a, q33b, q33c⟩ := isOf hZ rfl (D_25.1)
        obtain ⟨_, _, ⟨T33, L33, k33, n33⟩, -, X33, ⟨Lc33, hQ33, l33, y33, z33⟩, st33⟩ := X32.virtualBack hx (y := (⟨"com/example/gabarit/gabarit/shacl/DescriptionOrder", "blankNodesOpen", "()I"⟩ : MethodName)) (z := (⟨"com/example/gabarit/gabarit/shacl/DescriptionOrder", "blankNodesOpen", "()I"⟩ : MethodName)) hown (mvT hZ (hw _ (List.mem_of_getElem? (i := 103) rfl))) (mvT hZ (hw _ (List.mem_of_getElem? (i := 104) rfl))) (notFace_of_selects (args := #[]) (mvT hZ (hw _ (List.mem_of_getElem? (i := 106) rfl)))) (mvT hZ (hw _ (List.mem_of_getElem? (i := 106) rfl))) (mvT hZ (hw _ (List.mem_of_getElem? (i := 105) rfl))) (by decide) (backOf (W := 0) (rm_bno l Z a0 hw [] o ((((0 : Int32) + 1) + 1) - 1) T32.heap n0 sz32 D_25.2.2.2.1) hZ (hw _ (List.mem_of_getElem? (i := 107) rfl)) (hw _ (List.mem_of_getElem? (i := 2) rfl)) (by decide) (by decide)) q33a q33c (g := (mkF m 190 #[.val (.int p1), .val (.int md), .val (.int pr), .val (.int nr), .val (.ref o), .val (.int (own_b true)), .val (.int (1 : Int32)), .val (.int (1 : Int32))] [(.ref o)])) rfl (by rw [hml]; rfl) (Steps.refl _) (argsL := []) (rest := []) (lenOf own_pd8 rfl) rfl (by show 2 * 0 + _ ≤ _; exact Nat.le_of_eq rfl) (hb hby at_190) (fun _ _ => ⟨rfl, rfl, (by decide : 5 + 0 ≤ _), (by decide : 27 + 0 ≤ _)⟩)
        dsimp only [Pt.U, Pt.locs, Pt.cells, Pt.slots] at X33 l33 y33 z33 st33 hQ33
        rw [l33, y33, z33] at X33
        obtain ⟨rfl, Nq33, e33⟩ := hQ33
        have N33 := Fr.app N32 Nq33
        obtain ⟨fs, hr, hrun, hended, hW, hsame⟩ := X33.leave (v := some (.int (1 : Int32))) (fun h => by rw [Bd.returns] at h; cases h)
        refine ⟨_, _, pre0 _ ?_, hrun, hended, _, _, rfl, ?_, ⟨_, rfl⟩, hW, hsame.mono (by decide) (by decide)⟩
        · show Steps p.tables e below (s₁.setTop (mkF m 0 #[.val (.int p1), .unset, .unset, .unset, .unset, .unset, .unset, .unset] [])) _
          refine pM3 _ ?_
          show Steps p.tables e below (T29.setTop (mkF m 111 #[.val (.int p1), .val (.int md), .val (.int pr), .val (.int nr), .val (.ref o), .unset, .unset, .unset] [(.int nr)])) _
          refine XS.ifYes X29.here hx rfl (pc0 := 111) (pc' := 125) rfl (hb hby at_111) rfl ((if0 _ _).trans (teq hq).1) (by decide) (by decide) ?_
          show Steps p.tables e below (T29.setTop (mkF m 125 #[.val (.int p1), .val (.int md), .val (.int pr), .val (.int nr), .val (.ref o), .unset, .unset, .unset] [])) _
          refine XS.iloadN X29.here hx rfl (hb hby at_125) rfl ?_
          show Steps p.tables e below (T29.setTop (mkF m 126 #[.val (.int p1), .val (.int md), .val (.int pr), .val (.int nr), .val (.ref o), .unset, .unset, .unset] [(.int md)])) _
          refine XS.iconst X29.here hx rfl (hb hby at_126) ?_
          show Steps p.tables e below (T29.setTop (mkF m 127 #[.val (.int p1), .val (.int md), .val (.int pr), .val (.int nr), .val (.ref o), .unset, .unset, .unset] [(.int (3 : Int32)), (.int md)])) _
          refine XS.icmpNo X29.here hx rfl (hb hby at_127) rfl (teq hm3).2 ?_
          show Steps p.tables e below (T29.setTop (mkF m 130 #[.val (.int p1), .val (.int md), .val (.int pr), .val (.int nr), .val (.ref o), .unset, .unset, .unset] [])) _
          refine XS.aload X29.here hx rfl (hb hby at_130) rfl rfl ?_
          show Steps p.tables e below (T29.setTop (mkF m 132 #[.val (.int p1), .val (.int md), .val (.int pr), .val (.int nr), .val (.ref o), .unset, .unset, .unset] [(.ref o)])) _
          refine st30.trans ?_
          show Steps p.tables e below (T30.setTop (mkF m 135 #[.val (.int p1), .val (.int md), .val (.int pr), .val (.int nr), .val (.ref o), .unset, .unset, .unset] [(.int (own_b false))])) _
          refine XS.pop X30.here hx rfl (hb hby at_135) rfl rfl ?_
          show Steps p.tables e below (T30.setTop (mkF m 136 #[.val (.int p1), .val (.int md), .val (.int pr), .val (.int nr), .val (.ref o), .unset, .unset, .unset] [])) _
          refine XS.aload X30.here hx rfl (hb hby at_136) rfl rfl ?_
          show Steps p.tables e below (T30.setTop (mkF m 138 #[.val (.int p1), .val (.int md), .val (.int pr), .val (.int nr), .val (.ref o), .unset, .unset, .unset] [(.ref o)])) _
          refine st31.trans ?_
          show Steps p.tables e below (T31.setTop (mkF m 141 #[.val (.int p1), .val (.int md), .val (.int pr), .val (.int nr), .val (.ref o), .unset, .unset, .unset] [(.int (own_b true))])) _
          refine XS.istore X31.here hx rfl (hb hby at_141) rfl (l' := #[.val (.int p1), .val (.int md), .val (.int pr), .val (.int nr), .val (.ref o), .val (.int (own_b true)), .unset, .unset]) rfl ?_
          show Steps p.tables e below (T31.setTop (mkF m 143 #[.val (.int p1), .val (.int md), .val (.int pr), .val (.int nr), .val (.ref o), .val (.int (own_b true)), .unset, .unset] [])) _
          refine XS.iloadN X31.here hx rfl (hb hby at_143) rfl ?_
          show Steps p.tables e below (T31.setTop (mkF m 144 #[.val (.int p1), .val (.int md), .val (.int pr), .val (.int nr), .val (.ref o), .val (.int (own_b true)), .unset, .unset] [(.int md)])) _
          refine XS.ifYes X31.here hx rfl (pc0 := 144) (pc' := 156) rfl (hb hby at_144) rfl ((if0 _ _).trans (feq (by rw [hm3]; decide)).2) (by decide) (by decide) ?_
          show Steps p.tables e below (T31.setTop (mkF m 156 #[.val (.int p1), .val (.int md), .val (.int pr), .val (.int nr), .val (.ref o), .val (.int (own_b true)), .unset, .unset] [])) _
          refine XS.iloadN X31.here hx rfl (hb hby at_156) rfl ?_
          show Steps p.tables e below (T31.setTop (mkF m 157 #[.val (.int p1), .val (.int md), .val (.int pr), .val (.int nr), .val (.ref o), .val (.int (own_b true)), .unset, .unset] [(.int md)])) _
          refine XS.iconst X31.here hx rfl (hb hby at_157) ?_
          show Steps p.tables e below (T31.setTop (mkF m 158 #[.val (.int p1), .val (.int md), .val (.int pr), .val (.int nr), .val (.ref o), .val (.int (own_b true)), .unset, .unset] [(.int (3 : Int32)), (.int md)])) _
          refine XS.icmpNo X31.here hx rfl (hb hby at_158) rfl (teq hm3).2 ?_
          show Steps p.tables e below (T31.setTop (mkF m 161 #[.val (.int p1), .val (.int md), .val (.int pr), .val (.int nr), .val (.ref o), .val (.int (own_b true)), .unset, .unset] [])) _
          refine XS.iconst X31.here hx rfl (hb hby at_161) ?_
          show Steps p.tables e below (T31.setTop (mkF m 162 #[.val (.int p1), .val (.int md), .val (.int pr), .val (.int nr), .val (.ref o), .val (.int (own_b true)), .unset, .unset] [(.int (1 : Int32))])) _
          refine XS.istore X31.here hx rfl (hb hby at_162) rfl (l' := #[.val (.int p1), .val (.int md), .val (.int pr), .val (.int nr), .val (.ref o), .val (.int (own_b true)), .val (.int (1 : Int32)), .unset]) rfl ?_
          show Steps p.tables e below (T31.setTop (mkF m 164 #[.val (.int p1), .val (.int md), .val (.int pr), .val (.int nr), .val (.ref o), .val (.int (own_b true)), .val (.int (1 : Int32)), .unset] [])) _
          refine XS.iconst X31.here hx rfl (hb hby at_164) ?_
          show Steps p.tables e below (T31.setTop (mkF m 165 #[.val (.int p1), .val (.int md), .val (.int pr), .val (.int nr), .val (.ref o), .val (.int (own_b true)), .val (.int (1 : Int32)), .unset] [(.int (1 : Int32))])) _
          refine XS.istore X31.here hx rfl (hb hby at_165) rfl (l' := #[.val (.int p1), .val (.int md), .val (.int pr), .val (.int nr), .val (.ref o), .val (.int (own_b true)), .val (.int (1 : Int32)), .val (.int (1 : Int32))]) rfl ?_
          show Steps p.tables e below (T31.setTop (mkF m 167 #[.val (.int p1), .val (.int md), .val (.int pr), .val (.int nr), .val (.ref o), .val (.int (own_b true)), .val (.int (1 : Int32)), .val (.int (1 : Int32))] [])) _
          refine XS.goto X31.here hx rfl (pc0 := 167) (pc' := 176) rfl (hb hby at_167) (by decide) (by decide) ?_
          show Steps p.tables e below (T31.setTop (mkF m 176 #[.val (.int p1), .val (.int md), .val (.int pr), .val (.int nr), .val (.ref o), .val (.int (own_b true)), .val (.int (1 : Int32)), .val (.int (1 : Int32))] [])) _
          refine XS.aload X31.here hx rfl (hb hby at_176) rfl rfl ?_
          show Steps p.tables e below (T31.setTop (mkF m 178 #[.val (.int p1), .val (.int md), .val (.int pr), .val (.int nr), .val (.ref o), .val (.int (own_b true)), .val (.int (1 : Int32)), .val (.int (1 : Int32))] [(.ref o)])) _
          refine st32.trans ?_
          show Steps p.tables e below (T32.setTop (mkF m 181 #[.val (.int p1), .val (.int md), .val (.int pr), .val (.int nr), .val (.ref o), .val (.int (own_b true)), .val (.int (1 : Int32)), .val (.int (1 : Int32))] [])) _
          refine XS.iload X32.here hx rfl (hb hby at_181) rfl ?_
          show Steps p.tables e below (T32.setTop (mkF m 183 #[.val (.int p1), .val (.int md), .val (.int pr), .val (.int nr), .val (.ref o), .val (.int (own_b true)), .val (.int (1 : Int32)), .val (.int (1 : Int32))] [(.int (own_b true))])) _
          refine XS.iload X32.here hx rfl (hb hby at_183) rfl ?_
          show Steps p.tables e below (T32.setTop (mkF m 185 #[.val (.int p1), .val (.int md), .val (.int pr), .val (.int nr), .val (.ref o), .val (.int (own_b true)), .val (.int (1 : Int32)), .val (.int (1 : Int32))] [(.int (1 : Int32)), (.int (own_b true))])) _
          refine XS.icmpNo X32.here hx rfl (hb hby at_185) rfl (teq rfl).2 ?_
          show Steps p.tables e below (T32.setTop (mkF m 188 #[.val (.int p1), .val (.int md), .val (.int pr), .val (.int nr), .val (.ref o), .val (.int (own_b true)), .val (.int (1 : Int32)), .val (.int (1 : Int32))] [])) _
          refine XS.aload X32.here hx rfl (hb hby at_188) rfl rfl ?_
          show Steps p.tables e below (T32.setTop (mkF m 190 #[.val (.int p1), .val (.int md), .val (.int pr), .val (.int nr), .val (.ref o), .val (.int (own_b true)), .val (.int (1 : Int32)), .val (.int (1 : Int32))] [(.ref o)])) _
          refine st33.trans ?_
          show Steps p.tables e below (T33.setTop (mkF m 193 #[.val (.int p1), .val (.int md), .val (.int pr), .val (.int nr), .val (.ref o), .val (.int (own_b true)), .val (.int (1 : Int32)), .val (.int (1 : Int32))] [(.int ((((0 : Int32) + 1) + 1) - 1))])) _
          refine XS.iload X33.here hx rfl (hb hby at_193) rfl ?_
          show Steps p.tables e below (T33.setTop (mkF m 195 #[.val (.int p1), .val (.int md), .val (.int pr), .val (.int nr), .val (.ref o), .val (.int (own_b true)), .val (.int (1 : Int32)), .val (.int (1 : Int32))] [(.int (1 : Int32)), (.int ((((0 : Int32) + 1) + 1) - 1))])) _
          refine XS.icmpNo X33.here hx rfl (hb hby at_195) rfl (teq (by decide)).2 ?_
          show Steps p.tables e below (T33.setTop (mkF m 198 #[.val (.int p1), .val (.int md), .val (.int pr), .val (.int nr), .val (.ref o), .val (.int (own_b true)), .val (.int (1 : Int32)), .val (.int (1 : Int32))] [])) _
          refine XS.iconst X33.here hx rfl (hb hby at_198) ?_
          show Steps p.tables e below (T33.setTop (mkF m 199 #[.val (.int p1), .val (.int md), .val (.int pr), .val (.int nr), .val (.ref o), .val (.int (own_b true)), .val (.int (1 : Int32)), .val (.int (1 : Int32))] [(.int (1 : Int32))])) _
          refine XS.goto X33.here hx rfl (pc0 := 199) (pc' := 203) rfl (hb hby at_199) (by decide) (by decide) ?_
          show Steps p.tables e below (T33.setTop (mkF m 203 #[.val (.int p1), .val (.int md), .val (.int pr), .val (.int nr), .val (.ref o), .val (.int (own_b true)), .val (.int (1 : Int32)), .val (.int (1 : Int32))] [(.int (1 : Int32))])) _
          exact retN X33 hx (t := .boolean) Bd.returns (by simp) (hb hby at_203) hr
        · show Q_law Z p1 h0 n0 _ T33.heap _
          rw [e33]
          exact ⟨rfl, N33⟩
      · obtain ⟨cq34, kq34, q34a, q34b, q34c⟩ := isOf hZ rfl (D_22.1)
        obtain ⟨_, _, ⟨T34, L34, k34, n34⟩, -, X34, ⟨Lc34, hQ34, l34, y34, z34⟩, st34⟩ := X29.virtualBack hx (y := (⟨"com/example/gabarit/gabarit/shacl/DescriptionOrder", "property", "()Z"⟩ : MethodName)) (z := (⟨"com/example/gabarit/gabarit/shacl/DescriptionOrder", "property", "()Z"⟩ : MethodName)) hown (mvT hZ (hw _ (List.mem_of_getElem? (i := 69) rfl))) (mvT hZ (hw _ (List.mem_of_getElem? (i := 70) rfl))) (notFace_of_selects (args := #[]) (mvT hZ (hw _ (List.mem_of_getElem? (i := 72) rfl)))) (mvT hZ (hw _ (List.mem_of_getElem? (i := 72) rfl))) (mvT hZ (hw _ (List.mem_of_getElem? (i := 71) rfl))) (by decide) (backOf (W := 0) (rm_prop l Z a0 hw [] o q el k bD_22 false [(f0, false, true)] (((0 : Int32) + 1) + 1) T29.heap n0 sz29 D_22 (by simp)) hZ (hw _ (List.mem_of_getElem? (i := 73) rfl)) (hw _ (List.mem_of_getElem? (i := 2) rfl)) (by decide) (by decide)) q34a q34c (g := (mkF m 116 #[.val (.int p1), .val (.int md), .val (.int pr), .val (.int nr), .val (.ref o), .unset, .unset, .unset] [(.ref o)])) rfl (by rw [hml]; rfl) (Steps.refl _) (argsL := []) (rest := []) (lenOf own_pd5 rfl) rfl (by show 2 * 0 + _ ≤ _; exact Nat.le_of_eq rfl) (hb hby at_116) (fun _ _ => ⟨rfl, rfl, (by decide : 5 + 0 ≤ _), (by decide : 27 + 0 ≤ _)⟩)
        dsimp only [Pt.U, Pt.locs, Pt.cells, Pt.slots] at X34 l34 y34 z34 st34 hQ34
        rw [l34, y34, z34] at X34
        obtain ⟨rfl, Nq34, z34, D_26⟩ := hQ34
        have sz34 : n0 ≤ T34.heap.size := Nat.le_trans sz29 z34
        have N34 := Fr.app N29 Nq34
        obtain ⟨cq35, kq35, q35a, q35b, q35c⟩ := isOf hZ rfl (D_26.1)
        obtain ⟨_, _, ⟨T35, L35, k35, n35⟩, -, X35, ⟨Lc35, hQ35, l35, y35, z35⟩, st35⟩ := X34.virtualBack hx (y := (⟨"com/example/gabarit/gabarit/shacl/DescriptionOrder", "value", "()V"⟩ : MethodName)) (z := (⟨"com/example/gabarit/gabarit/shacl/DescriptionOrder", "value", "()V"⟩ : MethodName)) hown (mvT hZ (hw _ (List.mem_of_getElem? (i := 98) rfl))) (mvT hZ (hw _ (List.mem_of_getElem? (i := 99) rfl))) (notFace_of_selects (args := #[]) (mvT hZ (hw _ (List.mem_of_getElem? (i := 101) rfl)))) (mvT hZ (hw _ (List.mem_of_getElem? (i := 101) rfl))) (mvT hZ (hw _ (List.mem_of_getElem? (i := 100) rfl))) (by decide) (backOf (W := 0) (rm_val l Z a0 hw [] o q el k bD_22 false true [(f0, false, true)] true (((0 : Int32) + 1) + 1) T34.heap n0 sz34 D_26 (by simp) (by simp)) hZ (hw _ (List.mem_of_getElem? (i := 102) rfl)) (hw _ (List.mem_of_getElem? (i := 2) rfl)) (by decide) (by decide)) q35a q35c (g := (mkF m 122 #[.val (.int p1), .val (.int md), .val (.int pr), .val (.int nr), .val (.ref o), .unset, .unset, .unset] [(.ref o)])) rfl (by rw [hml]; rfl) (Steps.refl _) (argsL := []) (rest := []) (lenOf own_pd0 rfl) rfl (by show 2 * 0 + _ ≤ _; exact Nat.le_of_eq rfl) (hb hby at_122) (fun _ _ => ⟨rfl, rfl, (by decide : 5 + 0 ≤ _), (by decide : 27 + 0 ≤ _)⟩)
        dsimp only [Pt.U, Pt.locs, Pt.cells, Pt.slots] at X35 l35 y35 z35 st35 hQ35
        rw [l35, y35, z35] at X35
        obtain ⟨rfl, Nq35, z35, D_27⟩ := hQ35
        have sz35 : n0 ≤ T35.heap.size := Nat.le_trans sz34 z35
        have N35 := Fr.app N34 Nq35
        obtain ⟨cq36, kq36, q36a, q36b, q36c⟩ := isOf hZ rfl (D_27.1)
        obtain ⟨_, _, ⟨T36, L36, k36, n36⟩, -, X36, ⟨Lc36, hQ36, l36, y36, z36⟩, st36⟩ := X35.virtualBack hx (y := (⟨"com/example/gabarit/gabarit/shacl/DescriptionOrder", "endBlankNode", "()Z"⟩ : MethodName)) (z := (⟨"com/example/gabarit/gabarit/shacl/DescriptionOrder", "endBlankNode", "()Z"⟩ : MethodName)) hown (mvT hZ (hw _ (List.mem_of_getElem? (i := 109) rfl))) (mvT hZ (hw _ (List.mem_of_getElem? (i := 110) rfl))) (notFace_of_selects (args := #[]) (mvT hZ (hw _ (List.mem_of_getElem? (i := 112) rfl)))) (mvT hZ (hw _ (List.mem_of_getElem? (i := 112) rfl))) (mvT hZ (hw _ (List.mem_of_getElem? (i := 111) rfl))) (by decide) (backOf (W := 0) (rm_ebn l Z a0 hw [] o q el k bD_22 true [(f0, false, true)] (((0 : Int32) + 1) + 1) T35.heap n0 sz35 D_27 (by simp)) hZ (hw _ (List.mem_of_getElem? (i := 113) rfl)) (hw _ (List.mem_of_getElem? (i := 2) rfl)) (by decide) (by decide)) q36a q36c (g := (mkF m 132 #[.val (.int p1), .val (.int md), .val (.int pr), .val (.int nr), .val (.ref o), .unset, .unset, .unset] [(.ref o)])) rfl (by rw [hml]; rfl) (Steps.refl _) (argsL := []) (rest := []) (lenOf own_pd5 rfl) rfl (by show 2 * 0 + _ ≤ _; exact Nat.le_of_eq rfl) (hb hby at_132) (fun _ _ => ⟨rfl, rfl, (by decide : 5 + 0 ≤ _), (by decide : 27 + 0 ≤ _)⟩)
        dsimp only [Pt.U, Pt.locs, Pt.cells, Pt.slots] at X36 l36 y36 z36 st36 hQ36
        rw [l36, y36, z36] at X36
        obtain ⟨rfl, Nq36, z36, D_28⟩ := hQ36
        have sz36 : n0 ≤ T36.heap.size := Nat.le_trans sz35 z36
        have N36 := Fr.app N35 Nq36
        obtain ⟨cq37, kq37, q37a, q37b, q37c⟩ := isOf hZ rfl (D_28.1)
        obtain ⟨_, _, ⟨T37, L37, k37, n37⟩, -, X37, ⟨Lc37, hQ37, l37, y37, z37⟩, st37⟩ := X36.virtualBack hx (y := (⟨"com/example/gabarit/gabarit/shacl/DescriptionOrder", "property", "()Z"⟩ : MethodName)) (z := (⟨"com/example/gabarit/gabarit/shacl/DescriptionOrder", "property", "()Z"⟩ : MethodName)) hown (mvT hZ (hw _ (List.mem_of_getElem? (i := 69) rfl))) (mvT hZ (hw _ (List.mem_of_getElem? (i := 70) rfl))) (notFace_of_selects (args := #[]) (mvT hZ (hw _ (List.mem_of_getElem? (i := 72) rfl)))) (mvT hZ (hw _ (List.mem_of_getElem? (i := 72) rfl))) (mvT hZ (hw _ (List.mem_of_getElem? (i := 71) rfl))) (by decide) (backOf (W := 0) (rm_prop l Z a0 hw [] o q el k f0 true [] ((((0 : Int32) + 1) + 1) - 1) T36.heap n0 sz36 D_28 (by simp)) hZ (hw _ (List.mem_of_getElem? (i := 73) rfl)) (hw _ (List.mem_of_getElem? (i := 2) rfl)) (by decide) (by decide)) q37a q37c (g := (mkF m 138 #[.val (.int p1), .val (.int md), .val (.int pr), .val (.int nr), .val (.ref o), .unset, .unset, .unset] [(.ref o)])) rfl (by rw [hml]; rfl) (Steps.refl _) (argsL := []) (rest := []) (lenOf own_pd5 rfl) rfl (by show 2 * 0 + _ ≤ _; exact Nat.le_of_eq rfl) (hb hby at_138) (fun _ _ => ⟨rfl, rfl, (by decide : 5 + 0 ≤ _), (by decide : 27 + 0 ≤ _)⟩)
        dsimp only [Pt.U, Pt.locs, Pt.cells, Pt.slots] at X37 l37 y37 z37 st37 hQ37
        rw [l37, y37, z37] at X37
        obtain ⟨rfl, Nq37, z37, D_29⟩ := hQ37
        have sz37 : n0 ≤ T37.heap.size := Nat.le_trans sz36 z37
        have N37 := Fr.app N36 Nq37
        obtain ⟨cq38, kq38, q38a, q38b, q38c⟩ := isOf hZ rfl (D_29.1)
        obtain ⟨_, _, ⟨T38, L38, k38, n38⟩, -, X38, ⟨Lc38, hQ38, l38, y38, z38⟩, st38⟩ := X37.virtualBack hx (y := (⟨"com/example/gabarit/gabarit/shacl/DescriptionOrder", "value", "()V"⟩ : MethodName)) (z := (⟨"com/example/gabarit/gabarit/shacl/DescriptionOrder", "value", "()V"⟩ : MethodName)) hown (mvT hZ (hw _ (List.mem_of_getElem? (i := 98) rfl))) (mvT hZ (hw _ (List.mem_of_getElem? (i := 99) rfl))) (notFace_of_selects (args := #[]) (mvT hZ (hw _ (List.mem_of_getElem? (i := 101) rfl)))) (mvT hZ (hw _ (List.mem_of_getElem? (i := 101) rfl))) (mvT hZ (hw _ (List.mem_of_getElem? (i := 100) rfl))) (by decide) (backOf (W := 0) (rm_val l Z a0 hw [] o q el k f0 false true [] true ((((0 : Int32) + 1) + 1) - 1) T37.heap n0 sz37 D_29 (by simp) (by simp)) hZ (hw _ (List.mem_of_getElem? (i := 102) rfl)) (hw _ (List.mem_of_getElem? (i := 2) rfl)) (by decide) (by decide)) q38a q38c (g := (mkF m 178 #[.val (.int p1), .val (.int md), .val (.int pr), .val (.int nr), .val (.ref o), .val (.int (own_b true)), .val (.int (1 : Int32)), .val (.int (1 : Int32))] [(.ref o)])) rfl (by rw [hml]; rfl) (Steps.refl _) (argsL := []) (rest := []) (lenOf own_pd0 rfl) rfl (by show 2 * 0 + _ ≤ _; exact Nat.le_of_eq rfl) (hb hby at_178) (fun _ _ => ⟨rfl, rfl, (by decide : 5 + 0 ≤ _), (by decide : 27 + 0 ≤ _)⟩)
        dsimp only [Pt.U, Pt.locs, Pt.cells, Pt.slots] at X38 l38 y38 z38 st38 hQ38
        rw [l38, y38, z38] at X38
        obtain ⟨rfl, Nq38, z38, D_30⟩ := hQ38
        have sz38 : n0 ≤ T38.heap.size := Nat.le_trans sz37 z38
        have N38 := Fr.app N37 Nq38
        obtain ⟨cq39, kq39, q39a, q39b, q39c⟩ := isOf hZ rfl (D_30.1)
        obtain ⟨_, _, ⟨T39, L39, k39, n39⟩, -, X39, ⟨Lc39, hQ39, l39, y39, z39⟩, st39⟩ := X38.virtualBack hx (y := (⟨"com/example/gabarit/gabarit/shacl/DescriptionOrder", "blankNodesOpen", "()I"⟩ : MethodName)) (z := (⟨"com/example/gabarit/gabarit/shacl/DescriptionOrder", "blankNodesOpen", "()I"⟩ : MethodName)) hown (mvT hZ (hw _ (List.mem_of_getElem? (i := 103) rfl))) (mvT hZ (hw _ (List.mem_of_getElem? (i := 104) rfl))) (notFace_of_selects (args := #[]) (mvT hZ (hw _ (List.mem_of_getElem? (i := 106) rfl)))) (mvT hZ (hw _ (List.mem_of_getElem? (i := 106) rfl))) (mvT hZ (hw _ (List.mem_of_getElem? (i := 105) rfl))) (by decide) (backOf (W := 0) (rm_bno l Z a0 hw [] o ((((0 : Int32) + 1) + 1) - 1) T38.heap n0 sz38 D_30.2.2.2.1) hZ (hw _ (List.mem_of_getElem? (i := 107) rfl)) (hw _ (List.mem_of_getElem? (i := 2) rfl)) (by decide) (by decide)) q39a q39c (g := (mkF m 190 #[.val (.int p1), .val (.int md), .val (.int pr), .val (.int nr), .val (.ref o), .val (.int (own_b true)), .val (.int (1 : Int32)), .val (.int (1 : Int32))] [(.ref o)])) rfl (by rw [hml]; rfl) (Steps.refl _) (argsL := []) (rest := []) (lenOf own_pd8 rfl) rfl (by show 2 * 0 + _ ≤ _; exact Nat.le_of_eq rfl) (hb hby at_190) (fun _ _ => ⟨rfl, rfl, (by decide : 5 + 0 ≤ _), (by decide : 27 + 0 ≤ _)⟩)
        dsimp only [Pt.U, Pt.locs, Pt.cells, Pt.slots] at X39 l39 y39 z39 st39 hQ39
        rw [l39, y39, z39] at X39
        obtain ⟨rfl, Nq39, e39⟩ := hQ39
        have N39 := Fr.app N38 Nq39
        obtain ⟨fs, hr, hrun, hended, hW, hsame⟩ := X39.leave (v := some (.int (1 : Int32))) (fun h => by rw [Bd.returns] at h; cases h)
        refine ⟨_, _, pre0 _ ?_, hrun, hended, _, _, rfl, ?_, ⟨_, rfl⟩, hW, hsame.mono (by decide) (by decide)⟩
        · show Steps p.tables e below (s₁.setTop (mkF m 0 #[.val (.int p1), .unset, .unset, .unset, .unset, .unset, .unset, .unset] [])) _
          refine pM3 _ ?_
          show Steps p.tables e below (T29.setTop (mkF m 111 #[.val (.int p1), .val (.int md), .val (.int pr), .val (.int nr), .val (.ref o), .unset, .unset, .unset] [(.int nr)])) _
          refine XS.ifNo X29.here hx rfl (hb hby at_111) rfl ((if0 _ _).trans (feq (by rw [hq]; decide)).1) ?_
          show Steps p.tables e below (T29.setTop (mkF m 114 #[.val (.int p1), .val (.int md), .val (.int pr), .val (.int nr), .val (.ref o), .unset, .unset, .unset] [])) _
          refine XS.aload X29.here hx rfl (hb hby at_114) rfl rfl ?_
          show Steps p.tables e below (T29.setTop (mkF m 116 #[.val (.int p1), .val (.int md), .val (.int pr), .val (.int nr), .val (.ref o), .unset, .unset, .unset] [(.ref o)])) _
          refine st34.trans ?_
          show Steps p.tables e below (T34.setTop (mkF m 119 #[.val (.int p1), .val (.int md), .val (.int pr), .val (.int nr), .val (.ref o), .unset, .unset, .unset] [(.int (own_b false))])) _
          refine XS.pop X34.here hx rfl (hb hby at_119) rfl rfl ?_
          show Steps p.tables e below (T34.setTop (mkF m 120 #[.val (.int p1), .val (.int md), .val (.int pr), .val (.int nr), .val (.ref o), .unset, .unset, .unset] [])) _
          refine XS.aload X34.here hx rfl (hb hby at_120) rfl rfl ?_
          show Steps p.tables e below (T34.setTop (mkF m 122 #[.val (.int p1), .val (.int md), .val (.int pr), .val (.int nr), .val (.ref o), .unset, .unset, .unset] [(.ref o)])) _
          refine st35.trans ?_
          show Steps p.tables e below (T35.setTop (mkF m 125 #[.val (.int p1), .val (.int md), .val (.int pr), .val (.int nr), .val (.ref o), .unset, .unset, .unset] [])) _
          refine XS.iloadN X35.here hx rfl (hb hby at_125) rfl ?_
          show Steps p.tables e below (T35.setTop (mkF m 126 #[.val (.int p1), .val (.int md), .val (.int pr), .val (.int nr), .val (.ref o), .unset, .unset, .unset] [(.int md)])) _
          refine XS.iconst X35.here hx rfl (hb hby at_126) ?_
          show Steps p.tables e below (T35.setTop (mkF m 127 #[.val (.int p1), .val (.int md), .val (.int pr), .val (.int nr), .val (.ref o), .unset, .unset, .unset] [(.int (3 : Int32)), (.int md)])) _
          refine XS.icmpNo X35.here hx rfl (hb hby at_127) rfl (teq hm3).2 ?_
          show Steps p.tables e below (T35.setTop (mkF m 130 #[.val (.int p1), .val (.int md), .val (.int pr), .val (.int nr), .val (.ref o), .unset, .unset, .unset] [])) _
          refine XS.aload X35.here hx rfl (hb hby at_130) rfl rfl ?_
          show Steps p.tables e below (T35.setTop (mkF m 132 #[.val (.int p1), .val (.int md), .val (.int pr), .val (.int nr), .val (.ref o), .unset, .unset, .unset] [(.ref o)])) _
          refine st36.trans ?_
          show Steps p.tables e below (T36.setTop (mkF m 135 #[.val (.int p1), .val (.int md), .val (.int pr), .val (.int nr), .val (.ref o), .unset, .unset, .unset] [(.int (own_b true))])) _
          refine XS.pop X36.here hx rfl (hb hby at_135) rfl rfl ?_
          show Steps p.tables e below (T36.setTop (mkF m 136 #[.val (.int p1), .val (.int md), .val (.int pr), .val (.int nr), .val (.ref o), .unset, .unset, .unset] [])) _
          refine XS.aload X36.here hx rfl (hb hby at_136) rfl rfl ?_
          show Steps p.tables e below (T36.setTop (mkF m 138 #[.val (.int p1), .val (.int md), .val (.int pr), .val (.int nr), .val (.ref o), .unset, .unset, .unset] [(.ref o)])) _
          refine st37.trans ?_
          show Steps p.tables e below (T37.setTop (mkF m 141 #[.val (.int p1), .val (.int md), .val (.int pr), .val (.int nr), .val (.ref o), .unset, .unset, .unset] [(.int (own_b true))])) _
          refine XS.istore X37.here hx rfl (hb hby at_141) rfl (l' := #[.val (.int p1), .val (.int md), .val (.int pr), .val (.int nr), .val (.ref o), .val (.int (own_b true)), .unset, .unset]) rfl ?_
          show Steps p.tables e below (T37.setTop (mkF m 143 #[.val (.int p1), .val (.int md), .val (.int pr), .val (.int nr), .val (.ref o), .val (.int (own_b true)), .unset, .unset] [])) _
          refine XS.iloadN X37.here hx rfl (hb hby at_143) rfl ?_
          show Steps p.tables e below (T37.setTop (mkF m 144 #[.val (.int p1), .val (.int md), .val (.int pr), .val (.int nr), .val (.ref o), .val (.int (own_b true)), .unset, .unset] [(.int md)])) _
          refine XS.ifYes X37.here hx rfl (pc0 := 144) (pc' := 156) rfl (hb hby at_144) rfl ((if0 _ _).trans (feq (by rw [hm3]; decide)).2) (by decide) (by decide) ?_
          show Steps p.tables e below (T37.setTop (mkF m 156 #[.val (.int p1), .val (.int md), .val (.int pr), .val (.int nr), .val (.ref o), .val (.int (own_b true)), .unset, .unset] [])) _
          refine XS.iloadN X37.here hx rfl (hb hby at_156) rfl ?_
          show Steps p.tables e below (T37.setTop (mkF m 157 #[.val (.int p1), .val (.int md), .val (.int pr), .val (.int nr), .val (.ref o), .val (.int (own_b true)), .unset, .unset] [(.int md)])) _
          refine XS.iconst X37.here hx rfl (hb hby at_157) ?_
          show Steps p.tables e below (T37.setTop (mkF m 158 #[.val (.int p1), .val (.int md), .val (.int pr), .val (.int nr), .val (.ref o), .val (.int (own_b true)), .unset, .unset] [(.int (3 : Int32)), (.int md)])) _
          refine XS.icmpNo X37.here hx rfl (hb hby at_158) rfl (teq hm3).2 ?_
          show Steps p.tables e below (T37.setTop (mkF m 161 #[.val (.int p1), .val (.int md), .val (.int pr), .val (.int nr), .val (.ref o), .val (.int (own_b true)), .unset, .unset] [])) _
          refine XS.iconst X37.here hx rfl (hb hby at_161) ?_
          show Steps p.tables e below (T37.setTop (mkF m 162 #[.val (.int p1), .val (.int md), .val (.int pr), .val (.int nr), .val (.ref o), .val (.int (own_b true)), .unset, .unset] [(.int (1 : Int32))])) _
          refine XS.istore X37.here hx rfl (hb hby at_162) rfl (l' := #[.val (.int p1), .val (.int md), .val (.int pr), .val (.int nr), .val (.ref o), .val (.int (own_b true)), .val (.int (1 : Int32)), .unset]) rfl ?_
          show Steps p.tables e below (T37.setTop (mkF m 164 #[.val (.int p1), .val (.int md), .val (.int pr), .val (.int nr), .val (.ref o), .val (.int (own_b true)), .val (.int (1 : Int32)), .unset] [])) _
          refine XS.iconst X37.here hx rfl (hb hby at_164) ?_
          show Steps p.tables e below (T37.setTop (mkF m 165 #[.val (.int p1), .val (.int md), .val (.int pr), .val (.int nr), .val (.ref o), .val (.int (own_b true)), .val (.int (1 : Int32)), .unset] [(.int (1 : Int32))])) _
          refine XS.istore X37.here hx rfl (hb hby at_165) rfl (l' := #[.val (.int p1), .val (.int md), .val (.int pr), .val (.int nr), .val (.ref o), .val (.int (own_b true)), .val (.int (1 : Int32)), .val (.int (1 : Int32))]) rfl ?_
          show Steps p.tables e below (T37.setTop (mkF m 167 #[.val (.int p1), .val (.int md), .val (.int pr), .val (.int nr), .val (.ref o), .val (.int (own_b true)), .val (.int (1 : Int32)), .val (.int (1 : Int32))] [])) _
          refine XS.goto X37.here hx rfl (pc0 := 167) (pc' := 176) rfl (hb hby at_167) (by decide) (by decide) ?_
          show Steps p.tables e below (T37.setTop (mkF m 176 #[.val (.int p1), .val (.int md), .val (.int pr), .val (.int nr), .val (.ref o), .val (.int (own_b true)), .val (.int (1 : Int32)), .val (.int (1 : Int32))] [])) _
          refine XS.aload X37.here hx rfl (hb hby at_176) rfl rfl ?_
          show Steps p.tables e below (T37.setTop (mkF m 178 #[.val (.int p1), .val (.int md), .val (.int pr), .val (.int nr), .val (.ref o), .val (.int (own_b true)), .val (.int (1 : Int32)), .val (.int (1 : Int32))] [(.ref o)])) _
          refine st38.trans ?_
          show Steps p.tables e below (T38.setTop (mkF m 181 #[.val (.int p1), .val (.int md), .val (.int pr), .val (.int nr), .val (.ref o), .val (.int (own_b true)), .val (.int (1 : Int32)), .val (.int (1 : Int32))] [])) _
          refine XS.iload X38.here hx rfl (hb hby at_181) rfl ?_
          show Steps p.tables e below (T38.setTop (mkF m 183 #[.val (.int p1), .val (.int md), .val (.int pr), .val (.int nr), .val (.ref o), .val (.int (own_b true)), .val (.int (1 : Int32)), .val (.int (1 : Int32))] [(.int (own_b true))])) _
          refine XS.iload X38.here hx rfl (hb hby at_183) rfl ?_
          show Steps p.tables e below (T38.setTop (mkF m 185 #[.val (.int p1), .val (.int md), .val (.int pr), .val (.int nr), .val (.ref o), .val (.int (own_b true)), .val (.int (1 : Int32)), .val (.int (1 : Int32))] [(.int (1 : Int32)), (.int (own_b true))])) _
          refine XS.icmpNo X38.here hx rfl (hb hby at_185) rfl (teq rfl).2 ?_
          show Steps p.tables e below (T38.setTop (mkF m 188 #[.val (.int p1), .val (.int md), .val (.int pr), .val (.int nr), .val (.ref o), .val (.int (own_b true)), .val (.int (1 : Int32)), .val (.int (1 : Int32))] [])) _
          refine XS.aload X38.here hx rfl (hb hby at_188) rfl rfl ?_
          show Steps p.tables e below (T38.setTop (mkF m 190 #[.val (.int p1), .val (.int md), .val (.int pr), .val (.int nr), .val (.ref o), .val (.int (own_b true)), .val (.int (1 : Int32)), .val (.int (1 : Int32))] [(.ref o)])) _
          refine st39.trans ?_
          show Steps p.tables e below (T39.setTop (mkF m 193 #[.val (.int p1), .val (.int md), .val (.int pr), .val (.int nr), .val (.ref o), .val (.int (own_b true)), .val (.int (1 : Int32)), .val (.int (1 : Int32))] [(.int ((((0 : Int32) + 1) + 1) - 1))])) _
          refine XS.iload X39.here hx rfl (hb hby at_193) rfl ?_
          show Steps p.tables e below (T39.setTop (mkF m 195 #[.val (.int p1), .val (.int md), .val (.int pr), .val (.int nr), .val (.ref o), .val (.int (own_b true)), .val (.int (1 : Int32)), .val (.int (1 : Int32))] [(.int (1 : Int32)), (.int ((((0 : Int32) + 1) + 1) - 1))])) _
          refine XS.icmpNo X39.here hx rfl (hb hby at_195) rfl (teq (by decide)).2 ?_
          show Steps p.tables e below (T39.setTop (mkF m 198 #[.val (.int p1), .val (.int md), .val (.int pr), .val (.int nr), .val (.ref o), .val (.int (own_b true)), .val (.int (1 : Int32)), .val (.int (1 : Int32))] [])) _
          refine XS.iconst X39.here hx rfl (hb hby at_198) ?_
          show Steps p.tables e below (T39.setTop (mkF m 199 #[.val (.int p1), .val (.int md), .val (.int pr), .val (.int nr), .val (.ref o), .val (.int (own_b true)), .val (.int (1 : Int32)), .val (.int (1 : Int32))] [(.int (1 : Int32))])) _
          refine XS.goto X39.here hx rfl (pc0 := 199) (pc' := 203) rfl (hb hby at_199) (by decide) (by decide) ?_
          show Steps p.tables e below (T39.setTop (mkF m 203 #[.val (.int p1), .val (.int md), .val (.int pr), .val (.int nr), .val (.ref o), .val (.int (own_b true)), .val (.int (1 : Int32)), .val (.int (1 : Int32))] [(.int (1 : Int32))])) _
          exact retN X39 hx (t := .boolean) Bd.returns (by simp) (hb hby at_203) hr
        · show Q_law Z p1 h0 n0 _ T39.heap _
          rw [e39]
          exact ⟨rfl, N39⟩
  · obtain ⟨cq40, kq40, q40a, q40b, q40c⟩ := isOf hZ rfl (D_1.1)
    obtain ⟨_, _, ⟨T40, L40, k40, n40⟩, -, X40, ⟨Lc40, hQ40, l40, y40, z40⟩, st40⟩ := X3.virtualBack hx (y := (⟨"com/example/gabarit/gabarit/shacl/DescriptionOrder", "property", "()Z"⟩ : MethodName)) (z := (⟨"com/example/gabarit/gabarit/shacl/DescriptionOrder", "property", "()Z"⟩ : MethodName)) hown (mvT hZ (hw _ (List.mem_of_getElem? (i := 69) rfl))) (mvT hZ (hw _ (List.mem_of_getElem? (i := 70) rfl))) (notFace_of_selects (args := #[]) (mvT hZ (hw _ (List.mem_of_getElem? (i := 72) rfl)))) (mvT hZ (hw _ (List.mem_of_getElem? (i := 72) rfl))) (mvT hZ (hw _ (List.mem_of_getElem? (i := 71) rfl))) (by decide) (backOf (W := 0) (rm_prop l Z a0 hw [] o q el k f0 false [] ((0 : Int32) + 1) T3.heap n0 sz3 D_1 (by simp)) hZ (hw _ (List.mem_of_getElem? (i := 73) rfl)) (hw _ (List.mem_of_getElem? (i := 2) rfl)) (by decide) (by decide)) q40a q40c (g := (mkF m 53 #[.val (.int p1), .val (.int md), .val (.int pr), .val (.int nr), .val (.ref o), .unset, .unset, .unset] [(.ref o)])) rfl (by rw [hml]; rfl) (Steps.refl _) (argsL := []) (rest := []) (lenOf own_pd5 rfl) rfl (by show 2 * 0 + _ ≤ _; exact Nat.le_of_eq rfl) (hb hby at_53) (fun _ _ => ⟨rfl, rfl, (by decide : 4 + 0 ≤ _), (by decide : 25 + 0 ≤ _)⟩)
    dsimp only [Pt.U, Pt.locs, Pt.cells, Pt.slots] at X40 l40 y40 z40 st40 hQ40
    rw [l40, y40, z40] at X40
    obtain ⟨rfl, Nq40, z40, D_31⟩ := hQ40
    have sz40 : n0 ≤ T40.heap.size := Nat.le_trans sz3 z40
    have N40 := Fr.app N3 Nq40
    obtain ⟨cq41, kq41, q41a, q41b, q41c⟩ := isOf hZ rfl (D_31.1)
    obtain ⟨_, _, ⟨T41, L41, k41, n41⟩, -, X41, ⟨Lc41, hQ41, l41, y41, z41⟩, st41⟩ := X40.virtualBack hx (y := (⟨"com/example/gabarit/gabarit/shacl/DescriptionOrder", "value", "()V"⟩ : MethodName)) (z := (⟨"com/example/gabarit/gabarit/shacl/DescriptionOrder", "value", "()V"⟩ : MethodName)) hown (mvT hZ (hw _ (List.mem_of_getElem? (i := 98) rfl))) (mvT hZ (hw _ (List.mem_of_getElem? (i := 99) rfl))) (notFace_of_selects (args := #[]) (mvT hZ (hw _ (List.mem_of_getElem? (i := 101) rfl)))) (mvT hZ (hw _ (List.mem_of_getElem? (i := 101) rfl))) (mvT hZ (hw _ (List.mem_of_getElem? (i := 100) rfl))) (by decide) (backOf (W := 0) (rm_val l Z a0 hw [] o q el k f0 false true [] true ((0 : Int32) + 1) T40.heap n0 sz40 D_31 (by simp) (by simp)) hZ (hw _ (List.mem_of_getElem? (i := 102) rfl)) (hw _ (List.mem_of_getElem? (i := 2) rfl)) (by decide) (by decide)) q41a q41c (g := (mkF m 59 #[.val (.int p1), .val (.int md), .val (.int pr), .val (.int nr), .val (.ref o), .unset, .unset, .unset] [(.ref o)])) rfl (by rw [hml]; rfl) (Steps.refl _) (argsL := []) (rest := []) (lenOf own_pd0 rfl) rfl (by show 2 * 0 + _ ≤ _; exact Nat.le_of_eq rfl) (hb hby at_59) (fun _ _ => ⟨rfl, rfl, (by decide : 4 + 0 ≤ _), (by decide : 25 + 0 ≤ _)⟩)
    dsimp only [Pt.U, Pt.locs, Pt.cells, Pt.slots] at X41 l41 y41 z41 st41 hQ41
    rw [l41, y41, z41] at X41
    obtain ⟨rfl, Nq41, z41, D_32⟩ := hQ41
    have sz41 : n0 ≤ T41.heap.size := Nat.le_trans sz40 z41
    have N41 := Fr.app N40 Nq41
    have pB : ∀ tt, Steps p.tables e below (T41.setTop (mkF m 62 #[.val (.int p1), .val (.int md), .val (.int pr), .val (.int nr), .val (.ref o), .unset, .unset, .unset] [])) tt → Steps p.tables e below (s₁.setTop (mkF m 0 #[.val (.int p1), .unset, .unset, .unset, .unset, .unset, .unset, .unset] [])) tt := by
      intro tt kt
      show Steps p.tables e below (s₁.setTop (mkF m 0 #[.val (.int p1), .unset, .unset, .unset, .unset, .unset, .unset, .unset] [])) _
      refine pA _ ?_
      show Steps p.tables e below (T3.setTop (mkF m 48 #[.val (.int p1), .val (.int md), .val (.int pr), .val (.int nr), .val (.ref o), .unset, .unset, .unset] [(.int pr)])) _
      refine XS.ifNo X3.here hx rfl (hb hby at_48) rfl ((if0 _ _).trans (feq (by rw [hp]; decide)).1) ?_
      show Steps p.tables e below (T3.setTop (mkF m 51 #[.val (.int p1), .val (.int md), .val (.int pr), .val (.int nr), .val (.ref o), .unset, .unset, .unset] [])) _
      refine XS.aload X3.here hx rfl (hb hby at_51) rfl rfl ?_
      show Steps p.tables e below (T3.setTop (mkF m 53 #[.val (.int p1), .val (.int md), .val (.int pr), .val (.int nr), .val (.ref o), .unset, .unset, .unset] [(.ref o)])) _
      refine st40.trans ?_
      show Steps p.tables e below (T40.setTop (mkF m 56 #[.val (.int p1), .val (.int md), .val (.int pr), .val (.int nr), .val (.ref o), .unset, .unset, .unset] [(.int (own_b false))])) _
      refine XS.pop X40.here hx rfl (hb hby at_56) rfl rfl ?_
      show Steps p.tables e below (T40.setTop (mkF m 57 #[.val (.int p1), .val (.int md), .val (.int pr), .val (.int nr), .val (.ref o), .unset, .unset, .unset] [])) _
      refine XS.aload X40.here hx rfl (hb hby at_57) rfl rfl ?_
      show Steps p.tables e below (T40.setTop (mkF m 59 #[.val (.int p1), .val (.int md), .val (.int pr), .val (.int nr), .val (.ref o), .unset, .unset, .unset] [(.ref o)])) _
      refine st41.trans ?_
      exact kt
    rcases hmd with hm0 | hm1 | hm2 | hm3
    · have pM0 : ∀ tt, Steps p.tables e below (T41.setTop (mkF m 125 #[.val (.int p1), .val (.int md), .val (.int pr), .val (.int nr), .val (.ref o), .unset, .unset, .unset] [])) tt → Steps p.tables e below (s₁.setTop (mkF m 0 #[.val (.int p1), .unset, .unset, .unset, .unset, .unset, .unset, .unset] [])) tt := by
        intro tt kt
        show Steps p.tables e below (s₁.setTop (mkF m 0 #[.val (.int p1), .unset, .unset, .unset, .unset, .unset, .unset, .unset] [])) _
        refine pB _ ?_
        show Steps p.tables e below (T41.setTop (mkF m 62 #[.val (.int p1), .val (.int md), .val (.int pr), .val (.int nr), .val (.ref o), .unset, .unset, .unset] [])) _
        refine XS.iloadN X41.here hx rfl (hb hby at_62) rfl ?_
        show Steps p.tables e below (T41.setTop (mkF m 63 #[.val (.int p1), .val (.int md), .val (.int pr), .val (.int nr), .val (.ref o), .unset, .unset, .unset] [(.int md)])) _
        refine XS.iconst X41.here hx rfl (hb hby at_63) ?_
        show Steps p.tables e below (T41.setTop (mkF m 64 #[.val (.int p1), .val (.int md), .val (.int pr), .val (.int nr), .val (.ref o), .unset, .unset, .unset] [(.int (1 : Int32)), (.int md)])) _
        refine XS.icmpNo X41.here hx rfl (hb hby at_64) rfl (feq (by rw [hm0]; decide)).1 ?_
        show Steps p.tables e below (T41.setTop (mkF m 67 #[.val (.int p1), .val (.int md), .val (.int pr), .val (.int nr), .val (.ref o), .unset, .unset, .unset] [])) _
        refine XS.iloadN X41.here hx rfl (hb hby at_67) rfl ?_
        show Steps p.tables e below (T41.setTop (mkF m 68 #[.val (.int p1), .val (.int md), .val (.int pr), .val (.int nr), .val (.ref o), .unset, .unset, .unset] [(.int md)])) _
        refine XS.iconst X41.here hx rfl (hb hby at_68) ?_
        show Steps p.tables e below (T41.setTop (mkF m 69 #[.val (.int p1), .val (.int md), .val (.int pr), .val (.int nr), .val (.ref o), .unset, .unset, .unset] [(.int (3 : Int32)), (.int md)])) _
        refine XS.icmpYes X41.here hx rfl (pc0 := 69) (pc' := 84) rfl (hb hby at_69) rfl (feq (by rw [hm0]; decide)).2 (by decide) (by decide) ?_
        show Steps p.tables e below (T41.setTop (mkF m 84 #[.val (.int p1), .val (.int md), .val (.int pr), .val (.int nr), .val (.ref o), .unset, .unset, .unset] [])) _
        refine XS.iloadN X41.here hx rfl (hb hby at_84) rfl ?_
        show Steps p.tables e below (T41.setTop (mkF m 85 #[.val (.int p1), .val (.int md), .val (.int pr), .val (.int nr), .val (.ref o), .unset, .unset, .unset] [(.int md)])) _
        refine XS.iconst X41.here hx rfl (hb hby at_85) ?_
        show Steps p.tables e below (T41.setTop (mkF m 86 #[.val (.int p1), .val (.int md), .val (.int pr), .val (.int nr), .val (.ref o), .unset, .unset, .unset] [(.int (2 : Int32)), (.int md)])) _
        refine XS.icmpYes X41.here hx rfl (pc0 := 86) (pc' := 106) rfl (hb hby at_86) rfl (feq (by rw [hm0]; decide)).2 (by decide) (by decide) ?_
        show Steps p.tables e below (T41.setTop (mkF m 106 #[.val (.int p1), .val (.int md), .val (.int pr), .val (.int nr), .val (.ref o), .unset, .unset, .unset] [])) _
        refine XS.iloadN X41.here hx rfl (hb hby at_106) rfl ?_
        show Steps p.tables e below (T41.setTop (mkF m 107 #[.val (.int p1), .val (.int md), .val (.int pr), .val (.int nr), .val (.ref o), .unset, .unset, .unset] [(.int md)])) _
        refine XS.ifYes X41.here hx rfl (pc0 := 107) (pc' := 125) rfl (hb hby at_107) rfl ((if0 _ _).trans (teq hm0).1) (by decide) (by decide) ?_
        exact kt
      obtain ⟨cq42, kq42, q42a, q42b, q42c⟩ := isOf hZ rfl (D_32.1)
      obtain ⟨_, _, ⟨T42, L42, k42, n42⟩, -, X42, ⟨Lc42, hQ42, l42, y42, z42⟩, st42⟩ := X41.virtualBack hx (y := (⟨"com/example/gabarit/gabarit/shacl/DescriptionOrder", "property", "()Z"⟩ : MethodName)) (z := (⟨"com/example/gabarit/gabarit/shacl/DescriptionOrder", "property", "()Z"⟩ : MethodName)) hown (mvT hZ (hw _ (List.mem_of_getElem? (i := 69) rfl))) (mvT hZ (hw _ (List.mem_of_getElem? (i := 70) rfl))) (notFace_of_selects (args := #[]) (mvT hZ (hw _ (List.mem_of_getElem? (i := 72) rfl)))) (mvT hZ (hw _ (List.mem_of_getElem? (i := 72) rfl))) (mvT hZ (hw _ (List.mem_of_getElem? (i := 71) rfl))) (by decide) (backOf (W := 0) (rm_prop l Z a0 hw [] o q el k f0 true [] ((0 : Int32) + 1) T41.heap n0 sz41 D_32 (by simp)) hZ (hw _ (List.mem_of_getElem? (i := 73) rfl)) (hw _ (List.mem_of_getElem? (i := 2) rfl)) (by decide) (by decide)) q42a q42c (g := (mkF m 138 #[.val (.int p1), .val (.int md), .val (.int pr), .val (.int nr), .val (.ref o), .unset, .unset, .unset] [(.ref o)])) rfl (by rw [hml]; rfl) (Steps.refl _) (argsL := []) (rest := []) (lenOf own_pd5 rfl) rfl (by show 2 * 0 + _ ≤ _; exact Nat.le_of_eq rfl) (hb hby at_138) (fun _ _ => ⟨rfl, rfl, (by decide : 4 + 0 ≤ _), (by decide : 25 + 0 ≤ _)⟩)
      dsimp only [Pt.U, Pt.locs, Pt.cells, Pt.slots] at X42 l42 y42 z42 st42 hQ42
      rw [l42, y42, z42] at X42
      obtain ⟨rfl, Nq42, z42, D_33⟩ := hQ42
      have sz42 : n0 ≤ T42.heap.size := Nat.le_trans sz41 z42
      have N42 := Fr.app N41 Nq42
      obtain ⟨cq43, kq43, q43a, q43b, q43c⟩ := isOf hZ rfl (D_33.1)
      obtain ⟨_, _, ⟨T43, L43, k43, n43⟩, -, X43, ⟨Lc43, hQ43, l43, y43, z43⟩, st43⟩ := X42.virtualBack hx (y := (⟨"com/example/gabarit/gabarit/shacl/DescriptionOrder", "value", "()V"⟩ : MethodName)) (z := (⟨"com/example/gabarit/gabarit/shacl/DescriptionOrder", "value", "()V"⟩ : MethodName)) hown (mvT hZ (hw _ (List.mem_of_getElem? (i := 98) rfl))) (mvT hZ (hw _ (List.mem_of_getElem? (i := 99) rfl))) (notFace_of_selects (args := #[]) (mvT hZ (hw _ (List.mem_of_getElem? (i := 101) rfl)))) (mvT hZ (hw _ (List.mem_of_getElem? (i := 101) rfl))) (mvT hZ (hw _ (List.mem_of_getElem? (i := 100) rfl))) (by decide) (backOf (W := 0) (rm_val l Z a0 hw [] o q el k f0 false true [] true ((0 : Int32) + 1) T42.heap n0 sz42 D_33 (by simp) (by simp)) hZ (hw _ (List.mem_of_getElem? (i := 102) rfl)) (hw _ (List.mem_of_getElem? (i := 2) rfl)) (by decide) (by decide)) q43a q43c (g := (mkF m 178 #[.val (.int p1), .val (.int md), .val (.int pr), .val (.int nr), .val (.ref o), .val (.int (own_b true)), .val (.int pr), .val (.int (1 : Int32))] [(.ref o)])) rfl (by rw [hml]; rfl) (Steps.refl _) (argsL := []) (rest := []) (lenOf own_pd0 rfl) rfl (by show 2 * 0 + _ ≤ _; exact Nat.le_of_eq rfl) (hb hby at_178) (fun _ _ => ⟨rfl, rfl, (by decide : 4 + 0 ≤ _), (by decide : 25 + 0 ≤ _)⟩)
      dsimp only [Pt.U, Pt.locs, Pt.cells, Pt.slots] at X43 l43 y43 z43 st43 hQ43
      rw [l43, y43, z43] at X43
      obtain ⟨rfl, Nq43, z43, D_34⟩ := hQ43
      have sz43 : n0 ≤ T43.heap.size := Nat.le_trans sz42 z43
      have N43 := Fr.app N42 Nq43
      obtain ⟨cq44, kq44, q44a, q44b, q44c⟩ := isOf hZ rfl (D_34.1)
      obtain ⟨_, _, ⟨T44, L44, k44, n44⟩, -, X44, ⟨Lc44, hQ44, l44, y44, z44⟩, st44⟩ := X43.virtualBack hx (y := (⟨"com/example/gabarit/gabarit/shacl/DescriptionOrder", "blankNodesOpen", "()I"⟩ : MethodName)) (z := (⟨"com/example/gabarit/gabarit/shacl/DescriptionOrder", "blankNodesOpen", "()I"⟩ : MethodName)) hown (mvT hZ (hw _ (List.mem_of_getElem? (i := 103) rfl))) (mvT hZ (hw _ (List.mem_of_getElem? (i := 104) rfl))) (notFace_of_selects (args := #[]) (mvT hZ (hw _ (List.mem_of_getElem? (i := 106) rfl)))) (mvT hZ (hw _ (List.mem_of_getElem? (i := 106) rfl))) (mvT hZ (hw _ (List.mem_of_getElem? (i := 105) rfl))) (by decide) (backOf (W := 0) (rm_bno l Z a0 hw [] o ((0 : Int32) + 1) T43.heap n0 sz43 D_34.2.2.2.1) hZ (hw _ (List.mem_of_getElem? (i := 107) rfl)) (hw _ (List.mem_of_getElem? (i := 2) rfl)) (by decide) (by decide)) q44a q44c (g := (mkF m 190 #[.val (.int p1), .val (.int md), .val (.int pr), .val (.int nr), .val (.ref o), .val (.int (own_b true)), .val (.int pr), .val (.int (1 : Int32))] [(.ref o)])) rfl (by rw [hml]; rfl) (Steps.refl _) (argsL := []) (rest := []) (lenOf own_pd8 rfl) rfl (by show 2 * 0 + _ ≤ _; exact Nat.le_of_eq rfl) (hb hby at_190) (fun _ _ => ⟨rfl, rfl, (by decide : 4 + 0 ≤ _), (by decide : 25 + 0 ≤ _)⟩)
      dsimp only [Pt.U, Pt.locs, Pt.cells, Pt.slots] at X44 l44 y44 z44 st44 hQ44
      rw [l44, y44, z44] at X44
      obtain ⟨rfl, Nq44, e44⟩ := hQ44
      have N44 := Fr.app N43 Nq44
      obtain ⟨fs, hr, hrun, hended, hW, hsame⟩ := X44.leave (v := some (.int (1 : Int32))) (fun h => by rw [Bd.returns] at h; cases h)
      refine ⟨_, _, pre0 _ ?_, hrun, hended, _, _, rfl, ?_, ⟨_, rfl⟩, hW, hsame.mono (by decide) (by decide)⟩
      · show Steps p.tables e below (s₁.setTop (mkF m 0 #[.val (.int p1), .unset, .unset, .unset, .unset, .unset, .unset, .unset] [])) _
        refine pM0 _ ?_
        show Steps p.tables e below (T41.setTop (mkF m 125 #[.val (.int p1), .val (.int md), .val (.int pr), .val (.int nr), .val (.ref o), .unset, .unset, .unset] [])) _
        refine XS.iloadN X41.here hx rfl (hb hby at_125) rfl ?_
        show Steps p.tables e below (T41.setTop (mkF m 126 #[.val (.int p1), .val (.int md), .val (.int pr), .val (.int nr), .val (.ref o), .unset, .unset, .unset] [(.int md)])) _
        refine XS.iconst X41.here hx rfl (hb hby at_126) ?_
        show Steps p.tables e below (T41.setTop (mkF m 127 #[.val (.int p1), .val (.int md), .val (.int pr), .val (.int nr), .val (.ref o), .unset, .unset, .unset] [(.int (3 : Int32)), (.int md)])) _
        refine XS.icmpYes X41.here hx rfl (pc0 := 127) (pc' := 136) rfl (hb hby at_127) rfl (feq (by rw [hm0]; decide)).2 (by decide) (by decide) ?_
        show Steps p.tables e below (T41.setTop (mkF m 136 #[.val (.int p1), .val (.int md), .val (.int pr), .val (.int nr), .val (.ref o), .unset, .unset, .unset] [])) _
        refine XS.aload X41.here hx rfl (hb hby at_136) rfl rfl ?_
        show Steps p.tables e below (T41.setTop (mkF m 138 #[.val (.int p1), .val (.int md), .val (.int pr), .val (.int nr), .val (.ref o), .unset, .unset, .unset] [(.ref o)])) _
        refine st42.trans ?_
        show Steps p.tables e below (T42.setTop (mkF m 141 #[.val (.int p1), .val (.int md), .val (.int pr), .val (.int nr), .val (.ref o), .unset, .unset, .unset] [(.int (own_b true))])) _
        refine XS.istore X42.here hx rfl (hb hby at_141) rfl (l' := #[.val (.int p1), .val (.int md), .val (.int pr), .val (.int nr), .val (.ref o), .val (.int (own_b true)), .unset, .unset]) rfl ?_
        show Steps p.tables e below (T42.setTop (mkF m 143 #[.val (.int p1), .val (.int md), .val (.int pr), .val (.int nr), .val (.ref o), .val (.int (own_b true)), .unset, .unset] [])) _
        refine XS.iloadN X42.here hx rfl (hb hby at_143) rfl ?_
        show Steps p.tables e below (T42.setTop (mkF m 144 #[.val (.int p1), .val (.int md), .val (.int pr), .val (.int nr), .val (.ref o), .val (.int (own_b true)), .unset, .unset] [(.int md)])) _
        refine XS.ifNo X42.here hx rfl (hb hby at_144) rfl ((if0 _ _).trans (teq hm0).2) ?_
        show Steps p.tables e below (T42.setTop (mkF m 147 #[.val (.int p1), .val (.int md), .val (.int pr), .val (.int nr), .val (.ref o), .val (.int (own_b true)), .unset, .unset] [])) _
        refine XS.iloadN X42.here hx rfl (hb hby at_147) rfl ?_
        show Steps p.tables e below (T42.setTop (mkF m 148 #[.val (.int p1), .val (.int md), .val (.int pr), .val (.int nr), .val (.ref o), .val (.int (own_b true)), .unset, .unset] [(.int pr)])) _
        refine XS.istore X42.here hx rfl (hb hby at_148) rfl (l' := #[.val (.int p1), .val (.int md), .val (.int pr), .val (.int nr), .val (.ref o), .val (.int (own_b true)), .val (.int pr), .unset]) rfl ?_
        show Steps p.tables e below (T42.setTop (mkF m 150 #[.val (.int p1), .val (.int md), .val (.int pr), .val (.int nr), .val (.ref o), .val (.int (own_b true)), .val (.int pr), .unset] [])) _
        refine XS.iconst X42.here hx rfl (hb hby at_150) ?_
        show Steps p.tables e below (T42.setTop (mkF m 151 #[.val (.int p1), .val (.int md), .val (.int pr), .val (.int nr), .val (.ref o), .val (.int (own_b true)), .val (.int pr), .unset] [(.int (1 : Int32))])) _
        refine XS.istore X42.here hx rfl (hb hby at_151) rfl (l' := #[.val (.int p1), .val (.int md), .val (.int pr), .val (.int nr), .val (.ref o), .val (.int (own_b true)), .val (.int pr), .val (.int (1 : Int32))]) rfl ?_
        show Steps p.tables e below (T42.setTop (mkF m 153 #[.val (.int p1), .val (.int md), .val (.int pr), .val (.int nr), .val (.ref o), .val (.int (own_b true)), .val (.int pr), .val (.int (1 : Int32))] [])) _
        refine XS.goto X42.here hx rfl (pc0 := 153) (pc' := 176) rfl (hb hby at_153) (by decide) (by decide) ?_
        show Steps p.tables e below (T42.setTop (mkF m 176 #[.val (.int p1), .val (.int md), .val (.int pr), .val (.int nr), .val (.ref o), .val (.int (own_b true)), .val (.int pr), .val (.int (1 : Int32))] [])) _
        refine XS.aload X42.here hx rfl (hb hby at_176) rfl rfl ?_
        show Steps p.tables e below (T42.setTop (mkF m 178 #[.val (.int p1), .val (.int md), .val (.int pr), .val (.int nr), .val (.ref o), .val (.int (own_b true)), .val (.int pr), .val (.int (1 : Int32))] [(.ref o)])) _
        refine st43.trans ?_
        show Steps p.tables e below (T43.setTop (mkF m 181 #[.val (.int p1), .val (.int md), .val (.int pr), .val (.int nr), .val (.ref o), .val (.int (own_b true)), .val (.int pr), .val (.int (1 : Int32))] [])) _
        refine XS.iload X43.here hx rfl (hb hby at_181) rfl ?_
        show Steps p.tables e below (T43.setTop (mkF m 183 #[.val (.int p1), .val (.int md), .val (.int pr), .val (.int nr), .val (.ref o), .val (.int (own_b true)), .val (.int pr), .val (.int (1 : Int32))] [(.int (own_b true))])) _
        refine XS.iload X43.here hx rfl (hb hby at_183) rfl ?_
        show Steps p.tables e below (T43.setTop (mkF m 185 #[.val (.int p1), .val (.int md), .val (.int pr), .val (.int nr), .val (.ref o), .val (.int (own_b true)), .val (.int pr), .val (.int (1 : Int32))] [(.int pr), (.int (own_b true))])) _
        refine XS.icmpNo X43.here hx rfl (hb hby at_185) rfl (teq hp.symm).2 ?_
        show Steps p.tables e below (T43.setTop (mkF m 188 #[.val (.int p1), .val (.int md), .val (.int pr), .val (.int nr), .val (.ref o), .val (.int (own_b true)), .val (.int pr), .val (.int (1 : Int32))] [])) _
        refine XS.aload X43.here hx rfl (hb hby at_188) rfl rfl ?_
        show Steps p.tables e below (T43.setTop (mkF m 190 #[.val (.int p1), .val (.int md), .val (.int pr), .val (.int nr), .val (.ref o), .val (.int (own_b true)), .val (.int pr), .val (.int (1 : Int32))] [(.ref o)])) _
        refine st44.trans ?_
        show Steps p.tables e below (T44.setTop (mkF m 193 #[.val (.int p1), .val (.int md), .val (.int pr), .val (.int nr), .val (.ref o), .val (.int (own_b true)), .val (.int pr), .val (.int (1 : Int32))] [(.int ((0 : Int32) + 1))])) _
        refine XS.iload X44.here hx rfl (hb hby at_193) rfl ?_
        show Steps p.tables e below (T44.setTop (mkF m 195 #[.val (.int p1), .val (.int md), .val (.int pr), .val (.int nr), .val (.ref o), .val (.int (own_b true)), .val (.int pr), .val (.int (1 : Int32))] [(.int (1 : Int32)), (.int ((0 : Int32) + 1))])) _
        refine XS.icmpNo X44.here hx rfl (hb hby at_195) rfl (teq (by decide)).2 ?_
        show Steps p.tables e below (T44.setTop (mkF m 198 #[.val (.int p1), .val (.int md), .val (.int pr), .val (.int nr), .val (.ref o), .val (.int (own_b true)), .val (.int pr), .val (.int (1 : Int32))] [])) _
        refine XS.iconst X44.here hx rfl (hb hby at_198) ?_
        show Steps p.tables e below (T44.setTop (mkF m 199 #[.val (.int p1), .val (.int md), .val (.int pr), .val (.int nr), .val (.ref o), .val (.int (own_b true)), .val (.int pr), .val (.int (1 : Int32))] [(.int (1 : Int32))])) _
        refine XS.goto X44.here hx rfl (pc0 := 199) (pc' := 203) rfl (hb hby at_199) (by decide) (by decide) ?_
        show Steps p.tables e below (T44.setTop (mkF m 203 #[.val (.int p1), .val (.int md), .val (.int pr), .val (.int nr), .val (.ref o), .val (.int (own_b true)), .val (.int pr), .val (.int (1 : Int32))] [(.int (1 : Int32))])) _
        exact retN X44 hx (t := .boolean) Bd.returns (by simp) (hb hby at_203) hr
      · show Q_law Z p1 h0 n0 _ T44.heap _
        rw [e44]
        exact ⟨rfl, N44⟩
    · obtain ⟨cq45, kq45, q45a, q45b, q45c⟩ := isOf hZ rfl (D_32.1)
      obtain ⟨_, _, ⟨T45, L45, k45, n45⟩, -, X45, ⟨Lc45, hQ45, l45, y45, z45⟩, st45⟩ := X41.virtualBack hx (y := (⟨"com/example/gabarit/gabarit/shacl/DescriptionOrder", "property", "()Z"⟩ : MethodName)) (z := (⟨"com/example/gabarit/gabarit/shacl/DescriptionOrder", "property", "()Z"⟩ : MethodName)) hown (mvT hZ (hw _ (List.mem_of_getElem? (i := 69) rfl))) (mvT hZ (hw _ (List.mem_of_getElem? (i := 70) rfl))) (notFace_of_selects (args := #[]) (mvT hZ (hw _ (List.mem_of_getElem? (i := 72) rfl)))) (mvT hZ (hw _ (List.mem_of_getElem? (i := 72) rfl))) (mvT hZ (hw _ (List.mem_of_getElem? (i := 71) rfl))) (by decide) (backOf (W := 0) (rm_prop l Z a0 hw [] o q el k f0 true [] ((0 : Int32) + 1) T41.heap n0 sz41 D_32 (by simp)) hZ (hw _ (List.mem_of_getElem? (i := 73) rfl)) (hw _ (List.mem_of_getElem? (i := 2) rfl)) (by decide) (by decide)) q45a q45c (g := (mkF m 74 #[.val (.int p1), .val (.int md), .val (.int pr), .val (.int nr), .val (.ref o), .unset, .unset, .unset] [(.ref o)])) rfl (by rw [hml]; rfl) (Steps.refl _) (argsL := []) (rest := []) (lenOf own_pd5 rfl) rfl (by show 2 * 0 + _ ≤ _; exact Nat.le_of_eq rfl) (hb hby at_74) (fun _ _ => ⟨rfl, rfl, (by decide : 4 + 0 ≤ _), (by decide : 25 + 0 ≤ _)⟩)
      dsimp only [Pt.U, Pt.locs, Pt.cells, Pt.slots] at X45 l45 y45 z45 st45 hQ45
      rw [l45, y45, z45] at X45
      obtain ⟨rfl, Nq45, z45, D_35⟩ := hQ45
      have sz45 : n0 ≤ T45.heap.size := Nat.le_trans sz41 z45
      have N45 := Fr.app N41 Nq45
      obtain ⟨cq46, kq46, q46a, q46b, q46c⟩ := isOf hZ rfl (D_35.1)
      obtain ⟨_, _, ⟨T46, L46, k46, n46⟩, -, X46, ⟨Lc46, hQ46, l46, y46, z46⟩, st46⟩ := X45.virtualBack hx (y := (⟨"com/example/gabarit/gabarit/shacl/DescriptionOrder", "beginBlankNode", "()Z"⟩ : MethodName)) (z := (⟨"com/example/gabarit/gabarit/shacl/DescriptionOrder", "beginBlankNode", "()Z"⟩ : MethodName)) hown (mvT hZ (hw _ (List.mem_of_getElem? (i := 28) rfl))) (mvT hZ (hw _ (List.mem_of_getElem? (i := 29) rfl))) (notFace_of_selects (args := #[]) (mvT hZ (hw _ (List.mem_of_getElem? (i := 31) rfl)))) (mvT hZ (hw _ (List.mem_of_getElem? (i := 31) rfl))) (mvT hZ (hw _ (List.mem_of_getElem? (i := 30) rfl))) (by decide) (backOf (W := 0) (rm_bbN l Z a0 hw [] o q el k f0 false true [] true ((0 : Int32) + 1) T45.heap n0 sz45 D_35 (by simp) (by simp)) hZ (hw _ (List.mem_of_getElem? (i := 32) rfl)) (hw _ (List.mem_of_getElem? (i := 2) rfl)) (by decide) (by decide)) q46a q46c (g := (mkF m 80 #[.val (.int p1), .val (.int md), .val (.int pr), .val (.int nr), .val (.ref o), .unset, .unset, .unset] [(.ref o)])) rfl (by rw [hml]; rfl) (Steps.refl _) (argsL := []) (rest := []) (lenOf own_pd5 rfl) rfl (by show 2 * 0 + _ ≤ _; exact Nat.le_of_eq rfl) (hb hby at_80) (fun _ _ => ⟨rfl, rfl, (by decide : 4 + 1 ≤ _), (by decide : 25 + 2 ≤ _)⟩)
      dsimp only [Pt.U, Pt.locs, Pt.cells, Pt.slots] at X46 l46 y46 z46 st46 hQ46
      rw [l46, y46, z46] at X46
      obtain ⟨⟨xD_36, rfl⟩, Nq46, z46, bD_36, D_36⟩ := hQ46
      have sz46 : n0 ≤ T46.heap.size := Nat.le_trans sz45 z46
      have N46 := Fr.app N45 Nq46
      have pM1 : ∀ tt, Steps p.tables e below (T46.setTop (mkF m 111 #[.val (.int p1), .val (.int md), .val (.int pr), .val (.int nr), .val (.ref o), .unset, .unset, .unset] [(.int nr)])) tt → Steps p.tables e below (s₁.setTop (mkF m 0 #[.val (.int p1), .unset, .unset, .unset, .unset, .unset, .unset, .unset] [])) tt := by
        intro tt kt
        show Steps p.tables e below (s₁.setTop (mkF m 0 #[.val (.int p1), .unset, .unset, .unset, .unset, .unset, .unset, .unset] [])) _
        refine pB _ ?_
        show Steps p.tables e below (T41.setTop (mkF m 62 #[.val (.int p1), .val (.int md), .val (.int pr), .val (.int nr), .val (.ref o), .unset, .unset, .unset] [])) _
        refine XS.iloadN X41.here hx rfl (hb hby at_62) rfl ?_
        show Steps p.tables e below (T41.setTop (mkF m 63 #[.val (.int p1), .val (.int md), .val (.int pr), .val (.int nr), .val (.ref o), .unset, .unset, .unset] [(.int md)])) _
        refine XS.iconst X41.here hx rfl (hb hby at_63) ?_
        show Steps p.tables e below (T41.setTop (mkF m 64 #[.val (.int p1), .val (.int md), .val (.int pr), .val (.int nr), .val (.ref o), .unset, .unset, .unset] [(.int (1 : Int32)), (.int md)])) _
        refine XS.icmpYes X41.here hx rfl (pc0 := 64) (pc' := 72) rfl (hb hby at_64) rfl (teq hm1).1 (by decide) (by decide) ?_
        show Steps p.tables e below (T41.setTop (mkF m 72 #[.val (.int p1), .val (.int md), .val (.int pr), .val (.int nr), .val (.ref o), .unset, .unset, .unset] [])) _
        refine XS.aload X41.here hx rfl (hb hby at_72) rfl rfl ?_
        show Steps p.tables e below (T41.setTop (mkF m 74 #[.val (.int p1), .val (.int md), .val (.int pr), .val (.int nr), .val (.ref o), .unset, .unset, .unset] [(.ref o)])) _
        refine st45.trans ?_
        show Steps p.tables e below (T45.setTop (mkF m 77 #[.val (.int p1), .val (.int md), .val (.int pr), .val (.int nr), .val (.ref o), .unset, .unset, .unset] [(.int (own_b true))])) _
        refine XS.pop X45.here hx rfl (hb hby at_77) rfl rfl ?_
        show Steps p.tables e below (T45.setTop (mkF m 78 #[.val (.int p1), .val (.int md), .val (.int pr), .val (.int nr), .val (.ref o), .unset, .unset, .unset] [])) _
        refine XS.aload X45.here hx rfl (hb hby at_78) rfl rfl ?_
        show Steps p.tables e below (T45.setTop (mkF m 80 #[.val (.int p1), .val (.int md), .val (.int pr), .val (.int nr), .val (.ref o), .unset, .unset, .unset] [(.ref o)])) _
        refine st46.trans ?_
        show Steps p.tables e below (T46.setTop (mkF m 83 #[.val (.int p1), .val (.int md), .val (.int pr), .val (.int nr), .val (.ref o), .unset, .unset, .unset] [(.int xD_36)])) _
        refine XS.pop X46.here hx rfl (hb hby at_83) rfl rfl ?_
        show Steps p.tables e below (T46.setTop (mkF m 84 #[.val (.int p1), .val (.int md), .val (.int pr), .val (.int nr), .val (.ref o), .unset, .unset, .unset] [])) _
        refine XS.iloadN X46.here hx rfl (hb hby at_84) rfl ?_
        show Steps p.tables e below (T46.setTop (mkF m 85 #[.val (.int p1), .val (.int md), .val (.int pr), .val (.int nr), .val (.ref o), .unset, .unset, .unset] [(.int md)])) _
        refine XS.iconst X46.here hx rfl (hb hby at_85) ?_
        show Steps p.tables e below (T46.setTop (mkF m 86 #[.val (.int p1), .val (.int md), .val (.int pr), .val (.int nr), .val (.ref o), .unset, .unset, .unset] [(.int (2 : Int32)), (.int md)])) _
        refine XS.icmpYes X46.here hx rfl (pc0 := 86) (pc' := 106) rfl (hb hby at_86) rfl (feq (by rw [hm1]; decide)).2 (by decide) (by decide) ?_
        show Steps p.tables e below (T46.setTop (mkF m 106 #[.val (.int p1), .val (.int md), .val (.int pr), .val (.int nr), .val (.ref o), .unset, .unset, .unset] [])) _
        refine XS.iloadN X46.here hx rfl (hb hby at_106) rfl ?_
        show Steps p.tables e below (T46.setTop (mkF m 107 #[.val (.int p1), .val (.int md), .val (.int pr), .val (.int nr), .val (.ref o), .unset, .unset, .unset] [(.int md)])) _
        refine XS.ifNo X46.here hx rfl (hb hby at_107) rfl ((if0 _ _).trans (feq (by rw [hm1]; decide)).1) ?_
        show Steps p.tables e below (T46.setTop (mkF m 110 #[.val (.int p1), .val (.int md), .val (.int pr), .val (.int nr), .val (.ref o), .unset, .unset, .unset] [])) _
        refine XS.iloadN X46.here hx rfl (hb hby at_110) rfl ?_
        exact kt
      rcases hnr with hq | hq
      · obtain ⟨cq47, kq47, q47a, q47b, q47c⟩ := isOf hZ rfl (D_36.1)
        obtain ⟨_, _, ⟨T47, L47, k47, n47⟩, -, X47, ⟨Lc47, hQ47, l47, y47, z47⟩, st47⟩ := X46.virtualBack hx (y := (⟨"com/example/gabarit/gabarit/shacl/DescriptionOrder", "property", "()Z"⟩ : MethodName)) (z := (⟨"com/example/gabarit/gabarit/shacl/DescriptionOrder", "property", "()Z"⟩ : MethodName)) hown (mvT hZ (hw _ (List.mem_of_getElem? (i := 69) rfl))) (mvT hZ (hw _ (List.mem_of_getElem? (i := 70) rfl))) (notFace_of_selects (args := #[]) (mvT hZ (hw _ (List.mem_of_getElem? (i := 72) rfl)))) (mvT hZ (hw _ (List.mem_of_getElem? (i := 72) rfl))) (mvT hZ (hw _ (List.mem_of_getElem? (i := 71) rfl))) (by decide) (backOf (W := 0) (rm_prop l Z a0 hw [] o q el k bD_36 false [(f0, false, true)] (((0 : Int32) + 1) + 1) T46.heap n0 sz46 D_36 (by simp)) hZ (hw _ (List.mem_of_getElem? (i := 73) rfl)) (hw _ (List.mem_of_getElem? (i := 2) rfl)) (by decide) (by decide)) q47a q47c (g := (mkF m 138 #[.val (.int p1), .val (.int md), .val (.int pr), .val (.int nr), .val (.ref o), .unset, .unset, .unset] [(.ref o)])) rfl (by rw [hml]; rfl) (Steps.refl _) (argsL := []) (rest := []) (lenOf own_pd5 rfl) rfl (by show 2 * 0 + _ ≤ _; exact Nat.le_of_eq rfl) (hb hby at_138) (fun _ _ => ⟨rfl, rfl, (by decide : 5 + 0 ≤ _), (by decide : 27 + 0 ≤ _)⟩)
        dsimp only [Pt.U, Pt.locs, Pt.cells, Pt.slots] at X47 l47 y47 z47 st47 hQ47
        rw [l47, y47, z47] at X47
        obtain ⟨rfl, Nq47, z47, D_37⟩ := hQ47
        have sz47 : n0 ≤ T47.heap.size := Nat.le_trans sz46 z47
        have N47 := Fr.app N46 Nq47
        obtain ⟨cq48, kq48, q48a, q48b, q48c⟩ := isOf hZ rfl (D_37.1)
        obtain ⟨_, _, ⟨T48, L48, k48, n48⟩, -, X48, ⟨Lc48, hQ48, l48, y48, z48⟩, st48⟩ := X47.virtualBack hx (y := (⟨"com/example/gabarit/gabarit/shacl/DescriptionOrder", "value", "()V"⟩ : MethodName)) (z := (⟨"com/example/gabarit/gabarit/shacl/DescriptionOrder", "value", "()V"⟩ : MethodName)) hown (mvT hZ (hw _ (List.mem_of_getElem? (i := 98) rfl))) (mvT hZ (hw _ (List.mem_of_getElem? (i := 99) rfl))) (notFace_of_selects (args := #[]) (mvT hZ (hw _ (List.mem_of_getElem? (i := 101) rfl)))) (mvT hZ (hw _ (List.mem_of_getElem? (i := 101) rfl))) (mvT hZ (hw _ (List.mem_of_getElem? (i := 100) rfl))) (by decide) (backOf (W := 0) (rm_val l Z a0 hw [] o q el k bD_36 false true [(f0, false, true)] true (((0 : Int32) + 1) + 1) T47.heap n0 sz47 D_37 (by simp) (by simp)) hZ (hw _ (List.mem_of_getElem? (i := 102) rfl)) (hw _ (List.mem_of_getElem? (i := 2) rfl)) (by decide) (by decide)) q48a q48c (g := (mkF m 178 #[.val (.int p1), .val (.int md), .val (.int pr), .val (.int nr), .val (.ref o), .val (.int (own_b false)), .val (.int nr), .val (.int (2 : Int32))] [(.ref o)])) rfl (by rw [hml]; rfl) (Steps.refl _) (argsL := []) (rest := []) (lenOf own_pd0 rfl) rfl (by show 2 * 0 + _ ≤ _; exact Nat.le_of_eq rfl) (hb hby at_178) (fun _ _ => ⟨rfl, rfl, (by decide : 5 + 0 ≤ _), (by decide : 27 + 0 ≤ _)⟩)
        dsimp only [Pt.U, Pt.locs, Pt.cells, Pt.slots] at X48 l48 y48 z48 st48 hQ48
        rw [l48, y48, z48] at X48
        obtain ⟨rfl, Nq48, z48, D_38⟩ := hQ48
        have sz48 : n0 ≤ T48.heap.size := Nat.le_trans sz47 z48
        have N48 := Fr.app N47 Nq48
        obtain ⟨cq49, kq49, q49a, q49b, q49c⟩ := isOf hZ rfl (D_38.1)
        obtain ⟨_, _, ⟨T49, L49, k49, n49⟩, -, X49, ⟨Lc49, hQ49, l49, y49, z49⟩, st49⟩ := X48.virtualBack hx (y := (⟨"com/example/gabarit/gabarit/shacl/DescriptionOrder", "blankNodesOpen", "()I"⟩ : MethodName)) (z := (⟨"com/example/gabarit/gabarit/shacl/DescriptionOrder", "blankNodesOpen", "()I"⟩ : MethodName)) hown (mvT hZ (hw _ (List.mem_of_getElem? (i := 103) rfl))) (mvT hZ (hw _ (List.mem_of_getElem? (i := 104) rfl))) (notFace_of_selects (args := #[]) (mvT hZ (hw _ (List.mem_of_getElem? (i := 106) rfl)))) (mvT hZ (hw _ (List.mem_of_getElem? (i := 106) rfl))) (mvT hZ (hw _ (List.mem_of_getElem? (i := 105) rfl))) (by decide) (backOf (W := 0) (rm_bno l Z a0 hw [] o (((0 : Int32) + 1) + 1) T48.heap n0 sz48 D_38.2.2.2.1) hZ (hw _ (List.mem_of_getElem? (i := 107) rfl)) (hw _ (List.mem_of_getElem? (i := 2) rfl)) (by decide) (by decide)) q49a q49c (g := (mkF m 190 #[.val (.int p1), .val (.int md), .val (.int pr), .val (.int nr), .val (.ref o), .val (.int (own_b false)), .val (.int nr), .val (.int (2 : Int32))] [(.ref o)])) rfl (by rw [hml]; rfl) (Steps.refl _) (argsL := []) (rest := []) (lenOf own_pd8 rfl) rfl (by show 2 * 0 + _ ≤ _; exact Nat.le_of_eq rfl) (hb hby at_190) (fun _ _ => ⟨rfl, rfl, (by decide : 5 + 0 ≤ _), (by decide : 27 + 0 ≤ _)⟩)
        dsimp only [Pt.U, Pt.locs, Pt.cells, Pt.slots] at X49 l49 y49 z49 st49 hQ49
        rw [l49, y49, z49] at X49
        obtain ⟨rfl, Nq49, e49⟩ := hQ49
        have N49 := Fr.app N48 Nq49
        obtain ⟨fs, hr, hrun, hended, hW, hsame⟩ := X49.leave (v := some (.int (1 : Int32))) (fun h => by rw [Bd.returns] at h; cases h)
        refine ⟨_, _, pre0 _ ?_, hrun, hended, _, _, rfl, ?_, ⟨_, rfl⟩, hW, hsame.mono (by decide) (by decide)⟩
        · show Steps p.tables e below (s₁.setTop (mkF m 0 #[.val (.int p1), .unset, .unset, .unset, .unset, .unset, .unset, .unset] [])) _
          refine pM1 _ ?_
          show Steps p.tables e below (T46.setTop (mkF m 111 #[.val (.int p1), .val (.int md), .val (.int pr), .val (.int nr), .val (.ref o), .unset, .unset, .unset] [(.int nr)])) _
          refine XS.ifYes X46.here hx rfl (pc0 := 111) (pc' := 125) rfl (hb hby at_111) rfl ((if0 _ _).trans (teq hq).1) (by decide) (by decide) ?_
          show Steps p.tables e below (T46.setTop (mkF m 125 #[.val (.int p1), .val (.int md), .val (.int pr), .val (.int nr), .val (.ref o), .unset, .unset, .unset] [])) _
          refine XS.iloadN X46.here hx rfl (hb hby at_125) rfl ?_
          show Steps p.tables e below (T46.setTop (mkF m 126 #[.val (.int p1), .val (.int md), .val (.int pr), .val (.int nr), .val (.ref o), .unset, .unset, .unset] [(.int md)])) _
          refine XS.iconst X46.here hx rfl (hb hby at_126) ?_
          show Steps p.tables e below (T46.setTop (mkF m 127 #[.val (.int p1), .val (.int md), .val (.int pr), .val (.int nr), .val (.ref o), .unset, .unset, .unset] [(.int (3 : Int32)), (.int md)])) _
          refine XS.icmpYes X46.here hx rfl (pc0 := 127) (pc' := 136) rfl (hb hby at_127) rfl (feq (by rw [hm1]; decide)).2 (by decide) (by decide) ?_
          show Steps p.tables e below (T46.setTop (mkF m 136 #[.val (.int p1), .val (.int md), .val (.int pr), .val (.int nr), .val (.ref o), .unset, .unset, .unset] [])) _
          refine XS.aload X46.here hx rfl (hb hby at_136) rfl rfl ?_
          show Steps p.tables e below (T46.setTop (mkF m 138 #[.val (.int p1), .val (.int md), .val (.int pr), .val (.int nr), .val (.ref o), .unset, .unset, .unset] [(.ref o)])) _
          refine st47.trans ?_
          show Steps p.tables e below (T47.setTop (mkF m 141 #[.val (.int p1), .val (.int md), .val (.int pr), .val (.int nr), .val (.ref o), .unset, .unset, .unset] [(.int (own_b false))])) _
          refine XS.istore X47.here hx rfl (hb hby at_141) rfl (l' := #[.val (.int p1), .val (.int md), .val (.int pr), .val (.int nr), .val (.ref o), .val (.int (own_b false)), .unset, .unset]) rfl ?_
          show Steps p.tables e below (T47.setTop (mkF m 143 #[.val (.int p1), .val (.int md), .val (.int pr), .val (.int nr), .val (.ref o), .val (.int (own_b false)), .unset, .unset] [])) _
          refine XS.iloadN X47.here hx rfl (hb hby at_143) rfl ?_
          show Steps p.tables e below (T47.setTop (mkF m 144 #[.val (.int p1), .val (.int md), .val (.int pr), .val (.int nr), .val (.ref o), .val (.int (own_b false)), .unset, .unset] [(.int md)])) _
          refine XS.ifYes X47.here hx rfl (pc0 := 144) (pc' := 156) rfl (hb hby at_144) rfl ((if0 _ _).trans (feq (by rw [hm1]; decide)).2) (by decide) (by decide) ?_
          show Steps p.tables e below (T47.setTop (mkF m 156 #[.val (.int p1), .val (.int md), .val (.int pr), .val (.int nr), .val (.ref o), .val (.int (own_b false)), .unset, .unset] [])) _
          refine XS.iloadN X47.here hx rfl (hb hby at_156) rfl ?_
          show Steps p.tables e below (T47.setTop (mkF m 157 #[.val (.int p1), .val (.int md), .val (.int pr), .val (.int nr), .val (.ref o), .val (.int (own_b false)), .unset, .unset] [(.int md)])) _
          refine XS.iconst X47.here hx rfl (hb hby at_157) ?_
          show Steps p.tables e below (T47.setTop (mkF m 158 #[.val (.int p1), .val (.int md), .val (.int pr), .val (.int nr), .val (.ref o), .val (.int (own_b false)), .unset, .unset] [(.int (3 : Int32)), (.int md)])) _
          refine XS.icmpYes X47.here hx rfl (pc0 := 158) (pc' := 170) rfl (hb hby at_158) rfl (feq (by rw [hm1]; decide)).2 (by decide) (by decide) ?_
          show Steps p.tables e below (T47.setTop (mkF m 170 #[.val (.int p1), .val (.int md), .val (.int pr), .val (.int nr), .val (.ref o), .val (.int (own_b false)), .unset, .unset] [])) _
          refine XS.iloadN X47.here hx rfl (hb hby at_170) rfl ?_
          show Steps p.tables e below (T47.setTop (mkF m 171 #[.val (.int p1), .val (.int md), .val (.int pr), .val (.int nr), .val (.ref o), .val (.int (own_b false)), .unset, .unset] [(.int nr)])) _
          refine XS.istore X47.here hx rfl (hb hby at_171) rfl (l' := #[.val (.int p1), .val (.int md), .val (.int pr), .val (.int nr), .val (.ref o), .val (.int (own_b false)), .val (.int nr), .unset]) rfl ?_
          show Steps p.tables e below (T47.setTop (mkF m 173 #[.val (.int p1), .val (.int md), .val (.int pr), .val (.int nr), .val (.ref o), .val (.int (own_b false)), .val (.int nr), .unset] [])) _
          refine XS.iconst X47.here hx rfl (hb hby at_173) ?_
          show Steps p.tables e below (T47.setTop (mkF m 174 #[.val (.int p1), .val (.int md), .val (.int pr), .val (.int nr), .val (.ref o), .val (.int (own_b false)), .val (.int nr), .unset] [(.int (2 : Int32))])) _
          refine XS.istore X47.here hx rfl (hb hby at_174) rfl (l' := #[.val (.int p1), .val (.int md), .val (.int pr), .val (.int nr), .val (.ref o), .val (.int (own_b false)), .val (.int nr), .val (.int (2 : Int32))]) rfl ?_
          show Steps p.tables e below (T47.setTop (mkF m 176 #[.val (.int p1), .val (.int md), .val (.int pr), .val (.int nr), .val (.ref o), .val (.int (own_b false)), .val (.int nr), .val (.int (2 : Int32))] [])) _
          refine XS.aload X47.here hx rfl (hb hby at_176) rfl rfl ?_
          show Steps p.tables e below (T47.setTop (mkF m 178 #[.val (.int p1), .val (.int md), .val (.int pr), .val (.int nr), .val (.ref o), .val (.int (own_b false)), .val (.int nr), .val (.int (2 : Int32))] [(.ref o)])) _
          refine st48.trans ?_
          show Steps p.tables e below (T48.setTop (mkF m 181 #[.val (.int p1), .val (.int md), .val (.int pr), .val (.int nr), .val (.ref o), .val (.int (own_b false)), .val (.int nr), .val (.int (2 : Int32))] [])) _
          refine XS.iload X48.here hx rfl (hb hby at_181) rfl ?_
          show Steps p.tables e below (T48.setTop (mkF m 183 #[.val (.int p1), .val (.int md), .val (.int pr), .val (.int nr), .val (.ref o), .val (.int (own_b false)), .val (.int nr), .val (.int (2 : Int32))] [(.int (own_b false))])) _
          refine XS.iload X48.here hx rfl (hb hby at_183) rfl ?_
          show Steps p.tables e below (T48.setTop (mkF m 185 #[.val (.int p1), .val (.int md), .val (.int pr), .val (.int nr), .val (.ref o), .val (.int (own_b false)), .val (.int nr), .val (.int (2 : Int32))] [(.int nr), (.int (own_b false))])) _
          refine XS.icmpNo X48.here hx rfl (hb hby at_185) rfl (teq hq.symm).2 ?_
          show Steps p.tables e below (T48.setTop (mkF m 188 #[.val (.int p1), .val (.int md), .val (.int pr), .val (.int nr), .val (.ref o), .val (.int (own_b false)), .val (.int nr), .val (.int (2 : Int32))] [])) _
          refine XS.aload X48.here hx rfl (hb hby at_188) rfl rfl ?_
          show Steps p.tables e below (T48.setTop (mkF m 190 #[.val (.int p1), .val (.int md), .val (.int pr), .val (.int nr), .val (.ref o), .val (.int (own_b false)), .val (.int nr), .val (.int (2 : Int32))] [(.ref o)])) _
          refine st49.trans ?_
          show Steps p.tables e below (T49.setTop (mkF m 193 #[.val (.int p1), .val (.int md), .val (.int pr), .val (.int nr), .val (.ref o), .val (.int (own_b false)), .val (.int nr), .val (.int (2 : Int32))] [(.int (((0 : Int32) + 1) + 1))])) _
          refine XS.iload X49.here hx rfl (hb hby at_193) rfl ?_
          show Steps p.tables e below (T49.setTop (mkF m 195 #[.val (.int p1), .val (.int md), .val (.int pr), .val (.int nr), .val (.ref o), .val (.int (own_b false)), .val (.int nr), .val (.int (2 : Int32))] [(.int (2 : Int32)), (.int (((0 : Int32) + 1) + 1))])) _
          refine XS.icmpNo X49.here hx rfl (hb hby at_195) rfl (teq (by decide)).2 ?_
          show Steps p.tables e below (T49.setTop (mkF m 198 #[.val (.int p1), .val (.int md), .val (.int pr), .val (.int nr), .val (.ref o), .val (.int (own_b false)), .val (.int nr), .val (.int (2 : Int32))] [])) _
          refine XS.iconst X49.here hx rfl (hb hby at_198) ?_
          show Steps p.tables e below (T49.setTop (mkF m 199 #[.val (.int p1), .val (.int md), .val (.int pr), .val (.int nr), .val (.ref o), .val (.int (own_b false)), .val (.int nr), .val (.int (2 : Int32))] [(.int (1 : Int32))])) _
          refine XS.goto X49.here hx rfl (pc0 := 199) (pc' := 203) rfl (hb hby at_199) (by decide) (by decide) ?_
          show Steps p.tables e below (T49.setTop (mkF m 203 #[.val (.int p1), .val (.int md), .val (.int pr), .val (.int nr), .val (.ref o), .val (.int (own_b false)), .val (.int nr), .val (.int (2 : Int32))] [(.int (1 : Int32))])) _
          exact retN X49 hx (t := .boolean) Bd.returns (by simp) (hb hby at_203) hr
        · show Q_law Z p1 h0 n0 _ T49.heap _
          rw [e49]
          exact ⟨rfl, N49⟩
      · obtain ⟨cq50, kq50, q50a, q50b, q50c⟩ := isOf hZ rfl (D_36.1)
        obtain ⟨_, _, ⟨T50, L50, k50, n50⟩, -, X50, ⟨Lc50, hQ50, l50, y50, z50⟩, st50⟩ := X46.virtualBack hx (y := (⟨"com/example/gabarit/gabarit/shacl/DescriptionOrder", "property", "()Z"⟩ : MethodName)) (z := (⟨"com/example/gabarit/gabarit/shacl/DescriptionOrder", "property", "()Z"⟩ : MethodName)) hown (mvT hZ (hw _ (List.mem_of_getElem? (i := 69) rfl))) (mvT hZ (hw _ (List.mem_of_getElem? (i := 70) rfl))) (notFace_of_selects (args := #[]) (mvT hZ (hw _ (List.mem_of_getElem? (i := 72) rfl)))) (mvT hZ (hw _ (List.mem_of_getElem? (i := 72) rfl))) (mvT hZ (hw _ (List.mem_of_getElem? (i := 71) rfl))) (by decide) (backOf (W := 0) (rm_prop l Z a0 hw [] o q el k bD_36 false [(f0, false, true)] (((0 : Int32) + 1) + 1) T46.heap n0 sz46 D_36 (by simp)) hZ (hw _ (List.mem_of_getElem? (i := 73) rfl)) (hw _ (List.mem_of_getElem? (i := 2) rfl)) (by decide) (by decide)) q50a q50c (g := (mkF m 116 #[.val (.int p1), .val (.int md), .val (.int pr), .val (.int nr), .val (.ref o), .unset, .unset, .unset] [(.ref o)])) rfl (by rw [hml]; rfl) (Steps.refl _) (argsL := []) (rest := []) (lenOf own_pd5 rfl) rfl (by show 2 * 0 + _ ≤ _; exact Nat.le_of_eq rfl) (hb hby at_116) (fun _ _ => ⟨rfl, rfl, (by decide : 5 + 0 ≤ _), (by decide : 27 + 0 ≤ _)⟩)
        dsimp only [Pt.U, Pt.locs, Pt.cells, Pt.slots] at X50 l50 y50 z50 st50 hQ50
        rw [l50, y50, z50] at X50
        obtain ⟨rfl, Nq50, z50, D_39⟩ := hQ50
        have sz50 : n0 ≤ T50.heap.size := Nat.le_trans sz46 z50
        have N50 := Fr.app N46 Nq50
        obtain ⟨cq51, kq51, q51a, q51b, q51c⟩ := isOf hZ rfl (D_39.1)
        obtain ⟨_, _, ⟨T51, L51, k51, n51⟩, -, X51, ⟨Lc51, hQ51, l51, y51, z51⟩, st51⟩ := X50.virtualBack hx (y := (⟨"com/example/gabarit/gabarit/shacl/DescriptionOrder", "value", "()V"⟩ : MethodName)) (z := (⟨"com/example/gabarit/gabarit/shacl/DescriptionOrder", "value", "()V"⟩ : MethodName)) hown (mvT hZ (hw _ (List.mem_of_getElem? (i := 98) rfl))) (mvT hZ (hw _ (List.mem_of_getElem? (i := 99) rfl))) (notFace_of_selects (args := #[]) (mvT hZ (hw _ (List.mem_of_getElem? (i := 101) rfl)))) (mvT hZ (hw _ (List.mem_of_getElem? (i := 101) rfl))) (mvT hZ (hw _ (List.mem_of_getElem? (i := 100) rfl))) (by decide) (backOf (W := 0) (rm_val l Z a0 hw [] o q el k bD_36 false true [(f0, false, true)] true (((0 : Int32) + 1) + 1) T50.heap n0 sz50 D_39 (by simp) (by simp)) hZ (hw _ (List.mem_of_getElem? (i := 102) rfl)) (hw _ (List.mem_of_getElem? (i := 2) rfl)) (by decide) (by decide)) q51a q51c (g := (mkF m 122 #[.val (.int p1), .val (.int md), .val (.int pr), .val (.int nr), .val (.ref o), .unset, .unset, .unset] [(.ref o)])) rfl (by rw [hml]; rfl) (Steps.refl _) (argsL := []) (rest := []) (lenOf own_pd0 rfl) rfl (by show 2 * 0 + _ ≤ _; exact Nat.le_of_eq rfl) (hb hby at_122) (fun _ _ => ⟨rfl, rfl, (by decide : 5 + 0 ≤ _), (by decide : 27 + 0 ≤ _)⟩)
        dsimp only [Pt.U, Pt.locs, Pt.cells, Pt.slots] at X51 l51 y51 z51 st51 hQ51
        rw [l51, y51, z51] at X51
        obtain ⟨rfl, Nq51, z51, D_40⟩ := hQ51
        have sz51 : n0 ≤ T51.heap.size := Nat.le_trans sz50 z51
        have N51 := Fr.app N50 Nq51
        obtain ⟨cq52, kq52, q52a, q52b, q52c⟩ := isOf hZ rfl (D_40.1)
        obtain ⟨_, _, ⟨T52, L52, k52, n52⟩, -, X52, ⟨Lc52, hQ52, l52, y52, z52⟩, st52⟩ := X51.virtualBack hx (y := (⟨"com/example/gabarit/gabarit/shacl/DescriptionOrder", "property", "()Z"⟩ : MethodName)) (z := (⟨"com/example/gabarit/gabarit/shacl/DescriptionOrder", "property", "()Z"⟩ : MethodName)) hown (mvT hZ (hw _ (List.mem_of_getElem? (i := 69) rfl))) (mvT hZ (hw _ (List.mem_of_getElem? (i := 70) rfl))) (notFace_of_selects (args := #[]) (mvT hZ (hw _ (List.mem_of_getElem? (i := 72) rfl)))) (mvT hZ (hw _ (List.mem_of_getElem? (i := 72) rfl))) (mvT hZ (hw _ (List.mem_of_getElem? (i := 71) rfl))) (by decide) (backOf (W := 0) (rm_prop l Z a0 hw [] o q el k bD_36 true [(f0, false, true)] (((0 : Int32) + 1) + 1) T51.heap n0 sz51 D_40 (by simp)) hZ (hw _ (List.mem_of_getElem? (i := 73) rfl)) (hw _ (List.mem_of_getElem? (i := 2) rfl)) (by decide) (by decide)) q52a q52c (g := (mkF m 138 #[.val (.int p1), .val (.int md), .val (.int pr), .val (.int nr), .val (.ref o), .unset, .unset, .unset] [(.ref o)])) rfl (by rw [hml]; rfl) (Steps.refl _) (argsL := []) (rest := []) (lenOf own_pd5 rfl) rfl (by show 2 * 0 + _ ≤ _; exact Nat.le_of_eq rfl) (hb hby at_138) (fun _ _ => ⟨rfl, rfl, (by decide : 5 + 0 ≤ _), (by decide : 27 + 0 ≤ _)⟩)
        dsimp only [Pt.U, Pt.locs, Pt.cells, Pt.slots] at X52 l52 y52 z52 st52 hQ52
        rw [l52, y52, z52] at X52
        obtain ⟨rfl, Nq52, z52, D_41⟩ := hQ52
        have sz52 : n0 ≤ T52.heap.size := Nat.le_trans sz51 z52
        have N52 := Fr.app N51 Nq52
        obtain ⟨cq53, kq53, q53a, q53b, q53c⟩ := isOf hZ rfl (D_41.1)
        obtain ⟨_, _, ⟨T53, L53, k53, n53⟩, -, X53, ⟨Lc53, hQ53, l53, y53, z53⟩, st53⟩ := X52.virtualBack hx (y := (⟨"com/example/gabarit/gabarit/shacl/DescriptionOrder", "value", "()V"⟩ : MethodName)) (z := (⟨"com/example/gabarit/gabarit/shacl/DescriptionOrder", "value", "()V"⟩ : MethodName)) hown (mvT hZ (hw _ (List.mem_of_getElem? (i := 98) rfl))) (mvT hZ (hw _ (List.mem_of_getElem? (i := 99) rfl))) (notFace_of_selects (args := #[]) (mvT hZ (hw _ (List.mem_of_getElem? (i := 101) rfl)))) (mvT hZ (hw _ (List.mem_of_getElem? (i := 101) rfl))) (mvT hZ (hw _ (List.mem_of_getElem? (i := 100) rfl))) (by decide) (backOf (W := 0) (rm_val l Z a0 hw [] o q el k bD_36 false true [(f0, false, true)] true (((0 : Int32) + 1) + 1) T52.heap n0 sz52 D_41 (by simp) (by simp)) hZ (hw _ (List.mem_of_getElem? (i := 102) rfl)) (hw _ (List.mem_of_getElem? (i := 2) rfl)) (by decide) (by decide)) q53a q53c (g := (mkF m 178 #[.val (.int p1), .val (.int md), .val (.int pr), .val (.int nr), .val (.ref o), .val (.int (own_b true)), .val (.int nr), .val (.int (2 : Int32))] [(.ref o)])) rfl (by rw [hml]; rfl) (Steps.refl _) (argsL := []) (rest := []) (lenOf own_pd0 rfl) rfl (by show 2 * 0 + _ ≤ _; exact Nat.le_of_eq rfl) (hb hby at_178) (fun _ _ => ⟨rfl, rfl, (by decide : 5 + 0 ≤ _), (by decide : 27 + 0 ≤ _)⟩)
        dsimp only [Pt.U, Pt.locs, Pt.cells, Pt.slots] at X53 l53 y53 z53 st53 hQ53
        rw [l53, y53, z53] at X53
        obtain ⟨rfl, Nq53, z53, D_42⟩ := hQ53
        have sz53 : n0 ≤ T53.heap.size := Nat.le_trans sz52 z53
        have N53 := Fr.app N52 Nq53
        obtain ⟨cq54, kq54, q54a, q54b, q54c⟩ := isOf hZ rfl (D_42.1)
        obtain ⟨_, _, ⟨T54, L54, k54, n54⟩, -, X54, ⟨Lc54, hQ54, l54, y54, z54⟩, st54⟩ := X53.virtualBack hx (y := (⟨"com/example/gabarit/gabarit/shacl/DescriptionOrder", "blankNodesOpen", "()I"⟩ : MethodName)) (z := (⟨"com/example/gabarit/gabarit/shacl/DescriptionOrder", "blankNodesOpen", "()I"⟩ : MethodName)) hown (mvT hZ (hw _ (List.mem_of_getElem? (i := 103) rfl))) (mvT hZ (hw _ (List.mem_of_getElem? (i := 104) rfl))) (notFace_of_selects (args := #[]) (mvT hZ (hw _ (List.mem_of_getElem? (i := 106) rfl)))) (mvT hZ (hw _ (List.mem_of_getElem? (i := 106) rfl))) (mvT hZ (hw _ (List.mem_of_getElem? (i := 105) rfl))) (by decide) (backOf (W := 0) (rm_bno l Z a0 hw [] o (((0 : Int32) + 1) + 1) T53.heap n0 sz53 D_42.2.2.2.1) hZ (hw _ (List.mem_of_getElem? (i := 107) rfl)) (hw _ (List.mem_of_getElem? (i := 2) rfl)) (by decide) (by decide)) q54a q54c (g := (mkF m 190 #[.val (.int p1), .val (.int md), .val (.int pr), .val (.int nr), .val (.ref o), .val (.int (own_b true)), .val (.int nr), .val (.int (2 : Int32))] [(.ref o)])) rfl (by rw [hml]; rfl) (Steps.refl _) (argsL := []) (rest := []) (lenOf own_pd8 rfl) rfl (by show 2 * 0 + _ ≤ _; exact Nat.le_of_eq rfl) (hb hby at_190) (fun _ _ => ⟨rfl, rfl, (by decide : 5 + 0 ≤ _), (by decide : 27 + 0 ≤ _)⟩)
        dsimp only [Pt.U, Pt.locs, Pt.cells, Pt.slots] at X54 l54 y54 z54 st54 hQ54
        rw [l54, y54, z54] at X54
        obtain ⟨rfl, Nq54, e54⟩ := hQ54
        have N54 := Fr.app N53 Nq54
        obtain ⟨fs, hr, hrun, hended, hW, hsame⟩ := X54.leave (v := some (.int (1 : Int32))) (fun h => by rw [Bd.returns] at h; cases h)
        refine ⟨_, _, pre0 _ ?_, hrun, hended, _, _, rfl, ?_, ⟨_, rfl⟩, hW, hsame.mono (by decide) (by decide)⟩
        · show Steps p.tables e below (s₁.setTop (mkF m 0 #[.val (.int p1), .unset, .unset, .unset, .unset, .unset, .unset, .unset] [])) _
          refine pM1 _ ?_
          show Steps p.tables e below (T46.setTop (mkF m 111 #[.val (.int p1), .val (.int md), .val (.int pr), .val (.int nr), .val (.ref o), .unset, .unset, .unset] [(.int nr)])) _
          refine XS.ifNo X46.here hx rfl (hb hby at_111) rfl ((if0 _ _).trans (feq (by rw [hq]; decide)).1) ?_
          show Steps p.tables e below (T46.setTop (mkF m 114 #[.val (.int p1), .val (.int md), .val (.int pr), .val (.int nr), .val (.ref o), .unset, .unset, .unset] [])) _
          refine XS.aload X46.here hx rfl (hb hby at_114) rfl rfl ?_
          show Steps p.tables e below (T46.setTop (mkF m 116 #[.val (.int p1), .val (.int md), .val (.int pr), .val (.int nr), .val (.ref o), .unset, .unset, .unset] [(.ref o)])) _
          refine st50.trans ?_
          show Steps p.tables e below (T50.setTop (mkF m 119 #[.val (.int p1), .val (.int md), .val (.int pr), .val (.int nr), .val (.ref o), .unset, .unset, .unset] [(.int (own_b false))])) _
          refine XS.pop X50.here hx rfl (hb hby at_119) rfl rfl ?_
          show Steps p.tables e below (T50.setTop (mkF m 120 #[.val (.int p1), .val (.int md), .val (.int pr), .val (.int nr), .val (.ref o), .unset, .unset, .unset] [])) _
          refine XS.aload X50.here hx rfl (hb hby at_120) rfl rfl ?_
          show Steps p.tables e below (T50.setTop (mkF m 122 #[.val (.int p1), .val (.int md), .val (.int pr), .val (.int nr), .val (.ref o), .unset, .unset, .unset] [(.ref o)])) _
          refine st51.trans ?_
          show Steps p.tables e below (T51.setTop (mkF m 125 #[.val (.int p1), .val (.int md), .val (.int pr), .val (.int nr), .val (.ref o), .unset, .unset, .unset] [])) _
          refine XS.iloadN X51.here hx rfl (hb hby at_125) rfl ?_
          show Steps p.tables e below (T51.setTop (mkF m 126 #[.val (.int p1), .val (.int md), .val (.int pr), .val (.int nr), .val (.ref o), .unset, .unset, .unset] [(.int md)])) _
          refine XS.iconst X51.here hx rfl (hb hby at_126) ?_
          show Steps p.tables e below (T51.setTop (mkF m 127 #[.val (.int p1), .val (.int md), .val (.int pr), .val (.int nr), .val (.ref o), .unset, .unset, .unset] [(.int (3 : Int32)), (.int md)])) _
          refine XS.icmpYes X51.here hx rfl (pc0 := 127) (pc' := 136) rfl (hb hby at_127) rfl (feq (by rw [hm1]; decide)).2 (by decide) (by decide) ?_
          show Steps p.tables e below (T51.setTop (mkF m 136 #[.val (.int p1), .val (.int md), .val (.int pr), .val (.int nr), .val (.ref o), .unset, .unset, .unset] [])) _
          refine XS.aload X51.here hx rfl (hb hby at_136) rfl rfl ?_
          show Steps p.tables e below (T51.setTop (mkF m 138 #[.val (.int p1), .val (.int md), .val (.int pr), .val (.int nr), .val (.ref o), .unset, .unset, .unset] [(.ref o)])) _
          refine st52.trans ?_
          show Steps p.tables e below (T52.setTop (mkF m 141 #[.val (.int p1), .val (.int md), .val (.int pr), .val (.int nr), .val (.ref o), .unset, .unset, .unset] [(.int (own_b true))])) _
          refine XS.istore X52.here hx rfl (hb hby at_141) rfl (l' := #[.val (.int p1), .val (.int md), .val (.int pr), .val (.int nr), .val (.ref o), .val (.int (own_b true)), .unset, .unset]) rfl ?_
          show Steps p.tables e below (T52.setTop (mkF m 143 #[.val (.int p1), .val (.int md), .val (.int pr), .val (.int nr), .val (.ref o), .val (.int (own_b true)), .unset, .unset] [])) _
          refine XS.iloadN X52.here hx rfl (hb hby at_143) rfl ?_
          show Steps p.tables e below (T52.setTop (mkF m 144 #[.val (.int p1), .val (.int md), .val (.int pr), .val (.int nr), .val (.ref o), .val (.int (own_b true)), .unset, .unset] [(.int md)])) _
          refine XS.ifYes X52.here hx rfl (pc0 := 144) (pc' := 156) rfl (hb hby at_144) rfl ((if0 _ _).trans (feq (by rw [hm1]; decide)).2) (by decide) (by decide) ?_
          show Steps p.tables e below (T52.setTop (mkF m 156 #[.val (.int p1), .val (.int md), .val (.int pr), .val (.int nr), .val (.ref o), .val (.int (own_b true)), .unset, .unset] [])) _
          refine XS.iloadN X52.here hx rfl (hb hby at_156) rfl ?_
          show Steps p.tables e below (T52.setTop (mkF m 157 #[.val (.int p1), .val (.int md), .val (.int pr), .val (.int nr), .val (.ref o), .val (.int (own_b true)), .unset, .unset] [(.int md)])) _
          refine XS.iconst X52.here hx rfl (hb hby at_157) ?_
          show Steps p.tables e below (T52.setTop (mkF m 158 #[.val (.int p1), .val (.int md), .val (.int pr), .val (.int nr), .val (.ref o), .val (.int (own_b true)), .unset, .unset] [(.int (3 : Int32)), (.int md)])) _
          refine XS.icmpYes X52.here hx rfl (pc0 := 158) (pc' := 170) rfl (hb hby at_158) rfl (feq (by rw [hm1]; decide)).2 (by decide) (by decide) ?_
          show Steps p.tables e below (T52.setTop (mkF m 170 #[.val (.int p1), .val (.int md), .val (.int pr), .val (.int nr), .val (.ref o), .val (.int (own_b true)), .unset, .unset] [])) _
          refine XS.iloadN X52.here hx rfl (hb hby at_170) rfl ?_
          show Steps p.tables e below (T52.setTop (mkF m 171 #[.val (.int p1), .val (.int md), .val (.int pr), .val (.int nr), .val (.ref o), .val (.int (own_b true)), .unset, .unset] [(.int nr)])) _
          refine XS.istore X52.here hx rfl (hb hby at_171) rfl (l' := #[.val (.int p1), .val (.int md), .val (.int pr), .val (.int nr), .val (.ref o), .val (.int (own_b true)), .val (.int nr), .unset]) rfl ?_
          show Steps p.tables e below (T52.setTop (mkF m 173 #[.val (.int p1), .val (.int md), .val (.int pr), .val (.int nr), .val (.ref o), .val (.int (own_b true)), .val (.int nr), .unset] [])) _
          refine XS.iconst X52.here hx rfl (hb hby at_173) ?_
          show Steps p.tables e below (T52.setTop (mkF m 174 #[.val (.int p1), .val (.int md), .val (.int pr), .val (.int nr), .val (.ref o), .val (.int (own_b true)), .val (.int nr), .unset] [(.int (2 : Int32))])) _
          refine XS.istore X52.here hx rfl (hb hby at_174) rfl (l' := #[.val (.int p1), .val (.int md), .val (.int pr), .val (.int nr), .val (.ref o), .val (.int (own_b true)), .val (.int nr), .val (.int (2 : Int32))]) rfl ?_
          show Steps p.tables e below (T52.setTop (mkF m 176 #[.val (.int p1), .val (.int md), .val (.int pr), .val (.int nr), .val (.ref o), .val (.int (own_b true)), .val (.int nr), .val (.int (2 : Int32))] [])) _
          refine XS.aload X52.here hx rfl (hb hby at_176) rfl rfl ?_
          show Steps p.tables e below (T52.setTop (mkF m 178 #[.val (.int p1), .val (.int md), .val (.int pr), .val (.int nr), .val (.ref o), .val (.int (own_b true)), .val (.int nr), .val (.int (2 : Int32))] [(.ref o)])) _
          refine st53.trans ?_
          show Steps p.tables e below (T53.setTop (mkF m 181 #[.val (.int p1), .val (.int md), .val (.int pr), .val (.int nr), .val (.ref o), .val (.int (own_b true)), .val (.int nr), .val (.int (2 : Int32))] [])) _
          refine XS.iload X53.here hx rfl (hb hby at_181) rfl ?_
          show Steps p.tables e below (T53.setTop (mkF m 183 #[.val (.int p1), .val (.int md), .val (.int pr), .val (.int nr), .val (.ref o), .val (.int (own_b true)), .val (.int nr), .val (.int (2 : Int32))] [(.int (own_b true))])) _
          refine XS.iload X53.here hx rfl (hb hby at_183) rfl ?_
          show Steps p.tables e below (T53.setTop (mkF m 185 #[.val (.int p1), .val (.int md), .val (.int pr), .val (.int nr), .val (.ref o), .val (.int (own_b true)), .val (.int nr), .val (.int (2 : Int32))] [(.int nr), (.int (own_b true))])) _
          refine XS.icmpNo X53.here hx rfl (hb hby at_185) rfl (teq hq.symm).2 ?_
          show Steps p.tables e below (T53.setTop (mkF m 188 #[.val (.int p1), .val (.int md), .val (.int pr), .val (.int nr), .val (.ref o), .val (.int (own_b true)), .val (.int nr), .val (.int (2 : Int32))] [])) _
          refine XS.aload X53.here hx rfl (hb hby at_188) rfl rfl ?_
          show Steps p.tables e below (T53.setTop (mkF m 190 #[.val (.int p1), .val (.int md), .val (.int pr), .val (.int nr), .val (.ref o), .val (.int (own_b true)), .val (.int nr), .val (.int (2 : Int32))] [(.ref o)])) _
          refine st54.trans ?_
          show Steps p.tables e below (T54.setTop (mkF m 193 #[.val (.int p1), .val (.int md), .val (.int pr), .val (.int nr), .val (.ref o), .val (.int (own_b true)), .val (.int nr), .val (.int (2 : Int32))] [(.int (((0 : Int32) + 1) + 1))])) _
          refine XS.iload X54.here hx rfl (hb hby at_193) rfl ?_
          show Steps p.tables e below (T54.setTop (mkF m 195 #[.val (.int p1), .val (.int md), .val (.int pr), .val (.int nr), .val (.ref o), .val (.int (own_b true)), .val (.int nr), .val (.int (2 : Int32))] [(.int (2 : Int32)), (.int (((0 : Int32) + 1) + 1))])) _
          refine XS.icmpNo X54.here hx rfl (hb hby at_195) rfl (teq (by decide)).2 ?_
          show Steps p.tables e below (T54.setTop (mkF m 198 #[.val (.int p1), .val (.int md), .val (.int pr), .val (.int nr), .val (.ref o), .val (.int (own_b true)), .val (.int nr), .val (.int (2 : Int32))] [])) _
          refine XS.iconst X54.here hx rfl (hb hby at_198) ?_
          show Steps p.tables e below (T54.setTop (mkF m 199 #[.val (.int p1), .val (.int md), .val (.int pr), .val (.int nr), .val (.ref o), .val (.int (own_b true)), .val (.int nr), .val (.int (2 : Int32))] [(.int (1 : Int32))])) _
          refine XS.goto X54.here hx rfl (pc0 := 199) (pc' := 203) rfl (hb hby at_199) (by decide) (by decide) ?_
          show Steps p.tables e below (T54.setTop (mkF m 203 #[.val (.int p1), .val (.int md), .val (.int pr), .val (.int nr), .val (.ref o), .val (.int (own_b true)), .val (.int nr), .val (.int (2 : Int32))] [(.int (1 : Int32))])) _
          exact retN X54 hx (t := .boolean) Bd.returns (by simp) (hb hby at_203) hr
        · show Q_law Z p1 h0 n0 _ T54.heap _
          rw [e54]
          exact ⟨rfl, N54⟩
    · obtain ⟨cq55, kq55, q55a, q55b, q55c⟩ := isOf hZ rfl (D_32.1)
      obtain ⟨_, _, ⟨T55, L55, k55, n55⟩, -, X55, ⟨Lc55, hQ55, l55, y55, z55⟩, st55⟩ := X41.virtualBack hx (y := (⟨"com/example/gabarit/gabarit/shacl/DescriptionOrder", "property", "()Z"⟩ : MethodName)) (z := (⟨"com/example/gabarit/gabarit/shacl/DescriptionOrder", "property", "()Z"⟩ : MethodName)) hown (mvT hZ (hw _ (List.mem_of_getElem? (i := 69) rfl))) (mvT hZ (hw _ (List.mem_of_getElem? (i := 70) rfl))) (notFace_of_selects (args := #[]) (mvT hZ (hw _ (List.mem_of_getElem? (i := 72) rfl)))) (mvT hZ (hw _ (List.mem_of_getElem? (i := 72) rfl))) (mvT hZ (hw _ (List.mem_of_getElem? (i := 71) rfl))) (by decide) (backOf (W := 0) (rm_prop l Z a0 hw [] o q el k f0 true [] ((0 : Int32) + 1) T41.heap n0 sz41 D_32 (by simp)) hZ (hw _ (List.mem_of_getElem? (i := 73) rfl)) (hw _ (List.mem_of_getElem? (i := 2) rfl)) (by decide) (by decide)) q55a q55c (g := (mkF m 91 #[.val (.int p1), .val (.int md), .val (.int pr), .val (.int nr), .val (.ref o), .unset, .unset, .unset] [(.ref o)])) rfl (by rw [hml]; rfl) (Steps.refl _) (argsL := []) (rest := []) (lenOf own_pd5 rfl) rfl (by show 2 * 0 + _ ≤ _; exact Nat.le_of_eq rfl) (hb hby at_91) (fun _ _ => ⟨rfl, rfl, (by decide : 4 + 0 ≤ _), (by decide : 25 + 0 ≤ _)⟩)
      dsimp only [Pt.U, Pt.locs, Pt.cells, Pt.slots] at X55 l55 y55 z55 st55 hQ55
      rw [l55, y55, z55] at X55
      obtain ⟨rfl, Nq55, z55, D_43⟩ := hQ55
      have sz55 : n0 ≤ T55.heap.size := Nat.le_trans sz41 z55
      have N55 := Fr.app N41 Nq55
      obtain ⟨cq56, kq56, q56a, q56b, q56c⟩ := isOf hZ rfl (D_43.1)
      obtain ⟨_, _, ⟨T56, L56, k56, n56⟩, -, X56, ⟨Lc56, hQ56, l56, y56, z56⟩, st56⟩ := X55.virtualBack hx (y := (⟨"com/example/gabarit/gabarit/shacl/DescriptionOrder", "beginList", "()V"⟩ : MethodName)) (z := (⟨"com/example/gabarit/gabarit/shacl/DescriptionOrder", "beginList", "()V"⟩ : MethodName)) hown (mvT hZ (hw _ (List.mem_of_getElem? (i := 127) rfl))) (mvT hZ (hw _ (List.mem_of_getElem? (i := 128) rfl))) (notFace_of_selects (args := #[]) (mvT hZ (hw _ (List.mem_of_getElem? (i := 130) rfl)))) (mvT hZ (hw _ (List.mem_of_getElem? (i := 130) rfl))) (mvT hZ (hw _ (List.mem_of_getElem? (i := 129) rfl))) (by decide) (backOf (W := 0) (rm_bl l Z a0 hw [] o q el k f0 false true [] true ((0 : Int32) + 1) T55.heap n0 sz55 D_43 (by simp) (by simp)) hZ (hw _ (List.mem_of_getElem? (i := 131) rfl)) (hw _ (List.mem_of_getElem? (i := 2) rfl)) (by decide) (by decide)) q56a q56c (g := (mkF m 97 #[.val (.int p1), .val (.int md), .val (.int pr), .val (.int nr), .val (.ref o), .unset, .unset, .unset] [(.ref o)])) rfl (by rw [hml]; rfl) (Steps.refl _) (argsL := []) (rest := []) (lenOf own_pd0 rfl) rfl (by show 2 * 0 + _ ≤ _; exact Nat.le_of_eq rfl) (hb hby at_97) (fun _ _ => ⟨rfl, rfl, (by decide : 4 + 1 ≤ _), (by decide : 25 + 2 ≤ _)⟩)
      dsimp only [Pt.U, Pt.locs, Pt.cells, Pt.slots] at X56 l56 y56 z56 st56 hQ56
      rw [l56, y56, z56] at X56
      obtain ⟨rfl, Nq56, z56, bD_44, D_44⟩ := hQ56
      have sz56 : n0 ≤ T56.heap.size := Nat.le_trans sz55 z56
      have N56 := Fr.app N55 Nq56
      obtain ⟨cq57, kq57, q57a, q57b, q57c⟩ := isOf hZ rfl (D_44.1)
      obtain ⟨_, _, ⟨T57, L57, k57, n57⟩, -, X57, ⟨Lc57, hQ57, l57, y57, z57⟩, st57⟩ := X56.virtualBack hx (y := (⟨"com/example/gabarit/gabarit/shacl/DescriptionOrder", "beginBlankNode", "()Z"⟩ : MethodName)) (z := (⟨"com/example/gabarit/gabarit/shacl/DescriptionOrder", "beginBlankNode", "()Z"⟩ : MethodName)) hown (mvT hZ (hw _ (List.mem_of_getElem? (i := 28) rfl))) (mvT hZ (hw _ (List.mem_of_getElem? (i := 29) rfl))) (notFace_of_selects (args := #[]) (mvT hZ (hw _ (List.mem_of_getElem? (i := 31) rfl)))) (mvT hZ (hw _ (List.mem_of_getElem? (i := 31) rfl))) (mvT hZ (hw _ (List.mem_of_getElem? (i := 30) rfl))) (by decide) (backOf (W := 0) (rm_bbN l Z a0 hw [] o q el k bD_44 true false [(f0, false, true)] false ((0 : Int32) + 1) T56.heap n0 sz56 D_44 (by simp) (by simp)) hZ (hw _ (List.mem_of_getElem? (i := 32) rfl)) (hw _ (List.mem_of_getElem? (i := 2) rfl)) (by decide) (by decide)) q57a q57c (g := (mkF m 102 #[.val (.int p1), .val (.int md), .val (.int pr), .val (.int nr), .val (.ref o), .unset, .unset, .unset] [(.ref o)])) rfl (by rw [hml]; rfl) (Steps.refl _) (argsL := []) (rest := []) (lenOf own_pd5 rfl) rfl (by show 2 * 0 + _ ≤ _; exact Nat.le_of_eq rfl) (hb hby at_102) (fun _ _ => ⟨rfl, rfl, (by decide : 5 + 1 ≤ _), (by decide : 27 + 2 ≤ _)⟩)
      dsimp only [Pt.U, Pt.locs, Pt.cells, Pt.slots] at X57 l57 y57 z57 st57 hQ57
      rw [l57, y57, z57] at X57
      obtain ⟨⟨xD_45, rfl⟩, Nq57, z57, bD_45, D_45⟩ := hQ57
      have sz57 : n0 ≤ T57.heap.size := Nat.le_trans sz56 z57
      have N57 := Fr.app N56 Nq57
      have pM2 : ∀ tt, Steps p.tables e below (T57.setTop (mkF m 111 #[.val (.int p1), .val (.int md), .val (.int pr), .val (.int nr), .val (.ref o), .unset, .unset, .unset] [(.int nr)])) tt → Steps p.tables e below (s₁.setTop (mkF m 0 #[.val (.int p1), .unset, .unset, .unset, .unset, .unset, .unset, .unset] [])) tt := by
        intro tt kt
        show Steps p.tables e below (s₁.setTop (mkF m 0 #[.val (.int p1), .unset, .unset, .unset, .unset, .unset, .unset, .unset] [])) _
        refine pB _ ?_
        show Steps p.tables e below (T41.setTop (mkF m 62 #[.val (.int p1), .val (.int md), .val (.int pr), .val (.int nr), .val (.ref o), .unset, .unset, .unset] [])) _
        refine XS.iloadN X41.here hx rfl (hb hby at_62) rfl ?_
        show Steps p.tables e below (T41.setTop (mkF m 63 #[.val (.int p1), .val (.int md), .val (.int pr), .val (.int nr), .val (.ref o), .unset, .unset, .unset] [(.int md)])) _
        refine XS.iconst X41.here hx rfl (hb hby at_63) ?_
        show Steps p.tables e below (T41.setTop (mkF m 64 #[.val (.int p1), .val (.int md), .val (.int pr), .val (.int nr), .val (.ref o), .unset, .unset, .unset] [(.int (1 : Int32)), (.int md)])) _
        refine XS.icmpNo X41.here hx rfl (hb hby at_64) rfl (feq (by rw [hm2]; decide)).1 ?_
        show Steps p.tables e below (T41.setTop (mkF m 67 #[.val (.int p1), .val (.int md), .val (.int pr), .val (.int nr), .val (.ref o), .unset, .unset, .unset] [])) _
        refine XS.iloadN X41.here hx rfl (hb hby at_67) rfl ?_
        show Steps p.tables e below (T41.setTop (mkF m 68 #[.val (.int p1), .val (.int md), .val (.int pr), .val (.int nr), .val (.ref o), .unset, .unset, .unset] [(.int md)])) _
        refine XS.iconst X41.here hx rfl (hb hby at_68) ?_
        show Steps p.tables e below (T41.setTop (mkF m 69 #[.val (.int p1), .val (.int md), .val (.int pr), .val (.int nr), .val (.ref o), .unset, .unset, .unset] [(.int (3 : Int32)), (.int md)])) _
        refine XS.icmpYes X41.here hx rfl (pc0 := 69) (pc' := 84) rfl (hb hby at_69) rfl (feq (by rw [hm2]; decide)).2 (by decide) (by decide) ?_
        show Steps p.tables e below (T41.setTop (mkF m 84 #[.val (.int p1), .val (.int md), .val (.int pr), .val (.int nr), .val (.ref o), .unset, .unset, .unset] [])) _
        refine XS.iloadN X41.here hx rfl (hb hby at_84) rfl ?_
        show Steps p.tables e below (T41.setTop (mkF m 85 #[.val (.int p1), .val (.int md), .val (.int pr), .val (.int nr), .val (.ref o), .unset, .unset, .unset] [(.int md)])) _
        refine XS.iconst X41.here hx rfl (hb hby at_85) ?_
        show Steps p.tables e below (T41.setTop (mkF m 86 #[.val (.int p1), .val (.int md), .val (.int pr), .val (.int nr), .val (.ref o), .unset, .unset, .unset] [(.int (2 : Int32)), (.int md)])) _
        refine XS.icmpNo X41.here hx rfl (hb hby at_86) rfl (teq hm2).2 ?_
        show Steps p.tables e below (T41.setTop (mkF m 89 #[.val (.int p1), .val (.int md), .val (.int pr), .val (.int nr), .val (.ref o), .unset, .unset, .unset] [])) _
        refine XS.aload X41.here hx rfl (hb hby at_89) rfl rfl ?_
        show Steps p.tables e below (T41.setTop (mkF m 91 #[.val (.int p1), .val (.int md), .val (.int pr), .val (.int nr), .val (.ref o), .unset, .unset, .unset] [(.ref o)])) _
        refine st55.trans ?_
        show Steps p.tables e below (T55.setTop (mkF m 94 #[.val (.int p1), .val (.int md), .val (.int pr), .val (.int nr), .val (.ref o), .unset, .unset, .unset] [(.int (own_b true))])) _
        refine XS.pop X55.here hx rfl (hb hby at_94) rfl rfl ?_
        show Steps p.tables e below (T55.setTop (mkF m 95 #[.val (.int p1), .val (.int md), .val (.int pr), .val (.int nr), .val (.ref o), .unset, .unset, .unset] [])) _
        refine XS.aload X55.here hx rfl (hb hby at_95) rfl rfl ?_
        show Steps p.tables e below (T55.setTop (mkF m 97 #[.val (.int p1), .val (.int md), .val (.int pr), .val (.int nr), .val (.ref o), .unset, .unset, .unset] [(.ref o)])) _
        refine st56.trans ?_
        show Steps p.tables e below (T56.setTop (mkF m 100 #[.val (.int p1), .val (.int md), .val (.int pr), .val (.int nr), .val (.ref o), .unset, .unset, .unset] [])) _
        refine XS.aload X56.here hx rfl (hb hby at_100) rfl rfl ?_
        show Steps p.tables e below (T56.setTop (mkF m 102 #[.val (.int p1), .val (.int md), .val (.int pr), .val (.int nr), .val (.ref o), .unset, .unset, .unset] [(.ref o)])) _
        refine st57.trans ?_
        show Steps p.tables e below (T57.setTop (mkF m 105 #[.val (.int p1), .val (.int md), .val (.int pr), .val (.int nr), .val (.ref o), .unset, .unset, .unset] [(.int xD_45)])) _
        refine XS.pop X57.here hx rfl (hb hby at_105) rfl rfl ?_
        show Steps p.tables e below (T57.setTop (mkF m 106 #[.val (.int p1), .val (.int md), .val (.int pr), .val (.int nr), .val (.ref o), .unset, .unset, .unset] [])) _
        refine XS.iloadN X57.here hx rfl (hb hby at_106) rfl ?_
        show Steps p.tables e below (T57.setTop (mkF m 107 #[.val (.int p1), .val (.int md), .val (.int pr), .val (.int nr), .val (.ref o), .unset, .unset, .unset] [(.int md)])) _
        refine XS.ifNo X57.here hx rfl (hb hby at_107) rfl ((if0 _ _).trans (feq (by rw [hm2]; decide)).1) ?_
        show Steps p.tables e below (T57.setTop (mkF m 110 #[.val (.int p1), .val (.int md), .val (.int pr), .val (.int nr), .val (.ref o), .unset, .unset, .unset] [])) _
        refine XS.iloadN X57.here hx rfl (hb hby at_110) rfl ?_
        exact kt
      rcases hnr with hq | hq
      · obtain ⟨cq58, kq58, q58a, q58b, q58c⟩ := isOf hZ rfl (D_45.1)
        obtain ⟨_, _, ⟨T58, L58, k58, n58⟩, -, X58, ⟨Lc58, hQ58, l58, y58, z58⟩, st58⟩ := X57.virtualBack hx (y := (⟨"com/example/gabarit/gabarit/shacl/DescriptionOrder", "property", "()Z"⟩ : MethodName)) (z := (⟨"com/example/gabarit/gabarit/shacl/DescriptionOrder", "property", "()Z"⟩ : MethodName)) hown (mvT hZ (hw _ (List.mem_of_getElem? (i := 69) rfl))) (mvT hZ (hw _ (List.mem_of_getElem? (i := 70) rfl))) (notFace_of_selects (args := #[]) (mvT hZ (hw _ (List.mem_of_getElem? (i := 72) rfl)))) (mvT hZ (hw _ (List.mem_of_getElem? (i := 72) rfl))) (mvT hZ (hw _ (List.mem_of_getElem? (i := 71) rfl))) (by decide) (backOf (W := 0) (rm_prop l Z a0 hw [] o q el k bD_45 false [(bD_44, true, true), (f0, false, true)] (((0 : Int32) + 1) + 1) T57.heap n0 sz57 D_45 (by simp)) hZ (hw _ (List.mem_of_getElem? (i := 73) rfl)) (hw _ (List.mem_of_getElem? (i := 2) rfl)) (by decide) (by decide)) q58a q58c (g := (mkF m 138 #[.val (.int p1), .val (.int md), .val (.int pr), .val (.int nr), .val (.ref o), .unset, .unset, .unset] [(.ref o)])) rfl (by rw [hml]; rfl) (Steps.refl _) (argsL := []) (rest := []) (lenOf own_pd5 rfl) rfl (by show 2 * 0 + _ ≤ _; exact Nat.le_of_eq rfl) (hb hby at_138) (fun _ _ => ⟨rfl, rfl, (by decide : 6 + 0 ≤ _), (by decide : 29 + 0 ≤ _)⟩)
        dsimp only [Pt.U, Pt.locs, Pt.cells, Pt.slots] at X58 l58 y58 z58 st58 hQ58
        rw [l58, y58, z58] at X58
        obtain ⟨rfl, Nq58, z58, D_46⟩ := hQ58
        have sz58 : n0 ≤ T58.heap.size := Nat.le_trans sz57 z58
        have N58 := Fr.app N57 Nq58
        obtain ⟨cq59, kq59, q59a, q59b, q59c⟩ := isOf hZ rfl (D_46.1)
        obtain ⟨_, _, ⟨T59, L59, k59, n59⟩, -, X59, ⟨Lc59, hQ59, l59, y59, z59⟩, st59⟩ := X58.virtualBack hx (y := (⟨"com/example/gabarit/gabarit/shacl/DescriptionOrder", "value", "()V"⟩ : MethodName)) (z := (⟨"com/example/gabarit/gabarit/shacl/DescriptionOrder", "value", "()V"⟩ : MethodName)) hown (mvT hZ (hw _ (List.mem_of_getElem? (i := 98) rfl))) (mvT hZ (hw _ (List.mem_of_getElem? (i := 99) rfl))) (notFace_of_selects (args := #[]) (mvT hZ (hw _ (List.mem_of_getElem? (i := 101) rfl)))) (mvT hZ (hw _ (List.mem_of_getElem? (i := 101) rfl))) (mvT hZ (hw _ (List.mem_of_getElem? (i := 100) rfl))) (by decide) (backOf (W := 0) (rm_val l Z a0 hw [] o q el k bD_45 false true [(bD_44, true, true), (f0, false, true)] true (((0 : Int32) + 1) + 1) T58.heap n0 sz58 D_46 (by simp) (by simp)) hZ (hw _ (List.mem_of_getElem? (i := 102) rfl)) (hw _ (List.mem_of_getElem? (i := 2) rfl)) (by decide) (by decide)) q59a q59c (g := (mkF m 178 #[.val (.int p1), .val (.int md), .val (.int pr), .val (.int nr), .val (.ref o), .val (.int (own_b false)), .val (.int nr), .val (.int (2 : Int32))] [(.ref o)])) rfl (by rw [hml]; rfl) (Steps.refl _) (argsL := []) (rest := []) (lenOf own_pd0 rfl) rfl (by show 2 * 0 + _ ≤ _; exact Nat.le_of_eq rfl) (hb hby at_178) (fun _ _ => ⟨rfl, rfl, (by decide : 6 + 0 ≤ _), (by decide : 29 + 0 ≤ _)⟩)
        dsimp only [Pt.U, Pt.locs, Pt.cells, Pt.slots] at X59 l59 y59 z59 st59 hQ59
        rw [l59, y59, z59] at X59
        obtain ⟨rfl, Nq59, z59, D_47⟩ := hQ59
        have sz59 : n0 ≤ T59.heap.size := Nat.le_trans sz58 z59
        have N59 := Fr.app N58 Nq59
        obtain ⟨cq60, kq60, q60a, q60b, q60c⟩ := isOf hZ rfl (D_47.1)
        obtain ⟨_, _, ⟨T60, L60, k60, n60⟩, -, X60, ⟨Lc60, hQ60, l60, y60, z60⟩, st60⟩ := X59.virtualBack hx (y := (⟨"com/example/gabarit/gabarit/shacl/DescriptionOrder", "blankNodesOpen", "()I"⟩ : MethodName)) (z := (⟨"com/example/gabarit/gabarit/shacl/DescriptionOrder", "blankNodesOpen", "()I"⟩ : MethodName)) hown (mvT hZ (hw _ (List.mem_of_getElem? (i := 103) rfl))) (mvT hZ (hw _ (List.mem_of_getElem? (i := 104) rfl))) (notFace_of_selects (args := #[]) (mvT hZ (hw _ (List.mem_of_getElem? (i := 106) rfl)))) (mvT hZ (hw _ (List.mem_of_getElem? (i := 106) rfl))) (mvT hZ (hw _ (List.mem_of_getElem? (i := 105) rfl))) (by decide) (backOf (W := 0) (rm_bno l Z a0 hw [] o (((0 : Int32) + 1) + 1) T59.heap n0 sz59 D_47.2.2.2.1) hZ (hw _ (List.mem_of_getElem? (i := 107) rfl)) (hw _ (List.mem_of_getElem? (i := 2) rfl)) (by decide) (by decide)) q60a q60c (g := (mkF m 190 #[.val (.int p1), .val (.int md), .val (.int pr), .val (.int nr), .val (.ref o), .val (.int (own_b false)), .val (.int nr), .val (.int (2 : Int32))] [(.ref o)])) rfl (by rw [hml]; rfl) (Steps.refl _) (argsL := []) (rest := []) (lenOf own_pd8 rfl) rfl (by show 2 * 0 + _ ≤ _; exact Nat.le_of_eq rfl) (hb hby at_190) (fun _ _ => ⟨rfl, rfl, (by decide : 6 + 0 ≤ _), (by decide : 29 + 0 ≤ _)⟩)
        dsimp only [Pt.U, Pt.locs, Pt.cells, Pt.slots] at X60 l60 y60 z60 st60 hQ60
        rw [l60, y60, z60] at X60
        obtain ⟨rfl, Nq60, e60⟩ := hQ60
        have N60 := Fr.app N59 Nq60
        obtain ⟨fs, hr, hrun, hended, hW, hsame⟩ := X60.leave (v := some (.int (1 : Int32))) (fun h => by rw [Bd.returns] at h; cases h)
        refine ⟨_, _, pre0 _ ?_, hrun, hended, _, _, rfl, ?_, ⟨_, rfl⟩, hW, hsame.mono (by decide) (by decide)⟩
        · show Steps p.tables e below (s₁.setTop (mkF m 0 #[.val (.int p1), .unset, .unset, .unset, .unset, .unset, .unset, .unset] [])) _
          refine pM2 _ ?_
          show Steps p.tables e below (T57.setTop (mkF m 111 #[.val (.int p1), .val (.int md), .val (.int pr), .val (.int nr), .val (.ref o), .unset, .unset, .unset] [(.int nr)])) _
          refine XS.ifYes X57.here hx rfl (pc0 := 111) (pc' := 125) rfl (hb hby at_111) rfl ((if0 _ _).trans (teq hq).1) (by decide) (by decide) ?_
          show Steps p.tables e below (T57.setTop (mkF m 125 #[.val (.int p1), .val (.int md), .val (.int pr), .val (.int nr), .val (.ref o), .unset, .unset, .unset] [])) _
          refine XS.iloadN X57.here hx rfl (hb hby at_125) rfl ?_
          show Steps p.tables e below (T57.setTop (mkF m 126 #[.val (.int p1), .val (.int md), .val (.int pr), .val (.int nr), .val (.ref o), .unset, .unset, .unset] [(.int md)])) _
          refine XS.iconst X57.here hx rfl (hb hby at_126) ?_
          show Steps p.tables e below (T57.setTop (mkF m 127 #[.val (.int p1), .val (.int md), .val (.int pr), .val (.int nr), .val (.ref o), .unset, .unset, .unset] [(.int (3 : Int32)), (.int md)])) _
          refine XS.icmpYes X57.here hx rfl (pc0 := 127) (pc' := 136) rfl (hb hby at_127) rfl (feq (by rw [hm2]; decide)).2 (by decide) (by decide) ?_
          show Steps p.tables e below (T57.setTop (mkF m 136 #[.val (.int p1), .val (.int md), .val (.int pr), .val (.int nr), .val (.ref o), .unset, .unset, .unset] [])) _
          refine XS.aload X57.here hx rfl (hb hby at_136) rfl rfl ?_
          show Steps p.tables e below (T57.setTop (mkF m 138 #[.val (.int p1), .val (.int md), .val (.int pr), .val (.int nr), .val (.ref o), .unset, .unset, .unset] [(.ref o)])) _
          refine st58.trans ?_
          show Steps p.tables e below (T58.setTop (mkF m 141 #[.val (.int p1), .val (.int md), .val (.int pr), .val (.int nr), .val (.ref o), .unset, .unset, .unset] [(.int (own_b false))])) _
          refine XS.istore X58.here hx rfl (hb hby at_141) rfl (l' := #[.val (.int p1), .val (.int md), .val (.int pr), .val (.int nr), .val (.ref o), .val (.int (own_b false)), .unset, .unset]) rfl ?_
          show Steps p.tables e below (T58.setTop (mkF m 143 #[.val (.int p1), .val (.int md), .val (.int pr), .val (.int nr), .val (.ref o), .val (.int (own_b false)), .unset, .unset] [])) _
          refine XS.iloadN X58.here hx rfl (hb hby at_143) rfl ?_
          show Steps p.tables e below (T58.setTop (mkF m 144 #[.val (.int p1), .val (.int md), .val (.int pr), .val (.int nr), .val (.ref o), .val (.int (own_b false)), .unset, .unset] [(.int md)])) _
          refine XS.ifYes X58.here hx rfl (pc0 := 144) (pc' := 156) rfl (hb hby at_144) rfl ((if0 _ _).trans (feq (by rw [hm2]; decide)).2) (by decide) (by decide) ?_
          show Steps p.tables e below (T58.setTop (mkF m 156 #[.val (.int p1), .val (.int md), .val (.int pr), .val (.int nr), .val (.ref o), .val (.int (own_b false)), .unset, .unset] [])) _
          refine XS.iloadN X58.here hx rfl (hb hby at_156) rfl ?_
          show Steps p.tables e below (T58.setTop (mkF m 157 #[.val (.int p1), .val (.int md), .val (.int pr), .val (.int nr), .val (.ref o), .val (.int (own_b false)), .unset, .unset] [(.int md)])) _
          refine XS.iconst X58.here hx rfl (hb hby at_157) ?_
          show Steps p.tables e below (T58.setTop (mkF m 158 #[.val (.int p1), .val (.int md), .val (.int pr), .val (.int nr), .val (.ref o), .val (.int (own_b false)), .unset, .unset] [(.int (3 : Int32)), (.int md)])) _
          refine XS.icmpYes X58.here hx rfl (pc0 := 158) (pc' := 170) rfl (hb hby at_158) rfl (feq (by rw [hm2]; decide)).2 (by decide) (by decide) ?_
          show Steps p.tables e below (T58.setTop (mkF m 170 #[.val (.int p1), .val (.int md), .val (.int pr), .val (.int nr), .val (.ref o), .val (.int (own_b false)), .unset, .unset] [])) _
          refine XS.iloadN X58.here hx rfl (hb hby at_170) rfl ?_
          show Steps p.tables e below (T58.setTop (mkF m 171 #[.val (.int p1), .val (.int md), .val (.int pr), .val (.int nr), .val (.ref o), .val (.int (own_b false)), .unset, .unset] [(.int nr)])) _
          refine XS.istore X58.here hx rfl (hb hby at_171) rfl (l' := #[.val (.int p1), .val (.int md), .val (.int pr), .val (.int nr), .val (.ref o), .val (.int (own_b false)), .val (.int nr), .unset]) rfl ?_
          show Steps p.tables e below (T58.setTop (mkF m 173 #[.val (.int p1), .val (.int md), .val (.int pr), .val (.int nr), .val (.ref o), .val (.int (own_b false)), .val (.int nr), .unset] [])) _
          refine XS.iconst X58.here hx rfl (hb hby at_173) ?_
          show Steps p.tables e below (T58.setTop (mkF m 174 #[.val (.int p1), .val (.int md), .val (.int pr), .val (.int nr), .val (.ref o), .val (.int (own_b false)), .val (.int nr), .unset] [(.int (2 : Int32))])) _
          refine XS.istore X58.here hx rfl (hb hby at_174) rfl (l' := #[.val (.int p1), .val (.int md), .val (.int pr), .val (.int nr), .val (.ref o), .val (.int (own_b false)), .val (.int nr), .val (.int (2 : Int32))]) rfl ?_
          show Steps p.tables e below (T58.setTop (mkF m 176 #[.val (.int p1), .val (.int md), .val (.int pr), .val (.int nr), .val (.ref o), .val (.int (own_b false)), .val (.int nr), .val (.int (2 : Int32))] [])) _
          refine XS.aload X58.here hx rfl (hb hby at_176) rfl rfl ?_
          show Steps p.tables e below (T58.setTop (mkF m 178 #[.val (.int p1), .val (.int md), .val (.int pr), .val (.int nr), .val (.ref o), .val (.int (own_b false)), .val (.int nr), .val (.int (2 : Int32))] [(.ref o)])) _
          refine st59.trans ?_
          show Steps p.tables e below (T59.setTop (mkF m 181 #[.val (.int p1), .val (.int md), .val (.int pr), .val (.int nr), .val (.ref o), .val (.int (own_b false)), .val (.int nr), .val (.int (2 : Int32))] [])) _
          refine XS.iload X59.here hx rfl (hb hby at_181) rfl ?_
          show Steps p.tables e below (T59.setTop (mkF m 183 #[.val (.int p1), .val (.int md), .val (.int pr), .val (.int nr), .val (.ref o), .val (.int (own_b false)), .val (.int nr), .val (.int (2 : Int32))] [(.int (own_b false))])) _
          refine XS.iload X59.here hx rfl (hb hby at_183) rfl ?_
          show Steps p.tables e below (T59.setTop (mkF m 185 #[.val (.int p1), .val (.int md), .val (.int pr), .val (.int nr), .val (.ref o), .val (.int (own_b false)), .val (.int nr), .val (.int (2 : Int32))] [(.int nr), (.int (own_b false))])) _
          refine XS.icmpNo X59.here hx rfl (hb hby at_185) rfl (teq hq.symm).2 ?_
          show Steps p.tables e below (T59.setTop (mkF m 188 #[.val (.int p1), .val (.int md), .val (.int pr), .val (.int nr), .val (.ref o), .val (.int (own_b false)), .val (.int nr), .val (.int (2 : Int32))] [])) _
          refine XS.aload X59.here hx rfl (hb hby at_188) rfl rfl ?_
          show Steps p.tables e below (T59.setTop (mkF m 190 #[.val (.int p1), .val (.int md), .val (.int pr), .val (.int nr), .val (.ref o), .val (.int (own_b false)), .val (.int nr), .val (.int (2 : Int32))] [(.ref o)])) _
          refine st60.trans ?_
          show Steps p.tables e below (T60.setTop (mkF m 193 #[.val (.int p1), .val (.int md), .val (.int pr), .val (.int nr), .val (.ref o), .val (.int (own_b false)), .val (.int nr), .val (.int (2 : Int32))] [(.int (((0 : Int32) + 1) + 1))])) _
          refine XS.iload X60.here hx rfl (hb hby at_193) rfl ?_
          show Steps p.tables e below (T60.setTop (mkF m 195 #[.val (.int p1), .val (.int md), .val (.int pr), .val (.int nr), .val (.ref o), .val (.int (own_b false)), .val (.int nr), .val (.int (2 : Int32))] [(.int (2 : Int32)), (.int (((0 : Int32) + 1) + 1))])) _
          refine XS.icmpNo X60.here hx rfl (hb hby at_195) rfl (teq (by decide)).2 ?_
          show Steps p.tables e below (T60.setTop (mkF m 198 #[.val (.int p1), .val (.int md), .val (.int pr), .val (.int nr), .val (.ref o), .val (.int (own_b false)), .val (.int nr), .val (.int (2 : Int32))] [])) _
          refine XS.iconst X60.here hx rfl (hb hby at_198) ?_
          show Steps p.tables e below (T60.setTop (mkF m 199 #[.val (.int p1), .val (.int md), .val (.int pr), .val (.int nr), .val (.ref o), .val (.int (own_b false)), .val (.int nr), .val (.int (2 : Int32))] [(.int (1 : Int32))])) _
          refine XS.goto X60.here hx rfl (pc0 := 199) (pc' := 203) rfl (hb hby at_199) (by decide) (by decide) ?_
          show Steps p.tables e below (T60.setTop (mkF m 203 #[.val (.int p1), .val (.int md), .val (.int pr), .val (.int nr), .val (.ref o), .val (.int (own_b false)), .val (.int nr), .val (.int (2 : Int32))] [(.int (1 : Int32))])) _
          exact retN X60 hx (t := .boolean) Bd.returns (by simp) (hb hby at_203) hr
        · show Q_law Z p1 h0 n0 _ T60.heap _
          rw [e60]
          exact ⟨rfl, N60⟩
      · obtain ⟨cq61, kq61, q61a, q61b, q61c⟩ := isOf hZ rfl (D_45.1)
        obtain ⟨_, _, ⟨T61, L61, k61, n61⟩, -, X61, ⟨Lc61, hQ61, l61, y61, z61⟩, st61⟩ := X57.virtualBack hx (y := (⟨"com/example/gabarit/gabarit/shacl/DescriptionOrder", "property", "()Z"⟩ : MethodName)) (z := (⟨"com/example/gabarit/gabarit/shacl/DescriptionOrder", "property", "()Z"⟩ : MethodName)) hown (mvT hZ (hw _ (List.mem_of_getElem? (i := 69) rfl))) (mvT hZ (hw _ (List.mem_of_getElem? (i := 70) rfl))) (notFace_of_selects (args := #[]) (mvT hZ (hw _ (List.mem_of_getElem? (i := 72) rfl)))) (mvT hZ (hw _ (List.mem_of_getElem? (i := 72) rfl))) (mvT hZ (hw _ (List.mem_of_getElem? (i := 71) rfl))) (by decide) (backOf (W := 0) (rm_prop l Z a0 hw [] o q el k bD_45 false [(bD_44, true, true), (f0, false, true)] (((0 : Int32) + 1) + 1) T57.heap n0 sz57 D_45 (by simp)) hZ (hw _ (List.mem_of_getElem? (i := 73) rfl)) (hw _ (List.mem_of_getElem? (i := 2) rfl)) (by decide) (by decide)) q61a q61c (g := (mkF m 116 #[.val (.int p1), .val (.int md), .val (.int pr), .val (.int nr), .val (.ref o), .unset, .unset, .unset] [(.ref o)])) rfl (by rw [hml]; rfl) (Steps.refl _) (argsL := []) (rest := []) (lenOf own_pd5 rfl) rfl (by show 2 * 0 + _ ≤ _; exact Nat.le_of_eq rfl) (hb hby at_116) (fun _ _ => ⟨rfl, rfl, (by decide : 6 + 0 ≤ _), (by decide : 29 + 0 ≤ _)⟩)
        dsimp only [Pt.U, Pt.locs, Pt.cells, Pt.slots] at X61 l61 y61 z61 st61 hQ61
        rw [l61, y61, z61] at X61
        obtain ⟨rfl, Nq61, z61, D_48⟩ := hQ61
        have sz61 : n0 ≤ T61.heap.size := Nat.le_trans sz57 z61
        have N61 := Fr.app N57 Nq61
        obtain ⟨cq62, kq62, q62a, q62b, q62c⟩ := isOf hZ rfl (D_48.1)
        obtain ⟨_, _, ⟨T62, L62, k62, n62⟩, -, X62, ⟨Lc62, hQ62, l62, y62, z62⟩, st62⟩ := X61.virtualBack hx (y := (⟨"com/example/gabarit/gabarit/shacl/DescriptionOrder", "value", "()V"⟩ : MethodName)) (z := (⟨"com/example/gabarit/gabarit/shacl/DescriptionOrder", "value", "()V"⟩ : MethodName)) hown (mvT hZ (hw _ (List.mem_of_getElem? (i := 98) rfl))) (mvT hZ (hw _ (List.mem_of_getElem? (i := 99) rfl))) (notFace_of_selects (args := #[]) (mvT hZ (hw _ (List.mem_of_getElem? (i := 101) rfl)))) (mvT hZ (hw _ (List.mem_of_getElem? (i := 101) rfl))) (mvT hZ (hw _ (List.mem_of_getElem? (i := 100) rfl))) (by decide) (backOf (W := 0) (rm_val l Z a0 hw [] o q el k bD_45 false true [(bD_44, true, true), (f0, false, true)] true (((0 : Int32) + 1) + 1) T61.heap n0 sz61 D_48 (by simp) (by simp)) hZ (hw _ (List.mem_of_getElem? (i := 102) rfl)) (hw _ (List.mem_of_getElem? (i := 2) rfl)) (by decide) (by decide)) q62a q62c (g := (mkF m 122 #[.val (.int p1), .val (.int md), .val (.int pr), .val (.int nr), .val (.ref o), .unset, .unset, .unset] [(.ref o)])) rfl (by rw [hml]; rfl) (Steps.refl _) (argsL := []) (rest := []) (lenOf own_pd0 rfl) rfl (by show 2 * 0 + _ ≤ _; exact Nat.le_of_eq rfl) (hb hby at_122) (fun _ _ => ⟨rfl, rfl, (by decide : 6 + 0 ≤ _), (by decide : 29 + 0 ≤ _)⟩)
        dsimp only [Pt.U, Pt.locs, Pt.cells, Pt.slots] at X62 l62 y62 z62 st62 hQ62
        rw [l62, y62, z62] at X62
        obtain ⟨rfl, Nq62, z62, D_49⟩ := hQ62
        have sz62 : n0 ≤ T62.heap.size := Nat.le_trans sz61 z62
        have N62 := Fr.app N61 Nq62
        obtain ⟨cq63, kq63, q63a, q63b, q63c⟩ := isOf hZ rfl (D_49.1)
        obtain ⟨_, _, ⟨T63, L63, k63, n63⟩, -, X63, ⟨Lc63, hQ63, l63, y63, z63⟩, st63⟩ := X62.virtualBack hx (y := (⟨"com/example/gabarit/gabarit/shacl/DescriptionOrder", "property", "()Z"⟩ : MethodName)) (z := (⟨"com/example/gabarit/gabarit/shacl/DescriptionOrder", "property", "()Z"⟩ : MethodName)) hown (mvT hZ (hw _ (List.mem_of_getElem? (i := 69) rfl))) (mvT hZ (hw _ (List.mem_of_getElem? (i := 70) rfl))) (notFace_of_selects (args := #[]) (mvT hZ (hw _ (List.mem_of_getElem? (i := 72) rfl)))) (mvT hZ (hw _ (List.mem_of_getElem? (i := 72) rfl))) (mvT hZ (hw _ (List.mem_of_getElem? (i := 71) rfl))) (by decide) (backOf (W := 0) (rm_prop l Z a0 hw [] o q el k bD_45 true [(bD_44, true, true), (f0, false, true)] (((0 : Int32) + 1) + 1) T62.heap n0 sz62 D_49 (by simp)) hZ (hw _ (List.mem_of_getElem? (i := 73) rfl)) (hw _ (List.mem_of_getElem? (i := 2) rfl)) (by decide) (by decide)) q63a q63c (g := (mkF m 138 #[.val (.int p1), .val (.int md), .val (.int pr), .val (.int nr), .val (.ref o), .unset, .unset, .unset] [(.ref o)])) rfl (by rw [hml]; rfl) (Steps.refl _) (argsL := []) (rest := []) (lenOf own_pd5 rfl) rfl (by show 2 * 0 + _ ≤ _; exact Nat.le_of_eq rfl) (hb hby at_138) (fun _ _ => ⟨rfl, rfl, (by decide : 6 + 0 ≤ _), (by decide : 29 + 0 ≤ _)⟩)
        dsimp only [Pt.U, Pt.locs, Pt.cells, Pt.slots] at X63 l63 y63 z63 st63 hQ63
        rw [l63, y63, z63] at X63
        obtain ⟨rfl, Nq63, z63, D_50⟩ := hQ63
        have sz63 : n0 ≤ T63.heap.size := Nat.le_trans sz62 z63
        have N63 := Fr.app N62 Nq63
        obtain ⟨cq64, kq64, q64a, q64b, q64c⟩ := isOf hZ rfl (D_50.1)
        obtain ⟨_, _, ⟨T64, L64, k64, n64⟩, -, X64, ⟨Lc64, hQ64, l64, y64, z64⟩, st64⟩ := X63.virtualBack hx (y := (⟨"com/example/gabarit/gabarit/shacl/DescriptionOrder", "value", "()V"⟩ : MethodName)) (z := (⟨"com/example/gabarit/gabarit/shacl/DescriptionOrder", "value", "()V"⟩ : MethodName)) hown (mvT hZ (hw _ (List.mem_of_getElem? (i := 98) rfl))) (mvT hZ (hw _ (List.mem_of_getElem? (i := 99) rfl))) (notFace_of_selects (args := #[]) (mvT hZ (hw _ (List.mem_of_getElem? (i := 101) rfl)))) (mvT hZ (hw _ (List.mem_of_getElem? (i := 101) rfl))) (mvT hZ (hw _ (List.mem_of_getElem? (i := 100) rfl))) (by decide) (backOf (W := 0) (rm_val l Z a0 hw [] o q el k bD_45 false true [(bD_44, true, true), (f0, false, true)] true (((0 : Int32) + 1) + 1) T63.heap n0 sz63 D_50 (by simp) (by simp)) hZ (hw _ (List.mem_of_getElem? (i := 102) rfl)) (hw _ (List.mem_of_getElem? (i := 2) rfl)) (by decide) (by decide)) q64a q64c (g := (mkF m 178 #[.val (.int p1), .val (.int md), .val (.int pr), .val (.int nr), .val (.ref o), .val (.int (own_b true)), .val (.int nr), .val (.int (2 : Int32))] [(.ref o)])) rfl (by rw [hml]; rfl) (Steps.refl _) (argsL := []) (rest := []) (lenOf own_pd0 rfl) rfl (by show 2 * 0 + _ ≤ _; exact Nat.le_of_eq rfl) (hb hby at_178) (fun _ _ => ⟨rfl, rfl, (by decide : 6 + 0 ≤ _), (by decide : 29 + 0 ≤ _)⟩)
        dsimp only [Pt.U, Pt.locs, Pt.cells, Pt.slots] at X64 l64 y64 z64 st64 hQ64
        rw [l64, y64, z64] at X64
        obtain ⟨rfl, Nq64, z64, D_51⟩ := hQ64
        have sz64 : n0 ≤ T64.heap.size := Nat.le_trans sz63 z64
        have N64 := Fr.app N63 Nq64
        obtain ⟨cq65, kq65, q65a, q65b, q65c⟩ := isOf hZ rfl (D_51.1)
        obtain ⟨_, _, ⟨T65, L65, k65, n65⟩, -, X65, ⟨Lc65, hQ65, l65, y65, z65⟩, st65⟩ := X64.virtualBack hx (y := (⟨"com/example/gabarit/gabarit/shacl/DescriptionOrder", "blankNodesOpen", "()I"⟩ : MethodName)) (z := (⟨"com/example/gabarit/gabarit/shacl/DescriptionOrder", "blankNodesOpen", "()I"⟩ : MethodName)) hown (mvT hZ (hw _ (List.mem_of_getElem? (i := 103) rfl))) (mvT hZ (hw _ (List.mem_of_getElem? (i := 104) rfl))) (notFace_of_selects (args := #[]) (mvT hZ (hw _ (List.mem_of_getElem? (i := 106) rfl)))) (mvT hZ (hw _ (List.mem_of_getElem? (i := 106) rfl))) (mvT hZ (hw _ (List.mem_of_getElem? (i := 105) rfl))) (by decide) (backOf (W := 0) (rm_bno l Z a0 hw [] o (((0 : Int32) + 1) + 1) T64.heap n0 sz64 D_51.2.2.2.1) hZ (hw _ (List.mem_of_getElem? (i := 107) rfl)) (hw _ (List.mem_of_getElem? (i := 2) rfl)) (by decide) (by decide)) q65a q65c (g := (mkF m 190 #[.val (.int p1), .val (.int md), .val (.int pr), .val (.int nr), .val (.ref o), .val (.int (own_b true)), .val (.int nr), .val (.int (2 : Int32))] [(.ref o)])) rfl (by rw [hml]; rfl) (Steps.refl _) (argsL := []) (rest := []) (lenOf own_pd8 rfl) rfl (by show 2 * 0 + _ ≤ _; exact Nat.le_of_eq rfl) (hb hby at_190) (fun _ _ => ⟨rfl, rfl, (by decide : 6 + 0 ≤ _), (by decide : 29 + 0 ≤ _)⟩)
        dsimp only [Pt.U, Pt.locs, Pt.cells, Pt.slots] at X65 l65 y65 z65 st65 hQ65
        rw [l65, y65, z65] at X65
        obtain ⟨rfl, Nq65, e65⟩ := hQ65
        have N65 := Fr.app N64 Nq65
        obtain ⟨fs, hr, hrun, hended, hW, hsame⟩ := X65.leave (v := some (.int (1 : Int32))) (fun h => by rw [Bd.returns] at h; cases h)
        refine ⟨_, _, pre0 _ ?_, hrun, hended, _, _, rfl, ?_, ⟨_, rfl⟩, hW, hsame.mono (by decide) (by decide)⟩
        · show Steps p.tables e below (s₁.setTop (mkF m 0 #[.val (.int p1), .unset, .unset, .unset, .unset, .unset, .unset, .unset] [])) _
          refine pM2 _ ?_
          show Steps p.tables e below (T57.setTop (mkF m 111 #[.val (.int p1), .val (.int md), .val (.int pr), .val (.int nr), .val (.ref o), .unset, .unset, .unset] [(.int nr)])) _
          refine XS.ifNo X57.here hx rfl (hb hby at_111) rfl ((if0 _ _).trans (feq (by rw [hq]; decide)).1) ?_
          show Steps p.tables e below (T57.setTop (mkF m 114 #[.val (.int p1), .val (.int md), .val (.int pr), .val (.int nr), .val (.ref o), .unset, .unset, .unset] [])) _
          refine XS.aload X57.here hx rfl (hb hby at_114) rfl rfl ?_
          show Steps p.tables e below (T57.setTop (mkF m 116 #[.val (.int p1), .val (.int md), .val (.int pr), .val (.int nr), .val (.ref o), .unset, .unset, .unset] [(.ref o)])) _
          refine st61.trans ?_
          show Steps p.tables e below (T61.setTop (mkF m 119 #[.val (.int p1), .val (.int md), .val (.int pr), .val (.int nr), .val (.ref o), .unset, .unset, .unset] [(.int (own_b false))])) _
          refine XS.pop X61.here hx rfl (hb hby at_119) rfl rfl ?_
          show Steps p.tables e below (T61.setTop (mkF m 120 #[.val (.int p1), .val (.int md), .val (.int pr), .val (.int nr), .val (.ref o), .unset, .unset, .unset] [])) _
          refine XS.aload X61.here hx rfl (hb hby at_120) rfl rfl ?_
          show Steps p.tables e below (T61.setTop (mkF m 122 #[.val (.int p1), .val (.int md), .val (.int pr), .val (.int nr), .val (.ref o), .unset, .unset, .unset] [(.ref o)])) _
          refine st62.trans ?_
          show Steps p.tables e below (T62.setTop (mkF m 125 #[.val (.int p1), .val (.int md), .val (.int pr), .val (.int nr), .val (.ref o), .unset, .unset, .unset] [])) _
          refine XS.iloadN X62.here hx rfl (hb hby at_125) rfl ?_
          show Steps p.tables e below (T62.setTop (mkF m 126 #[.val (.int p1), .val (.int md), .val (.int pr), .val (.int nr), .val (.ref o), .unset, .unset, .unset] [(.int md)])) _
          refine XS.iconst X62.here hx rfl (hb hby at_126) ?_
          show Steps p.tables e below (T62.setTop (mkF m 127 #[.val (.int p1), .val (.int md), .val (.int pr), .val (.int nr), .val (.ref o), .unset, .unset, .unset] [(.int (3 : Int32)), (.int md)])) _
          refine XS.icmpYes X62.here hx rfl (pc0 := 127) (pc' := 136) rfl (hb hby at_127) rfl (feq (by rw [hm2]; decide)).2 (by decide) (by decide) ?_
          show Steps p.tables e below (T62.setTop (mkF m 136 #[.val (.int p1), .val (.int md), .val (.int pr), .val (.int nr), .val (.ref o), .unset, .unset, .unset] [])) _
          refine XS.aload X62.here hx rfl (hb hby at_136) rfl rfl ?_
          show Steps p.tables e below (T62.setTop (mkF m 138 #[.val (.int p1), .val (.int md), .val (.int pr), .val (.int nr), .val (.ref o), .unset, .unset, .unset] [(.ref o)])) _
          refine st63.trans ?_
          show Steps p.tables e below (T63.setTop (mkF m 141 #[.val (.int p1), .val (.int md), .val (.int pr), .val (.int nr), .val (.ref o), .unset, .unset, .unset] [(.int (own_b true))])) _
          refine XS.istore X63.here hx rfl (hb hby at_141) rfl (l' := #[.val (.int p1), .val (.int md), .val (.int pr), .val (.int nr), .val (.ref o), .val (.int (own_b true)), .unset, .unset]) rfl ?_
          show Steps p.tables e below (T63.setTop (mkF m 143 #[.val (.int p1), .val (.int md), .val (.int pr), .val (.int nr), .val (.ref o), .val (.int (own_b true)), .unset, .unset] [])) _
          refine XS.iloadN X63.here hx rfl (hb hby at_143) rfl ?_
          show Steps p.tables e below (T63.setTop (mkF m 144 #[.val (.int p1), .val (.int md), .val (.int pr), .val (.int nr), .val (.ref o), .val (.int (own_b true)), .unset, .unset] [(.int md)])) _
          refine XS.ifYes X63.here hx rfl (pc0 := 144) (pc' := 156) rfl (hb hby at_144) rfl ((if0 _ _).trans (feq (by rw [hm2]; decide)).2) (by decide) (by decide) ?_
          show Steps p.tables e below (T63.setTop (mkF m 156 #[.val (.int p1), .val (.int md), .val (.int pr), .val (.int nr), .val (.ref o), .val (.int (own_b true)), .unset, .unset] [])) _
          refine XS.iloadN X63.here hx rfl (hb hby at_156) rfl ?_
          show Steps p.tables e below (T63.setTop (mkF m 157 #[.val (.int p1), .val (.int md), .val (.int pr), .val (.int nr), .val (.ref o), .val (.int (own_b true)), .unset, .unset] [(.int md)])) _
          refine XS.iconst X63.here hx rfl (hb hby at_157) ?_
          show Steps p.tables e below (T63.setTop (mkF m 158 #[.val (.int p1), .val (.int md), .val (.int pr), .val (.int nr), .val (.ref o), .val (.int (own_b true)), .unset, .unset] [(.int (3 : Int32)), (.int md)])) _
          refine XS.icmpYes X63.here hx rfl (pc0 := 158) (pc' := 170) rfl (hb hby at_158) rfl (feq (by rw [hm2]; decide)).2 (by decide) (by decide) ?_
          show Steps p.tables e below (T63.setTop (mkF m 170 #[.val (.int p1), .val (.int md), .val (.int pr), .val (.int nr), .val (.ref o), .val (.int (own_b true)), .unset, .unset] [])) _
          refine XS.iloadN X63.here hx rfl (hb hby at_170) rfl ?_
          show Steps p.tables e below (T63.setTop (mkF m 171 #[.val (.int p1), .val (.int md), .val (.int pr), .val (.int nr), .val (.ref o), .val (.int (own_b true)), .unset, .unset] [(.int nr)])) _
          refine XS.istore X63.here hx rfl (hb hby at_171) rfl (l' := #[.val (.int p1), .val (.int md), .val (.int pr), .val (.int nr), .val (.ref o), .val (.int (own_b true)), .val (.int nr), .unset]) rfl ?_
          show Steps p.tables e below (T63.setTop (mkF m 173 #[.val (.int p1), .val (.int md), .val (.int pr), .val (.int nr), .val (.ref o), .val (.int (own_b true)), .val (.int nr), .unset] [])) _
          refine XS.iconst X63.here hx rfl (hb hby at_173) ?_
          show Steps p.tables e below (T63.setTop (mkF m 174 #[.val (.int p1), .val (.int md), .val (.int pr), .val (.int nr), .val (.ref o), .val (.int (own_b true)), .val (.int nr), .unset] [(.int (2 : Int32))])) _
          refine XS.istore X63.here hx rfl (hb hby at_174) rfl (l' := #[.val (.int p1), .val (.int md), .val (.int pr), .val (.int nr), .val (.ref o), .val (.int (own_b true)), .val (.int nr), .val (.int (2 : Int32))]) rfl ?_
          show Steps p.tables e below (T63.setTop (mkF m 176 #[.val (.int p1), .val (.int md), .val (.int pr), .val (.int nr), .val (.ref o), .val (.int (own_b true)), .val (.int nr), .val (.int (2 : Int32))] [])) _
          refine XS.aload X63.here hx rfl (hb hby at_176) rfl rfl ?_
          show Steps p.tables e below (T63.setTop (mkF m 178 #[.val (.int p1), .val (.int md), .val (.int pr), .val (.int nr), .val (.ref o), .val (.int (own_b true)), .val (.int nr), .val (.int (2 : Int32))] [(.ref o)])) _
          refine st64.trans ?_
          show Steps p.tables e below (T64.setTop (mkF m 181 #[.val (.int p1), .val (.int md), .val (.int pr), .val (.int nr), .val (.ref o), .val (.int (own_b true)), .val (.int nr), .val (.int (2 : Int32))] [])) _
          refine XS.iload X64.here hx rfl (hb hby at_181) rfl ?_
          show Steps p.tables e below (T64.setTop (mkF m 183 #[.val (.int p1), .val (.int md), .val (.int pr), .val (.int nr), .val (.ref o), .val (.int (own_b true)), .val (.int nr), .val (.int (2 : Int32))] [(.int (own_b true))])) _
          refine XS.iload X64.here hx rfl (hb hby at_183) rfl ?_
          show Steps p.tables e below (T64.setTop (mkF m 185 #[.val (.int p1), .val (.int md), .val (.int pr), .val (.int nr), .val (.ref o), .val (.int (own_b true)), .val (.int nr), .val (.int (2 : Int32))] [(.int nr), (.int (own_b true))])) _
          refine XS.icmpNo X64.here hx rfl (hb hby at_185) rfl (teq hq.symm).2 ?_
          show Steps p.tables e below (T64.setTop (mkF m 188 #[.val (.int p1), .val (.int md), .val (.int pr), .val (.int nr), .val (.ref o), .val (.int (own_b true)), .val (.int nr), .val (.int (2 : Int32))] [])) _
          refine XS.aload X64.here hx rfl (hb hby at_188) rfl rfl ?_
          show Steps p.tables e below (T64.setTop (mkF m 190 #[.val (.int p1), .val (.int md), .val (.int pr), .val (.int nr), .val (.ref o), .val (.int (own_b true)), .val (.int nr), .val (.int (2 : Int32))] [(.ref o)])) _
          refine st65.trans ?_
          show Steps p.tables e below (T65.setTop (mkF m 193 #[.val (.int p1), .val (.int md), .val (.int pr), .val (.int nr), .val (.ref o), .val (.int (own_b true)), .val (.int nr), .val (.int (2 : Int32))] [(.int (((0 : Int32) + 1) + 1))])) _
          refine XS.iload X65.here hx rfl (hb hby at_193) rfl ?_
          show Steps p.tables e below (T65.setTop (mkF m 195 #[.val (.int p1), .val (.int md), .val (.int pr), .val (.int nr), .val (.ref o), .val (.int (own_b true)), .val (.int nr), .val (.int (2 : Int32))] [(.int (2 : Int32)), (.int (((0 : Int32) + 1) + 1))])) _
          refine XS.icmpNo X65.here hx rfl (hb hby at_195) rfl (teq (by decide)).2 ?_
          show Steps p.tables e below (T65.setTop (mkF m 198 #[.val (.int p1), .val (.int md), .val (.int pr), .val (.int nr), .val (.ref o), .val (.int (own_b true)), .val (.int nr), .val (.int (2 : Int32))] [])) _
          refine XS.iconst X65.here hx rfl (hb hby at_198) ?_
          show Steps p.tables e below (T65.setTop (mkF m 199 #[.val (.int p1), .val (.int md), .val (.int pr), .val (.int nr), .val (.ref o), .val (.int (own_b true)), .val (.int nr), .val (.int (2 : Int32))] [(.int (1 : Int32))])) _
          refine XS.goto X65.here hx rfl (pc0 := 199) (pc' := 203) rfl (hb hby at_199) (by decide) (by decide) ?_
          show Steps p.tables e below (T65.setTop (mkF m 203 #[.val (.int p1), .val (.int md), .val (.int pr), .val (.int nr), .val (.ref o), .val (.int (own_b true)), .val (.int nr), .val (.int (2 : Int32))] [(.int (1 : Int32))])) _
          exact retN X65 hx (t := .boolean) Bd.returns (by simp) (hb hby at_203) hr
        · show Q_law Z p1 h0 n0 _ T65.heap _
          rw [e65]
          exact ⟨rfl, N65⟩
    · obtain ⟨cq66, kq66, q66a, q66b, q66c⟩ := isOf hZ rfl (D_32.1)
      obtain ⟨_, _, ⟨T66, L66, k66, n66⟩, -, X66, ⟨Lc66, hQ66, l66, y66, z66⟩, st66⟩ := X41.virtualBack hx (y := (⟨"com/example/gabarit/gabarit/shacl/DescriptionOrder", "property", "()Z"⟩ : MethodName)) (z := (⟨"com/example/gabarit/gabarit/shacl/DescriptionOrder", "property", "()Z"⟩ : MethodName)) hown (mvT hZ (hw _ (List.mem_of_getElem? (i := 69) rfl))) (mvT hZ (hw _ (List.mem_of_getElem? (i := 70) rfl))) (notFace_of_selects (args := #[]) (mvT hZ (hw _ (List.mem_of_getElem? (i := 72) rfl)))) (mvT hZ (hw _ (List.mem_of_getElem? (i := 72) rfl))) (mvT hZ (hw _ (List.mem_of_getElem? (i := 71) rfl))) (by decide) (backOf (W := 0) (rm_prop l Z a0 hw [] o q el k f0 true [] ((0 : Int32) + 1) T41.heap n0 sz41 D_32 (by simp)) hZ (hw _ (List.mem_of_getElem? (i := 73) rfl)) (hw _ (List.mem_of_getElem? (i := 2) rfl)) (by decide) (by decide)) q66a q66c (g := (mkF m 74 #[.val (.int p1), .val (.int md), .val (.int pr), .val (.int nr), .val (.ref o), .unset, .unset, .unset] [(.ref o)])) rfl (by rw [hml]; rfl) (Steps.refl _) (argsL := []) (rest := []) (lenOf own_pd5 rfl) rfl (by show 2 * 0 + _ ≤ _; exact Nat.le_of_eq rfl) (hb hby at_74) (fun _ _ => ⟨rfl, rfl, (by decide : 4 + 0 ≤ _), (by decide : 25 + 0 ≤ _)⟩)
      dsimp only [Pt.U, Pt.locs, Pt.cells, Pt.slots] at X66 l66 y66 z66 st66 hQ66
      rw [l66, y66, z66] at X66
      obtain ⟨rfl, Nq66, z66, D_52⟩ := hQ66
      have sz66 : n0 ≤ T66.heap.size := Nat.le_trans sz41 z66
      have N66 := Fr.app N41 Nq66
      obtain ⟨cq67, kq67, q67a, q67b, q67c⟩ := isOf hZ rfl (D_52.1)
      obtain ⟨_, _, ⟨T67, L67, k67, n67⟩, -, X67, ⟨Lc67, hQ67, l67, y67, z67⟩, st67⟩ := X66.virtualBack hx (y := (⟨"com/example/gabarit/gabarit/shacl/DescriptionOrder", "beginBlankNode", "()Z"⟩ : MethodName)) (z := (⟨"com/example/gabarit/gabarit/shacl/DescriptionOrder", "beginBlankNode", "()Z"⟩ : MethodName)) hown (mvT hZ (hw _ (List.mem_of_getElem? (i := 28) rfl))) (mvT hZ (hw _ (List.mem_of_getElem? (i := 29) rfl))) (notFace_of_selects (args := #[]) (mvT hZ (hw _ (List.mem_of_getElem? (i := 31) rfl)))) (mvT hZ (hw _ (List.mem_of_getElem? (i := 31) rfl))) (mvT hZ (hw _ (List.mem_of_getElem? (i := 30) rfl))) (by decide) (backOf (W := 0) (rm_bbN l Z a0 hw [] o q el k f0 false true [] true ((0 : Int32) + 1) T66.heap n0 sz66 D_52 (by simp) (by simp)) hZ (hw _ (List.mem_of_getElem? (i := 32) rfl)) (hw _ (List.mem_of_getElem? (i := 2) rfl)) (by decide) (by decide)) q67a q67c (g := (mkF m 80 #[.val (.int p1), .val (.int md), .val (.int pr), .val (.int nr), .val (.ref o), .unset, .unset, .unset] [(.ref o)])) rfl (by rw [hml]; rfl) (Steps.refl _) (argsL := []) (rest := []) (lenOf own_pd5 rfl) rfl (by show 2 * 0 + _ ≤ _; exact Nat.le_of_eq rfl) (hb hby at_80) (fun _ _ => ⟨rfl, rfl, (by decide : 4 + 1 ≤ _), (by decide : 25 + 2 ≤ _)⟩)
      dsimp only [Pt.U, Pt.locs, Pt.cells, Pt.slots] at X67 l67 y67 z67 st67 hQ67
      rw [l67, y67, z67] at X67
      obtain ⟨⟨xD_53, rfl⟩, Nq67, z67, bD_53, D_53⟩ := hQ67
      have sz67 : n0 ≤ T67.heap.size := Nat.le_trans sz66 z67
      have N67 := Fr.app N66 Nq67
      have pM3 : ∀ tt, Steps p.tables e below (T67.setTop (mkF m 111 #[.val (.int p1), .val (.int md), .val (.int pr), .val (.int nr), .val (.ref o), .unset, .unset, .unset] [(.int nr)])) tt → Steps p.tables e below (s₁.setTop (mkF m 0 #[.val (.int p1), .unset, .unset, .unset, .unset, .unset, .unset, .unset] [])) tt := by
        intro tt kt
        show Steps p.tables e below (s₁.setTop (mkF m 0 #[.val (.int p1), .unset, .unset, .unset, .unset, .unset, .unset, .unset] [])) _
        refine pB _ ?_
        show Steps p.tables e below (T41.setTop (mkF m 62 #[.val (.int p1), .val (.int md), .val (.int pr), .val (.int nr), .val (.ref o), .unset, .unset, .unset] [])) _
        refine XS.iloadN X41.here hx rfl (hb hby at_62) rfl ?_
        show Steps p.tables e below (T41.setTop (mkF m 63 #[.val (.int p1), .val (.int md), .val (.int pr), .val (.int nr), .val (.ref o), .unset, .unset, .unset] [(.int md)])) _
        refine XS.iconst X41.here hx rfl (hb hby at_63) ?_
        show Steps p.tables e below (T41.setTop (mkF m 64 #[.val (.int p1), .val (.int md), .val (.int pr), .val (.int nr), .val (.ref o), .unset, .unset, .unset] [(.int (1 : Int32)), (.int md)])) _
        refine XS.icmpNo X41.here hx rfl (hb hby at_64) rfl (feq (by rw [hm3]; decide)).1 ?_
        show Steps p.tables e below (T41.setTop (mkF m 67 #[.val (.int p1), .val (.int md), .val (.int pr), .val (.int nr), .val (.ref o), .unset, .unset, .unset] [])) _
        refine XS.iloadN X41.here hx rfl (hb hby at_67) rfl ?_
        show Steps p.tables e below (T41.setTop (mkF m 68 #[.val (.int p1), .val (.int md), .val (.int pr), .val (.int nr), .val (.ref o), .unset, .unset, .unset] [(.int md)])) _
        refine XS.iconst X41.here hx rfl (hb hby at_68) ?_
        show Steps p.tables e below (T41.setTop (mkF m 69 #[.val (.int p1), .val (.int md), .val (.int pr), .val (.int nr), .val (.ref o), .unset, .unset, .unset] [(.int (3 : Int32)), (.int md)])) _
        refine XS.icmpNo X41.here hx rfl (hb hby at_69) rfl (teq hm3).2 ?_
        show Steps p.tables e below (T41.setTop (mkF m 72 #[.val (.int p1), .val (.int md), .val (.int pr), .val (.int nr), .val (.ref o), .unset, .unset, .unset] [])) _
        refine XS.aload X41.here hx rfl (hb hby at_72) rfl rfl ?_
        show Steps p.tables e below (T41.setTop (mkF m 74 #[.val (.int p1), .val (.int md), .val (.int pr), .val (.int nr), .val (.ref o), .unset, .unset, .unset] [(.ref o)])) _
        refine st66.trans ?_
        show Steps p.tables e below (T66.setTop (mkF m 77 #[.val (.int p1), .val (.int md), .val (.int pr), .val (.int nr), .val (.ref o), .unset, .unset, .unset] [(.int (own_b true))])) _
        refine XS.pop X66.here hx rfl (hb hby at_77) rfl rfl ?_
        show Steps p.tables e below (T66.setTop (mkF m 78 #[.val (.int p1), .val (.int md), .val (.int pr), .val (.int nr), .val (.ref o), .unset, .unset, .unset] [])) _
        refine XS.aload X66.here hx rfl (hb hby at_78) rfl rfl ?_
        show Steps p.tables e below (T66.setTop (mkF m 80 #[.val (.int p1), .val (.int md), .val (.int pr), .val (.int nr), .val (.ref o), .unset, .unset, .unset] [(.ref o)])) _
        refine st67.trans ?_
        show Steps p.tables e below (T67.setTop (mkF m 83 #[.val (.int p1), .val (.int md), .val (.int pr), .val (.int nr), .val (.ref o), .unset, .unset, .unset] [(.int xD_53)])) _
        refine XS.pop X67.here hx rfl (hb hby at_83) rfl rfl ?_
        show Steps p.tables e below (T67.setTop (mkF m 84 #[.val (.int p1), .val (.int md), .val (.int pr), .val (.int nr), .val (.ref o), .unset, .unset, .unset] [])) _
        refine XS.iloadN X67.here hx rfl (hb hby at_84) rfl ?_
        show Steps p.tables e below (T67.setTop (mkF m 85 #[.val (.int p1), .val (.int md), .val (.int pr), .val (.int nr), .val (.ref o), .unset, .unset, .unset] [(.int md)])) _
        refine XS.iconst X67.here hx rfl (hb hby at_85) ?_
        show Steps p.tables e below (T67.setTop (mkF m 86 #[.val (.int p1), .val (.int md), .val (.int pr), .val (.int nr), .val (.ref o), .unset, .unset, .unset] [(.int (2 : Int32)), (.int md)])) _
        refine XS.icmpYes X67.here hx rfl (pc0 := 86) (pc' := 106) rfl (hb hby at_86) rfl (feq (by rw [hm3]; decide)).2 (by decide) (by decide) ?_
        show Steps p.tables e below (T67.setTop (mkF m 106 #[.val (.int p1), .val (.int md), .val (.int pr), .val (.int nr), .val (.ref o), .unset, .unset, .unset] [])) _
        refine XS.iloadN X67.here hx rfl (hb hby at_106) rfl ?_
        show Steps p.tables e below (T67.setTop (mkF m 107 #[.val (.int p1), .val (.int md), .val (.int pr), .val (.int nr), .val (.ref o), .unset, .unset, .unset] [(.int md)])) _
        refine XS.ifNo X67.here hx rfl (hb hby at_107) rfl ((if0 _ _).trans (feq (by rw [hm3]; decide)).1) ?_
        show Steps p.tables e below (T67.setTop (mkF m 110 #[.val (.int p1), .val (.int md), .val (.int pr), .val (.int nr), .val (.ref o), .unset, .unset, .unset] [])) _
        refine XS.iloadN X67.here hx rfl (hb hby at_110) rfl ?_
        exact kt
      rcases hnr with hq | hq
      · obtain ⟨cq68, kq68, q68a, q68b, q68c⟩ := isOf hZ rfl (D_53.1)
        obtain ⟨_, _, ⟨T68, L68, k68, n68⟩, -, X68, ⟨Lc68, hQ68, l68, y68, z68⟩, st68⟩ := X67.virtualBack hx (y := (⟨"com/example/gabarit/gabarit/shacl/DescriptionOrder", "endBlankNode", "()Z"⟩ : MethodName)) (z := (⟨"com/example/gabarit/gabarit/shacl/DescriptionOrder", "endBlankNode", "()Z"⟩ : MethodName)) hown (mvT hZ (hw _ (List.mem_of_getElem? (i := 109) rfl))) (mvT hZ (hw _ (List.mem_of_getElem? (i := 110) rfl))) (notFace_of_selects (args := #[]) (mvT hZ (hw _ (List.mem_of_getElem? (i := 112) rfl)))) (mvT hZ (hw _ (List.mem_of_getElem? (i := 112) rfl))) (mvT hZ (hw _ (List.mem_of_getElem? (i := 111) rfl))) (by decide) (backOf (W := 0) (rm_ebn l Z a0 hw [] o q el k bD_53 false [(f0, false, true)] (((0 : Int32) + 1) + 1) T67.heap n0 sz67 D_53 (by simp)) hZ (hw _ (List.mem_of_getElem? (i := 113) rfl)) (hw _ (List.mem_of_getElem? (i := 2) rfl)) (by decide) (by decide)) q68a q68c (g := (mkF m 132 #[.val (.int p1), .val (.int md), .val (.int pr), .val (.int nr), .val (.ref o), .unset, .unset, .unset] [(.ref o)])) rfl (by rw [hml]; rfl) (Steps.refl _) (argsL := []) (rest := []) (lenOf own_pd5 rfl) rfl (by show 2 * 0 + _ ≤ _; exact Nat.le_of_eq rfl) (hb hby at_132) (fun _ _ => ⟨rfl, rfl, (by decide : 5 + 0 ≤ _), (by decide : 27 + 0 ≤ _)⟩)
        dsimp only [Pt.U, Pt.locs, Pt.cells, Pt.slots] at X68 l68 y68 z68 st68 hQ68
        rw [l68, y68, z68] at X68
        obtain ⟨rfl, Nq68, z68, D_54⟩ := hQ68
        have sz68 : n0 ≤ T68.heap.size := Nat.le_trans sz67 z68
        have N68 := Fr.app N67 Nq68
        obtain ⟨cq69, kq69, q69a, q69b, q69c⟩ := isOf hZ rfl (D_54.1)
        obtain ⟨_, _, ⟨T69, L69, k69, n69⟩, -, X69, ⟨Lc69, hQ69, l69, y69, z69⟩, st69⟩ := X68.virtualBack hx (y := (⟨"com/example/gabarit/gabarit/shacl/DescriptionOrder", "property", "()Z"⟩ : MethodName)) (z := (⟨"com/example/gabarit/gabarit/shacl/DescriptionOrder", "property", "()Z"⟩ : MethodName)) hown (mvT hZ (hw _ (List.mem_of_getElem? (i := 69) rfl))) (mvT hZ (hw _ (List.mem_of_getElem? (i := 70) rfl))) (notFace_of_selects (args := #[]) (mvT hZ (hw _ (List.mem_of_getElem? (i := 72) rfl)))) (mvT hZ (hw _ (List.mem_of_getElem? (i := 72) rfl))) (mvT hZ (hw _ (List.mem_of_getElem? (i := 71) rfl))) (by decide) (backOf (W := 0) (rm_prop l Z a0 hw [] o q el k f0 true [] ((((0 : Int32) + 1) + 1) - 1) T68.heap n0 sz68 D_54 (by simp)) hZ (hw _ (List.mem_of_getElem? (i := 73) rfl)) (hw _ (List.mem_of_getElem? (i := 2) rfl)) (by decide) (by decide)) q69a q69c (g := (mkF m 138 #[.val (.int p1), .val (.int md), .val (.int pr), .val (.int nr), .val (.ref o), .unset, .unset, .unset] [(.ref o)])) rfl (by rw [hml]; rfl) (Steps.refl _) (argsL := []) (rest := []) (lenOf own_pd5 rfl) rfl (by show 2 * 0 + _ ≤ _; exact Nat.le_of_eq rfl) (hb hby at_138) (fun _ _ => ⟨rfl, rfl, (by decide : 5 + 0 ≤ _), (by decide : 27 + 0 ≤ _)⟩)
        dsimp only [Pt.U, Pt.locs, Pt.cells, Pt.slots] at X69 l69 y69 z69 st69 hQ69
        rw [l69, y69, z69] at X69
        obtain ⟨rfl, Nq69, z69, D_55⟩ := hQ69
        have sz69 : n0 ≤ T69.heap.size := Nat.le_trans sz68 z69
        have N69 := Fr.app N68 Nq69
        obtain ⟨cq70, kq70, q70a, q70b, q70c⟩ := isOf hZ rfl (D_55.1)
        obtain ⟨_, _, ⟨T70, L70, k70, n70⟩, -, X70, ⟨Lc70, hQ70, l70, y70, z70⟩, st70⟩ := X69.virtualBack hx (y := (⟨"com/example/gabarit/gabarit/shacl/DescriptionOrder", "value", "()V"⟩ : MethodName)) (z := (⟨"com/example/gabarit/gabarit/shacl/DescriptionOrder", "value", "()V"⟩ : MethodName)) hown (mvT hZ (hw _ (List.mem_of_getElem? (i := 98) rfl))) (mvT hZ (hw _ (List.mem_of_getElem? (i := 99) rfl))) (notFace_of_selects (args := #[]) (mvT hZ (hw _ (List.mem_of_getElem? (i := 101) rfl)))) (mvT hZ (hw _ (List.mem_of_getElem? (i := 101) rfl))) (mvT hZ (hw _ (List.mem_of_getElem? (i := 100) rfl))) (by decide) (backOf (W := 0) (rm_val l Z a0 hw [] o q el k f0 false true [] true ((((0 : Int32) + 1) + 1) - 1) T69.heap n0 sz69 D_55 (by simp) (by simp)) hZ (hw _ (List.mem_of_getElem? (i := 102) rfl)) (hw _ (List.mem_of_getElem? (i := 2) rfl)) (by decide) (by decide)) q70a q70c (g := (mkF m 178 #[.val (.int p1), .val (.int md), .val (.int pr), .val (.int nr), .val (.ref o), .val (.int (own_b true)), .val (.int (1 : Int32)), .val (.int (1 : Int32))] [(.ref o)])) rfl (by rw [hml]; rfl) (Steps.refl _) (argsL := []) (rest := []) (lenOf own_pd0 rfl) rfl (by show 2 * 0 + _ ≤ _; exact Nat.le_of_eq rfl) (hb hby at_178) (fun _ _ => ⟨rfl, rfl, (by decide : 5 + 0 ≤ _), (by decide : 27 + 0 ≤ _)⟩)
        dsimp only [Pt.U, Pt.locs, Pt.cells, Pt.slots] at X70 l70 y70 z70 st70 hQ70
        rw [l70, y70, z70] at X70
        obtain ⟨rfl, Nq70, z70, D_56⟩ := hQ70
        have sz70 : n0 ≤ T70.heap.size := Nat.le_trans sz69 z70
        have N70 := Fr.app N69 Nq70
        obtain ⟨cq71, kq71, q71a, q71b, q71c⟩ := isOf hZ rfl (D_56.1)
        obtain ⟨_, _, ⟨T71, L71, k71, n71⟩, -, X71, ⟨Lc71, hQ71, l71, y71, z71⟩, st71⟩ := X70.virtualBack hx (y := (⟨"com/example/gabarit/gabarit/shacl/DescriptionOrder", "blankNodesOpen", "()I"⟩ : MethodName)) (z := (⟨"com/example/gabarit/gabarit/shacl/DescriptionOrder", "blankNodesOpen", "()I"⟩ : MethodName)) hown (mvT hZ (hw _ (List.mem_of_getElem? (i := 103) rfl))) (mvT hZ (hw _ (List.mem_of_getElem? (i := 104) rfl))) (notFace_of_selects (args := #[]) (mvT hZ (hw _ (List.mem_of_getElem? (i := 106) rfl)))) (mvT hZ (hw _ (List.mem_of_getElem? (i := 106) rfl))) (mvT hZ (hw _ (List.mem_of_getElem? (i := 105) rfl))) (by decide) (backOf (W := 0) (rm_bno l Z a0 hw [] o ((((0 : Int32) + 1) + 1) - 1) T70.heap n0 sz70 D_56.2.2.2.1) hZ (hw _ (List.mem_of_getElem? (i := 107) rfl)) (hw _ (List.mem_of_getElem? (i := 2) rfl)) (by decide) (by decide)) q71a q71c (g := (mkF m 190 #[.val (.int p1), .val (.int md), .val (.int pr), .val (.int nr), .val (.ref o), .val (.int (own_b true)), .val (.int (1 : Int32)), .val (.int (1 : Int32))] [(.ref o)])) rfl (by rw [hml]; rfl) (Steps.refl _) (argsL := []) (rest := []) (lenOf own_pd8 rfl) rfl (by show 2 * 0 + _ ≤ _; exact Nat.le_of_eq rfl) (hb hby at_190) (fun _ _ => ⟨rfl, rfl, (by decide : 5 + 0 ≤ _), (by decide : 27 + 0 ≤ _)⟩)
        dsimp only [Pt.U, Pt.locs, Pt.cells, Pt.slots] at X71 l71 y71 z71 st71 hQ71
        rw [l71, y71, z71] at X71
        obtain ⟨rfl, Nq71, e71⟩ := hQ71
        have N71 := Fr.app N70 Nq71
        obtain ⟨fs, hr, hrun, hended, hW, hsame⟩ := X71.leave (v := some (.int (1 : Int32))) (fun h => by rw [Bd.returns] at h; cases h)
        refine ⟨_, _, pre0 _ ?_, hrun, hended, _, _, rfl, ?_, ⟨_, rfl⟩, hW, hsame.mono (by decide) (by decide)⟩
        · show Steps p.tables e below (s₁.setTop (mkF m 0 #[.val (.int p1), .unset, .unset, .unset, .unset, .unset, .unset, .unset] [])) _
          refine pM3 _ ?_
          show Steps p.tables e below (T67.setTop (mkF m 111 #[.val (.int p1), .val (.int md), .val (.int pr), .val (.int nr), .val (.ref o), .unset, .unset, .unset] [(.int nr)])) _
          refine XS.ifYes X67.here hx rfl (pc0 := 111) (pc' := 125) rfl (hb hby at_111) rfl ((if0 _ _).trans (teq hq).1) (by decide) (by decide) ?_
          show Steps p.tables e below (T67.setTop (mkF m 125 #[.val (.int p1), .val (.int md), .val (.int pr), .val (.int nr), .val (.ref o), .unset, .unset, .unset] [])) _
          refine XS.iloadN X67.here hx rfl (hb hby at_125) rfl ?_
          show Steps p.tables e below (T67.setTop (mkF m 126 #[.val (.int p1), .val (.int md), .val (.int pr), .val (.int nr), .val (.ref o), .unset, .unset, .unset] [(.int md)])) _
          refine XS.iconst X67.here hx rfl (hb hby at_126) ?_
          show Steps p.tables e below (T67.setTop (mkF m 127 #[.val (.int p1), .val (.int md), .val (.int pr), .val (.int nr), .val (.ref o), .unset, .unset, .unset] [(.int (3 : Int32)), (.int md)])) _
          refine XS.icmpNo X67.here hx rfl (hb hby at_127) rfl (teq hm3).2 ?_
          show Steps p.tables e below (T67.setTop (mkF m 130 #[.val (.int p1), .val (.int md), .val (.int pr), .val (.int nr), .val (.ref o), .unset, .unset, .unset] [])) _
          refine XS.aload X67.here hx rfl (hb hby at_130) rfl rfl ?_
          show Steps p.tables e below (T67.setTop (mkF m 132 #[.val (.int p1), .val (.int md), .val (.int pr), .val (.int nr), .val (.ref o), .unset, .unset, .unset] [(.ref o)])) _
          refine st68.trans ?_
          show Steps p.tables e below (T68.setTop (mkF m 135 #[.val (.int p1), .val (.int md), .val (.int pr), .val (.int nr), .val (.ref o), .unset, .unset, .unset] [(.int (own_b false))])) _
          refine XS.pop X68.here hx rfl (hb hby at_135) rfl rfl ?_
          show Steps p.tables e below (T68.setTop (mkF m 136 #[.val (.int p1), .val (.int md), .val (.int pr), .val (.int nr), .val (.ref o), .unset, .unset, .unset] [])) _
          refine XS.aload X68.here hx rfl (hb hby at_136) rfl rfl ?_
          show Steps p.tables e below (T68.setTop (mkF m 138 #[.val (.int p1), .val (.int md), .val (.int pr), .val (.int nr), .val (.ref o), .unset, .unset, .unset] [(.ref o)])) _
          refine st69.trans ?_
          show Steps p.tables e below (T69.setTop (mkF m 141 #[.val (.int p1), .val (.int md), .val (.int pr), .val (.int nr), .val (.ref o), .unset, .unset, .unset] [(.int (own_b true))])) _
          refine XS.istore X69.here hx rfl (hb hby at_141) rfl (l' := #[.val (.int p1), .val (.int md), .val (.int pr), .val (.int nr), .val (.ref o), .val (.int (own_b true)), .unset, .unset]) rfl ?_
          show Steps p.tables e below (T69.setTop (mkF m 143 #[.val (.int p1), .val (.int md), .val (.int pr), .val (.int nr), .val (.ref o), .val (.int (own_b true)), .unset, .unset] [])) _
          refine XS.iloadN X69.here hx rfl (hb hby at_143) rfl ?_
          show Steps p.tables e below (T69.setTop (mkF m 144 #[.val (.int p1), .val (.int md), .val (.int pr), .val (.int nr), .val (.ref o), .val (.int (own_b true)), .unset, .unset] [(.int md)])) _
          refine XS.ifYes X69.here hx rfl (pc0 := 144) (pc' := 156) rfl (hb hby at_144) rfl ((if0 _ _).trans (feq (by rw [hm3]; decide)).2) (by decide) (by decide) ?_
          show Steps p.tables e below (T69.setTop (mkF m 156 #[.val (.int p1), .val (.int md), .val (.int pr), .val (.int nr), .val (.ref o), .val (.int (own_b true)), .unset, .unset] [])) _
          refine XS.iloadN X69.here hx rfl (hb hby at_156) rfl ?_
          show Steps p.tables e below (T69.setTop (mkF m 157 #[.val (.int p1), .val (.int md), .val (.int pr), .val (.int nr), .val (.ref o), .val (.int (own_b true)), .unset, .unset] [(.int md)])) _
          refine XS.iconst X69.here hx rfl (hb hby at_157) ?_
          show Steps p.tables e below (T69.setTop (mkF m 158 #[.val (.int p1), .val (.int md), .val (.int pr), .val (.int nr), .val (.ref o), .val (.int (own_b true)), .unset, .unset] [(.int (3 : Int32)), (.int md)])) _
          refine XS.icmpNo X69.here hx rfl (hb hby at_158) rfl (teq hm3).2 ?_
          show Steps p.tables e below (T69.setTop (mkF m 161 #[.val (.int p1), .val (.int md), .val (.int pr), .val (.int nr), .val (.ref o), .val (.int (own_b true)), .unset, .unset] [])) _
          refine XS.iconst X69.here hx rfl (hb hby at_161) ?_
          show Steps p.tables e below (T69.setTop (mkF m 162 #[.val (.int p1), .val (.int md), .val (.int pr), .val (.int nr), .val (.ref o), .val (.int (own_b true)), .unset, .unset] [(.int (1 : Int32))])) _
          refine XS.istore X69.here hx rfl (hb hby at_162) rfl (l' := #[.val (.int p1), .val (.int md), .val (.int pr), .val (.int nr), .val (.ref o), .val (.int (own_b true)), .val (.int (1 : Int32)), .unset]) rfl ?_
          show Steps p.tables e below (T69.setTop (mkF m 164 #[.val (.int p1), .val (.int md), .val (.int pr), .val (.int nr), .val (.ref o), .val (.int (own_b true)), .val (.int (1 : Int32)), .unset] [])) _
          refine XS.iconst X69.here hx rfl (hb hby at_164) ?_
          show Steps p.tables e below (T69.setTop (mkF m 165 #[.val (.int p1), .val (.int md), .val (.int pr), .val (.int nr), .val (.ref o), .val (.int (own_b true)), .val (.int (1 : Int32)), .unset] [(.int (1 : Int32))])) _
          refine XS.istore X69.here hx rfl (hb hby at_165) rfl (l' := #[.val (.int p1), .val (.int md), .val (.int pr), .val (.int nr), .val (.ref o), .val (.int (own_b true)), .val (.int (1 : Int32)), .val (.int (1 : Int32))]) rfl ?_
          show Steps p.tables e below (T69.setTop (mkF m 167 #[.val (.int p1), .val (.int md), .val (.int pr), .val (.int nr), .val (.ref o), .val (.int (own_b true)), .val (.int (1 : Int32)), .val (.int (1 : Int32))] [])) _
          refine XS.goto X69.here hx rfl (pc0 := 167) (pc' := 176) rfl (hb hby at_167) (by decide) (by decide) ?_
          show Steps p.tables e below (T69.setTop (mkF m 176 #[.val (.int p1), .val (.int md), .val (.int pr), .val (.int nr), .val (.ref o), .val (.int (own_b true)), .val (.int (1 : Int32)), .val (.int (1 : Int32))] [])) _
          refine XS.aload X69.here hx rfl (hb hby at_176) rfl rfl ?_
          show Steps p.tables e below (T69.setTop (mkF m 178 #[.val (.int p1), .val (.int md), .val (.int pr), .val (.int nr), .val (.ref o), .val (.int (own_b true)), .val (.int (1 : Int32)), .val (.int (1 : Int32))] [(.ref o)])) _
          refine st70.trans ?_
          show Steps p.tables e below (T70.setTop (mkF m 181 #[.val (.int p1), .val (.int md), .val (.int pr), .val (.int nr), .val (.ref o), .val (.int (own_b true)), .val (.int (1 : Int32)), .val (.int (1 : Int32))] [])) _
          refine XS.iload X70.here hx rfl (hb hby at_181) rfl ?_
          show Steps p.tables e below (T70.setTop (mkF m 183 #[.val (.int p1), .val (.int md), .val (.int pr), .val (.int nr), .val (.ref o), .val (.int (own_b true)), .val (.int (1 : Int32)), .val (.int (1 : Int32))] [(.int (own_b true))])) _
          refine XS.iload X70.here hx rfl (hb hby at_183) rfl ?_
          show Steps p.tables e below (T70.setTop (mkF m 185 #[.val (.int p1), .val (.int md), .val (.int pr), .val (.int nr), .val (.ref o), .val (.int (own_b true)), .val (.int (1 : Int32)), .val (.int (1 : Int32))] [(.int (1 : Int32)), (.int (own_b true))])) _
          refine XS.icmpNo X70.here hx rfl (hb hby at_185) rfl (teq rfl).2 ?_
          show Steps p.tables e below (T70.setTop (mkF m 188 #[.val (.int p1), .val (.int md), .val (.int pr), .val (.int nr), .val (.ref o), .val (.int (own_b true)), .val (.int (1 : Int32)), .val (.int (1 : Int32))] [])) _
          refine XS.aload X70.here hx rfl (hb hby at_188) rfl rfl ?_
          show Steps p.tables e below (T70.setTop (mkF m 190 #[.val (.int p1), .val (.int md), .val (.int pr), .val (.int nr), .val (.ref o), .val (.int (own_b true)), .val (.int (1 : Int32)), .val (.int (1 : Int32))] [(.ref o)])) _
          refine st71.trans ?_
          show Steps p.tables e below (T71.setTop (mkF m 193 #[.val (.int p1), .val (.int md), .val (.int pr), .val (.int nr), .val (.ref o), .val (.int (own_b true)), .val (.int (1 : Int32)), .val (.int (1 : Int32))] [(.int ((((0 : Int32) + 1) + 1) - 1))])) _
          refine XS.iload X71.here hx rfl (hb hby at_193) rfl ?_
          show Steps p.tables e below (T71.setTop (mkF m 195 #[.val (.int p1), .val (.int md), .val (.int pr), .val (.int nr), .val (.ref o), .val (.int (own_b true)), .val (.int (1 : Int32)), .val (.int (1 : Int32))] [(.int (1 : Int32)), (.int ((((0 : Int32) + 1) + 1) - 1))])) _
          refine XS.icmpNo X71.here hx rfl (hb hby at_195) rfl (teq (by decide)).2 ?_
          show Steps p.tables e below (T71.setTop (mkF m 198 #[.val (.int p1), .val (.int md), .val (.int pr), .val (.int nr), .val (.ref o), .val (.int (own_b true)), .val (.int (1 : Int32)), .val (.int (1 : Int32))] [])) _
          refine XS.iconst X71.here hx rfl (hb hby at_198) ?_
          show Steps p.tables e below (T71.setTop (mkF m 199 #[.val (.int p1), .val (.int md), .val (.int pr), .val (.int nr), .val (.ref o), .val (.int (own_b true)), .val (.int (1 : Int32)), .val (.int (1 : Int32))] [(.int (1 : Int32))])) _
          refine XS.goto X71.here hx rfl (pc0 := 199) (pc' := 203) rfl (hb hby at_199) (by decide) (by decide) ?_
          show Steps p.tables e below (T71.setTop (mkF m 203 #[.val (.int p1), .val (.int md), .val (.int pr), .val (.int nr), .val (.ref o), .val (.int (own_b true)), .val (.int (1 : Int32)), .val (.int (1 : Int32))] [(.int (1 : Int32))])) _
          exact retN X71 hx (t := .boolean) Bd.returns (by simp) (hb hby at_203) hr
        · show Q_law Z p1 h0 n0 _ T71.heap _
          rw [e71]
          exact ⟨rfl, N71⟩
      · obtain ⟨cq72, kq72, q72a, q72b, q72c⟩ := isOf hZ rfl (D_53.1)
        obtain ⟨_, _, ⟨T72, L72, k72, n72⟩, -, X72, ⟨Lc72, hQ72, l72, y72, z72⟩, st72⟩ := X67.virtualBack hx (y := (⟨"com/example/gabarit/gabarit/shacl/DescriptionOrder", "property", "()Z"⟩ : MethodName)) (z := (⟨"com/example/gabarit/gabarit/shacl/DescriptionOrder", "property", "()Z"⟩ : MethodName)) hown (mvT hZ (hw _ (List.mem_of_getElem? (i := 69) rfl))) (mvT hZ (hw _ (List.mem_of_getElem? (i := 70) rfl))) (notFace_of_selects (args := #[]) (mvT hZ (hw _ (List.mem_of_getElem? (i := 72) rfl)))) (mvT hZ (hw _ (List.mem_of_getElem? (i := 72) rfl))) (mvT hZ (hw _ (List.mem_of_getElem? (i := 71) rfl))) (by decide) (backOf (W := 0) (rm_prop l Z a0 hw [] o q el k bD_53 false [(f0, false, true)] (((0 : Int32) + 1) + 1) T67.heap n0 sz67 D_53 (by simp)) hZ (hw _ (List.mem_of_getElem? (i := 73) rfl)) (hw _ (List.mem_of_getElem? (i := 2) rfl)) (by decide) (by decide)) q72a q72c (g := (mkF m 116 #[.val (.int p1), .val (.int md), .val (.int pr), .val (.int nr), .val (.ref o), .unset, .unset, .unset] [(.ref o)])) rfl (by rw [hml]; rfl) (Steps.refl _) (argsL := []) (rest := []) (lenOf own_pd5 rfl) rfl (by show 2 * 0 + _ ≤ _; exact Nat.le_of_eq rfl) (hb hby at_116) (fun _ _ => ⟨rfl, rfl, (by decide : 5 + 0 ≤ _), (by decide : 27 + 0 ≤ _)⟩)
        dsimp only [Pt.U, Pt.locs, Pt.cells, Pt.slots] at X72 l72 y72 z72 st72 hQ72
        rw [l72, y72, z72] at X72
        obtain ⟨rfl, Nq72, z72, D_57⟩ := hQ72
        have sz72 : n0 ≤ T72.heap.size := Nat.le_trans sz67 z72
        have N72 := Fr.app N67 Nq72
        obtain ⟨cq73, kq73, q73a, q73b, q73c⟩ := isOf hZ rfl (D_57.1)
        obtain ⟨_, _, ⟨T73, L73, k73, n73⟩, -, X73, ⟨Lc73, hQ73, l73, y73, z73⟩, st73⟩ := X72.virtualBack hx (y := (⟨"com/example/gabarit/gabarit/shacl/DescriptionOrder", "value", "()V"⟩ : MethodName)) (z := (⟨"com/example/gabarit/gabarit/shacl/DescriptionOrder", "value", "()V"⟩ : MethodName)) hown (mvT hZ (hw _ (List.mem_of_getElem? (i := 98) rfl))) (mvT hZ (hw _ (List.mem_of_getElem? (i := 99) rfl))) (notFace_of_selects (args := #[]) (mvT hZ (hw _ (List.mem_of_getElem? (i := 101) rfl)))) (mvT hZ (hw _ (List.mem_of_getElem? (i := 101) rfl))) (mvT hZ (hw _ (List.mem_of_getElem? (i := 100) rfl))) (by decide) (backOf (W := 0) (rm_val l Z a0 hw [] o q el k bD_53 false true [(f0, false, true)] true (((0 : Int32) + 1) + 1) T72.heap n0 sz72 D_57 (by simp) (by simp)) hZ (hw _ (List.mem_of_getElem? (i := 102) rfl)) (hw _ (List.mem_of_getElem? (i := 2) rfl)) (by decide) (by decide)) q73a q73c (g := (mkF m 122 #[.val (.int p1), .val (.int md), .val (.int pr), .val (.int nr), .val (.ref o), .unset, .unset, .unset] [(.ref o)])) rfl (by rw [hml]; rfl) (Steps.refl _) (argsL := []) (rest := []) (lenOf own_pd0 rfl) rfl (by show 2 * 0 + _ ≤ _; exact Nat.le_of_eq rfl) (hb hby at_122) (fun _ _ => ⟨rfl, rfl, (by decide : 5 + 0 ≤ _), (by decide : 27 + 0 ≤ _)⟩)
        dsimp only [Pt.U, Pt.locs, Pt.cells, Pt.slots] at X73 l73 y73 z73 st73 hQ73
        rw [l73, y73, z73] at X73
        obtain ⟨rfl, Nq73, z73, D_58⟩ := hQ73
        have sz73 : n0 ≤ T73.heap.size := Nat.le_trans sz72 z73
        have N73 := Fr.app N72 Nq73
        obtain ⟨cq74, kq74, q74a, q74b, q74c⟩ := isOf hZ rfl (D_58.1)
        obtain ⟨_, _, ⟨T74, L74, k74, n74⟩, -, X74, ⟨Lc74, hQ74, l74, y74, z74⟩, st74⟩ := X73.virtualBack hx (y := (⟨"com/example/gabarit/gabarit/shacl/DescriptionOrder", "endBlankNode", "()Z"⟩ : MethodName)) (z := (⟨"com/example/gabarit/gabarit/shacl/DescriptionOrder", "endBlankNode", "()Z"⟩ : MethodName)) hown (mvT hZ (hw _ (List.mem_of_getElem? (i := 109) rfl))) (mvT hZ (hw _ (List.mem_of_getElem? (i := 110) rfl))) (notFace_of_selects (args := #[]) (mvT hZ (hw _ (List.mem_of_getElem? (i := 112) rfl)))) (mvT hZ (hw _ (List.mem_of_getElem? (i := 112) rfl))) (mvT hZ (hw _ (List.mem_of_getElem? (i := 111) rfl))) (by decide) (backOf (W := 0) (rm_ebn l Z a0 hw [] o q el k bD_53 true [(f0, false, true)] (((0 : Int32) + 1) + 1) T73.heap n0 sz73 D_58 (by simp)) hZ (hw _ (List.mem_of_getElem? (i := 113) rfl)) (hw _ (List.mem_of_getElem? (i := 2) rfl)) (by decide) (by decide)) q74a q74c (g := (mkF m 132 #[.val (.int p1), .val (.int md), .val (.int pr), .val (.int nr), .val (.ref o), .unset, .unset, .unset] [(.ref o)])) rfl (by rw [hml]; rfl) (Steps.refl _) (argsL := []) (rest := []) (lenOf own_pd5 rfl) rfl (by show 2 * 0 + _ ≤ _; exact Nat.le_of_eq rfl) (hb hby at_132) (fun _ _ => ⟨rfl, rfl, (by decide : 5 + 0 ≤ _), (by decide : 27 + 0 ≤ _)⟩)
        dsimp only [Pt.U, Pt.locs, Pt.cells, Pt.slots] at X74 l74 y74 z74 st74 hQ74
        rw [l74, y74, z74] at X74
        obtain ⟨rfl, Nq74, z74, D_59⟩ := hQ74
        have sz74 : n0 ≤ T74.heap.size := Nat.le_trans sz73 z74
        have N74 := Fr.app N73 Nq74
        obtain ⟨cq75, kq75, q75a, q75b, q75c⟩ := isOf hZ rfl (D_59.1)
        obtain ⟨_, _, ⟨T75, L75, k75, n75⟩, -, X75, ⟨Lc75, hQ75, l75, y75, z75⟩, st75⟩ := X74.virtualBack hx (y := (⟨"com/example/gabarit/gabarit/shacl/DescriptionOrder", "property", "()Z"⟩ : MethodName)) (z := (⟨"com/example/gabarit/gabarit/shacl/DescriptionOrder", "property", "()Z"⟩ : MethodName)) hown (mvT hZ (hw _ (List.mem_of_getElem? (i := 69) rfl))) (mvT hZ (hw _ (List.mem_of_getElem? (i := 70) rfl))) (notFace_of_selects (args := #[]) (mvT hZ (hw _ (List.mem_of_getElem? (i := 72) rfl)))) (mvT hZ (hw _ (List.mem_of_getElem? (i := 72) rfl))) (mvT hZ (hw _ (List.mem_of_getElem? (i := 71) rfl))) (by decide) (backOf (W := 0) (rm_prop l Z a0 hw [] o q el k f0 true [] ((((0 : Int32) + 1) + 1) - 1) T74.heap n0 sz74 D_59 (by simp)) hZ (hw _ (List.mem_of_getElem? (i := 73) rfl)) (hw _ (List.mem_of_getElem? (i := 2) rfl)) (by decide) (by decide)) q75a q75c (g := (mkF m 138 #[.val (.int p1), .val (.int md), .val (.int pr), .val (.int nr), .val (.ref o), .unset, .unset, .unset] [(.ref o)])) rfl (by rw [hml]; rfl) (Steps.refl _) (argsL := []) (rest := []) (lenOf own_pd5 rfl) rfl (by show 2 * 0 + _ ≤ _; exact Nat.le_of_eq rfl) (hb hby at_138) (fun _ _ => ⟨rfl, rfl, (by decide : 5 + 0 ≤ _), (by decide : 27 + 0 ≤ _)⟩)
        dsimp only [Pt.U, Pt.locs, Pt.cells, Pt.slots] at X75 l75 y75 z75 st75 hQ75
        rw [l75, y75, z75] at X75
        obtain ⟨rfl, Nq75, z75, D_60⟩ := hQ75
        have sz75 : n0 ≤ T75.heap.size := Nat.le_trans sz74 z75
        have N75 := Fr.app N74 Nq75
        obtain ⟨cq76, kq76, q76a, q76b, q76c⟩ := isOf hZ rfl (D_60.1)
        obtain ⟨_, _, ⟨T76, L76, k76, n76⟩, -, X76, ⟨Lc76, hQ76, l76, y76, z76⟩, st76⟩ := X75.virtualBack hx (y := (⟨"com/example/gabarit/gabarit/shacl/DescriptionOrder", "value", "()V"⟩ : MethodName)) (z := (⟨"com/example/gabarit/gabarit/shacl/DescriptionOrder", "value", "()V"⟩ : MethodName)) hown (mvT hZ (hw _ (List.mem_of_getElem? (i := 98) rfl))) (mvT hZ (hw _ (List.mem_of_getElem? (i := 99) rfl))) (notFace_of_selects (args := #[]) (mvT hZ (hw _ (List.mem_of_getElem? (i := 101) rfl)))) (mvT hZ (hw _ (List.mem_of_getElem? (i := 101) rfl))) (mvT hZ (hw _ (List.mem_of_getElem? (i := 100) rfl))) (by decide) (backOf (W := 0) (rm_val l Z a0 hw [] o q el k f0 false true [] true ((((0 : Int32) + 1) + 1) - 1) T75.heap n0 sz75 D_60 (by simp) (by simp)) hZ (hw _ (List.mem_of_getElem? (i := 102) rfl)) (hw _ (List.mem_of_getElem? (i := 2) rfl)) (by decide) (by decide)) q76a q76c (g := (mkF m 178 #[.val (.int p1), .val (.int md), .val (.int pr), .val (.int nr), .val (.ref o), .val (.int (own_b true)), .val (.int (1 : Int32)), .val (.int (1 : Int32))] [(.ref o)])) rfl (by rw [hml]; rfl) (Steps.refl _) (argsL := []) (rest := []) (lenOf own_pd0 rfl) rfl (by show 2 * 0 + _ ≤ _; exact Nat.le_of_eq rfl) (hb hby at_178) (fun _ _ => ⟨rfl, rfl, (by decide : 5 + 0 ≤ _), (by decide : 27 + 0 ≤ _)⟩)
        dsimp only [Pt.U, Pt.locs, Pt.cells, Pt.slots] at X76 l76 y76 z76 st76 hQ76
        rw [l76, y76, z76] at X76
        obtain ⟨rfl, Nq76, z76, D_61⟩ := hQ76
        have sz76 : n0 ≤ T76.heap.size := Nat.le_trans sz75 z76
        have N76 := Fr.app N75 Nq76
        obtain ⟨cq77, kq77, q77a, q77b, q77c⟩ := isOf hZ rfl (D_61.1)
        obtain ⟨_, _, ⟨T77, L77, k77, n77⟩, -, X77, ⟨Lc77, hQ77, l77, y77, z77⟩, st77⟩ := X76.virtualBack hx (y := (⟨"com/example/gabarit/gabarit/shacl/DescriptionOrder", "blankNodesOpen", "()I"⟩ : MethodName)) (z := (⟨"com/example/gabarit/gabarit/shacl/DescriptionOrder", "blankNodesOpen", "()I"⟩ : MethodName)) hown (mvT hZ (hw _ (List.mem_of_getElem? (i := 103) rfl))) (mvT hZ (hw _ (List.mem_of_getElem? (i := 104) rfl))) (notFace_of_selects (args := #[]) (mvT hZ (hw _ (List.mem_of_getElem? (i := 106) rfl)))) (mvT hZ (hw _ (List.mem_of_getElem? (i := 106) rfl))) (mvT hZ (hw _ (List.mem_of_getElem? (i := 105) rfl))) (by decide) (backOf (W := 0) (rm_bno l Z a0 hw [] o ((((0 : Int32) + 1) + 1) - 1) T76.heap n0 sz76 D_61.2.2.2.1) hZ (hw _ (List.mem_of_getElem? (i := 107) rfl)) (hw _ (List.mem_of_getElem? (i := 2) rfl)) (by decide) (by decide)) q77a q77c (g := (mkF m 190 #[.val (.int p1), .val (.int md), .val (.int pr), .val (.int nr), .val (.ref o), .val (.int (own_b true)), .val (.int (1 : Int32)), .val (.int (1 : Int32))] [(.ref o)])) rfl (by rw [hml]; rfl) (Steps.refl _) (argsL := []) (rest := []) (lenOf own_pd8 rfl) rfl (by show 2 * 0 + _ ≤ _; exact Nat.le_of_eq rfl) (hb hby at_190) (fun _ _ => ⟨rfl, rfl, (by decide : 5 + 0 ≤ _), (by decide : 27 + 0 ≤ _)⟩)
        dsimp only [Pt.U, Pt.locs, Pt.cells, Pt.slots] at X77 l77 y77 z77 st77 hQ77
        rw [l77, y77, z77] at X77
        obtain ⟨rfl, Nq77, e77⟩ := hQ77
        have N77 := Fr.app N76 Nq77
        obtain ⟨fs, hr, hrun, hended, hW, hsame⟩ := X77.leave (v := some (.int (1 : Int32))) (fun h => by rw [Bd.returns] at h; cases h)
        refine ⟨_, _, pre0 _ ?_, hrun, hended, _, _, rfl, ?_, ⟨_, rfl⟩, hW, hsame.mono (by decide) (by decide)⟩
        · show Steps p.tables e below (s₁.setTop (mkF m 0 #[.val (.int p1), .unset, .unset, .unset, .unset, .unset, .unset, .unset] [])) _
          refine pM3 _ ?_
          show Steps p.tables e below (T67.setTop (mkF m 111 #[.val (.int p1), .val (.int md), .val (.int pr), .val (.int nr), .val (.ref o), .unset, .unset, .unset] [(.int nr)])) _
          refine XS.ifNo X67.here hx rfl (hb hby at_111) rfl ((if0 _ _).trans (feq (by rw [hq]; decide)).1) ?_
          show Steps p.tables e below (T67.setTop (mkF m 114 #[.val (.int p1), .val (.int md), .val (.int pr), .val (.int nr), .val (.ref o), .unset, .unset, .unset] [])) _
          refine XS.aload X67.here hx rfl (hb hby at_114) rfl rfl ?_
          show Steps p.tables e below (T67.setTop (mkF m 116 #[.val (.int p1), .val (.int md), .val (.int pr), .val (.int nr), .val (.ref o), .unset, .unset, .unset] [(.ref o)])) _
          refine st72.trans ?_
          show Steps p.tables e below (T72.setTop (mkF m 119 #[.val (.int p1), .val (.int md), .val (.int pr), .val (.int nr), .val (.ref o), .unset, .unset, .unset] [(.int (own_b false))])) _
          refine XS.pop X72.here hx rfl (hb hby at_119) rfl rfl ?_
          show Steps p.tables e below (T72.setTop (mkF m 120 #[.val (.int p1), .val (.int md), .val (.int pr), .val (.int nr), .val (.ref o), .unset, .unset, .unset] [])) _
          refine XS.aload X72.here hx rfl (hb hby at_120) rfl rfl ?_
          show Steps p.tables e below (T72.setTop (mkF m 122 #[.val (.int p1), .val (.int md), .val (.int pr), .val (.int nr), .val (.ref o), .unset, .unset, .unset] [(.ref o)])) _
          refine st73.trans ?_
          show Steps p.tables e below (T73.setTop (mkF m 125 #[.val (.int p1), .val (.int md), .val (.int pr), .val (.int nr), .val (.ref o), .unset, .unset, .unset] [])) _
          refine XS.iloadN X73.here hx rfl (hb hby at_125) rfl ?_
          show Steps p.tables e below (T73.setTop (mkF m 126 #[.val (.int p1), .val (.int md), .val (.int pr), .val (.int nr), .val (.ref o), .unset, .unset, .unset] [(.int md)])) _
          refine XS.iconst X73.here hx rfl (hb hby at_126) ?_
          show Steps p.tables e below (T73.setTop (mkF m 127 #[.val (.int p1), .val (.int md), .val (.int pr), .val (.int nr), .val (.ref o), .unset, .unset, .unset] [(.int (3 : Int32)), (.int md)])) _
          refine XS.icmpNo X73.here hx rfl (hb hby at_127) rfl (teq hm3).2 ?_
          show Steps p.tables e below (T73.setTop (mkF m 130 #[.val (.int p1), .val (.int md), .val (.int pr), .val (.int nr), .val (.ref o), .unset, .unset, .unset] [])) _
          refine XS.aload X73.here hx rfl (hb hby at_130) rfl rfl ?_
          show Steps p.tables e below (T73.setTop (mkF m 132 #[.val (.int p1), .val (.int md), .val (.int pr), .val (.int nr), .val (.ref o), .unset, .unset, .unset] [(.ref o)])) _
          refine st74.trans ?_
          show Steps p.tables e below (T74.setTop (mkF m 135 #[.val (.int p1), .val (.int md), .val (.int pr), .val (.int nr), .val (.ref o), .unset, .unset, .unset] [(.int (own_b true))])) _
          refine XS.pop X74.here hx rfl (hb hby at_135) rfl rfl ?_
          show Steps p.tables e below (T74.setTop (mkF m 136 #[.val (.int p1), .val (.int md), .val (.int pr), .val (.int nr), .val (.ref o), .unset, .unset, .unset] [])) _
          refine XS.aload X74.here hx rfl (hb hby at_136) rfl rfl ?_
          show Steps p.tables e below (T74.setTop (mkF m 138 #[.val (.int p1), .val (.int md), .val (.int pr), .val (.int nr), .val (.ref o), .unset, .unset, .unset] [(.ref o)])) _
          refine st75.trans ?_
          show Steps p.tables e below (T75.setTop (mkF m 141 #[.val (.int p1), .val (.int md), .val (.int pr), .val (.int nr), .val (.ref o), .unset, .unset, .unset] [(.int (own_b true))])) _
          refine XS.istore X75.here hx rfl (hb hby at_141) rfl (l' := #[.val (.int p1), .val (.int md), .val (.int pr), .val (.int nr), .val (.ref o), .val (.int (own_b true)), .unset, .unset]) rfl ?_
          show Steps p.tables e below (T75.setTop (mkF m 143 #[.val (.int p1), .val (.int md), .val (.int pr), .val (.int nr), .val (.ref o), .val (.int (own_b true)), .unset, .unset] [])) _
          refine XS.iloadN X75.here hx rfl (hb hby at_143) rfl ?_
          show Steps p.tables e below (T75.setTop (mkF m 144 #[.val (.int p1), .val (.int md), .val (.int pr), .val (.int nr), .val (.ref o), .val (.int (own_b true)), .unset, .unset] [(.int md)])) _
          refine XS.ifYes X75.here hx rfl (pc0 := 144) (pc' := 156) rfl (hb hby at_144) rfl ((if0 _ _).trans (feq (by rw [hm3]; decide)).2) (by decide) (by decide) ?_
          show Steps p.tables e below (T75.setTop (mkF m 156 #[.val (.int p1), .val (.int md), .val (.int pr), .val (.int nr), .val (.ref o), .val (.int (own_b true)), .unset, .unset] [])) _
          refine XS.iloadN X75.here hx rfl (hb hby at_156) rfl ?_
          show Steps p.tables e below (T75.setTop (mkF m 157 #[.val (.int p1), .val (.int md), .val (.int pr), .val (.int nr), .val (.ref o), .val (.int (own_b true)), .unset, .unset] [(.int md)])) _
          refine XS.iconst X75.here hx rfl (hb hby at_157) ?_
          show Steps p.tables e below (T75.setTop (mkF m 158 #[.val (.int p1), .val (.int md), .val (.int pr), .val (.int nr), .val (.ref o), .val (.int (own_b true)), .unset, .unset] [(.int (3 : Int32)), (.int md)])) _
          refine XS.icmpNo X75.here hx rfl (hb hby at_158) rfl (teq hm3).2 ?_
          show Steps p.tables e below (T75.setTop (mkF m 161 #[.val (.int p1), .val (.int md), .val (.int pr), .val (.int nr), .val (.ref o), .val (.int (own_b true)), .unset, .unset] [])) _
          refine XS.iconst X75.here hx rfl (hb hby at_161) ?_
          show Steps p.tables e below (T75.setTop (mkF m 162 #[.val (.int p1), .val (.int md), .val (.int pr), .val (.int nr), .val (.ref o), .val (.int (own_b true)), .unset, .unset] [(.int (1 : Int32))])) _
          refine XS.istore X75.here hx rfl (hb hby at_162) rfl (l' := #[.val (.int p1), .val (.int md), .val (.int pr), .val (.int nr), .val (.ref o), .val (.int (own_b true)), .val (.int (1 : Int32)), .unset]) rfl ?_
          show Steps p.tables e below (T75.setTop (mkF m 164 #[.val (.int p1), .val (.int md), .val (.int pr), .val (.int nr), .val (.ref o), .val (.int (own_b true)), .val (.int (1 : Int32)), .unset] [])) _
          refine XS.iconst X75.here hx rfl (hb hby at_164) ?_
          show Steps p.tables e below (T75.setTop (mkF m 165 #[.val (.int p1), .val (.int md), .val (.int pr), .val (.int nr), .val (.ref o), .val (.int (own_b true)), .val (.int (1 : Int32)), .unset] [(.int (1 : Int32))])) _
          refine XS.istore X75.here hx rfl (hb hby at_165) rfl (l' := #[.val (.int p1), .val (.int md), .val (.int pr), .val (.int nr), .val (.ref o), .val (.int (own_b true)), .val (.int (1 : Int32)), .val (.int (1 : Int32))]) rfl ?_
          show Steps p.tables e below (T75.setTop (mkF m 167 #[.val (.int p1), .val (.int md), .val (.int pr), .val (.int nr), .val (.ref o), .val (.int (own_b true)), .val (.int (1 : Int32)), .val (.int (1 : Int32))] [])) _
          refine XS.goto X75.here hx rfl (pc0 := 167) (pc' := 176) rfl (hb hby at_167) (by decide) (by decide) ?_
          show Steps p.tables e below (T75.setTop (mkF m 176 #[.val (.int p1), .val (.int md), .val (.int pr), .val (.int nr), .val (.ref o), .val (.int (own_b true)), .val (.int (1 : Int32)), .val (.int (1 : Int32))] [])) _
          refine XS.aload X75.here hx rfl (hb hby at_176) rfl rfl ?_
          show Steps p.tables e below (T75.setTop (mkF m 178 #[.val (.int p1), .val (.int md), .val (.int pr), .val (.int nr), .val (.ref o), .val (.int (own_b true)), .val (.int (1 : Int32)), .val (.int (1 : Int32))] [(.ref o)])) _
          refine st76.trans ?_
          show Steps p.tables e below (T76.setTop (mkF m 181 #[.val (.int p1), .val (.int md), .val (.int pr), .val (.int nr), .val (.ref o), .val (.int (own_b true)), .val (.int (1 : Int32)), .val (.int (1 : Int32))] [])) _
          refine XS.iload X76.here hx rfl (hb hby at_181) rfl ?_
          show Steps p.tables e below (T76.setTop (mkF m 183 #[.val (.int p1), .val (.int md), .val (.int pr), .val (.int nr), .val (.ref o), .val (.int (own_b true)), .val (.int (1 : Int32)), .val (.int (1 : Int32))] [(.int (own_b true))])) _
          refine XS.iload X76.here hx rfl (hb hby at_183) rfl ?_
          show Steps p.tables e below (T76.setTop (mkF m 185 #[.val (.int p1), .val (.int md), .val (.int pr), .val (.int nr), .val (.ref o), .val (.int (own_b true)), .val (.int (1 : Int32)), .val (.int (1 : Int32))] [(.int (1 : Int32)), (.int (own_b true))])) _
          refine XS.icmpNo X76.here hx rfl (hb hby at_185) rfl (teq rfl).2 ?_
          show Steps p.tables e below (T76.setTop (mkF m 188 #[.val (.int p1), .val (.int md), .val (.int pr), .val (.int nr), .val (.ref o), .val (.int (own_b true)), .val (.int (1 : Int32)), .val (.int (1 : Int32))] [])) _
          refine XS.aload X76.here hx rfl (hb hby at_188) rfl rfl ?_
          show Steps p.tables e below (T76.setTop (mkF m 190 #[.val (.int p1), .val (.int md), .val (.int pr), .val (.int nr), .val (.ref o), .val (.int (own_b true)), .val (.int (1 : Int32)), .val (.int (1 : Int32))] [(.ref o)])) _
          refine st77.trans ?_
          show Steps p.tables e below (T77.setTop (mkF m 193 #[.val (.int p1), .val (.int md), .val (.int pr), .val (.int nr), .val (.ref o), .val (.int (own_b true)), .val (.int (1 : Int32)), .val (.int (1 : Int32))] [(.int ((((0 : Int32) + 1) + 1) - 1))])) _
          refine XS.iload X77.here hx rfl (hb hby at_193) rfl ?_
          show Steps p.tables e below (T77.setTop (mkF m 195 #[.val (.int p1), .val (.int md), .val (.int pr), .val (.int nr), .val (.ref o), .val (.int (own_b true)), .val (.int (1 : Int32)), .val (.int (1 : Int32))] [(.int (1 : Int32)), (.int ((((0 : Int32) + 1) + 1) - 1))])) _
          refine XS.icmpNo X77.here hx rfl (hb hby at_195) rfl (teq (by decide)).2 ?_
          show Steps p.tables e below (T77.setTop (mkF m 198 #[.val (.int p1), .val (.int md), .val (.int pr), .val (.int nr), .val (.ref o), .val (.int (own_b true)), .val (.int (1 : Int32)), .val (.int (1 : Int32))] [])) _
          refine XS.iconst X77.here hx rfl (hb hby at_198) ?_
          show Steps p.tables e below (T77.setTop (mkF m 199 #[.val (.int p1), .val (.int md), .val (.int pr), .val (.int nr), .val (.ref o), .val (.int (own_b true)), .val (.int (1 : Int32)), .val (.int (1 : Int32))] [(.int (1 : Int32))])) _
          refine XS.goto X77.here hx rfl (pc0 := 199) (pc' := 203) rfl (hb hby at_199) (by decide) (by decide) ?_
          show Steps p.tables e below (T77.setTop (mkF m 203 #[.val (.int p1), .val (.int md), .val (.int pr), .val (.int nr), .val (.ref o), .val (.int (own_b true)), .val (.int (1 : Int32)), .val (.int (1 : Int32))] [(.int (1 : Int32))])) _
          exact retN X77 hx (t := .boolean) Bd.returns (by simp) (hb hby at_203) hr
        · show Q_law Z p1 h0 n0 _ T77.heap _
          rw [e77]
          exact ⟨rfl, N77⟩
set_option maxRecDepth 65536 in
set_option maxHeartbeats 40000000 in
theorem comes_1 {Post : Tables → Env → Array Value → State → Outcome → State → Prop} (hpost : ∀ tb e args s v u, (limb_1_1.after args s (.returned v) u = true ∧ limb_1_2.after args s (.returned v) u = true ∧ True) → FrameEnd s (.returned v) u (Jvm.fieldLocs frame_1_writes args s ++ Jvm.arrayLocs frame_1_arrays args s ++ Jvm.staticLocs frame_1_statics s) 24 128 → Post tb e args s (.returned v) u) :
    ArmFor flags0 classFile x code maxLocals ret World_1 tables_1 room_1 Calls_1 rest_1 Pre_1 Post := by
  intro l hfl _ _ p e ha hc hk s m args below hf hA hF happ hP
  obtain ⟨hcalls, hrest, hpre⟩ := hP
  obtain ⟨-, -, -, hnamed, -, -, -, hat⟩ := (Spec.applies_iff hf).mp happ
  obtain ⟨hg, hn⟩ := and_e (Cond.before_iff.mp (show (Jvm.Cond.and given_1 narrow_1).before args s = true from hpre))
  obtain ⟨hcount, hg0⟩ := and_e hg
  have ga0 := hg0
  obtain ⟨w0, rfl⟩ : ∃ w0 : Value, args = #[w0] := by
    have hs : args.size = 1 := by simpa [Cond.value, given_1] using hcount
    obtain ⟨L⟩ := args
    match L, hs with
    | [w0], _ => exact ⟨w0, rfl⟩
  have hw := fun d (hd : d ∈ tables_1) => atoms_spec (ws := Jvm.Cond.code x code maxLocals ret :: tables_1) hat d (List.mem_cons_of_mem _ hd)
  obtain ⟨i0, ei0⟩ := is_v ga0
  obtain rfl : w0 = (.int i0) := Option.some.inj ei0
  obtain ⟨n, o, h1, h2, h3, _, L, rfl, ⟨rfl, N⟩, hq⟩ := rm_law l s _ hw tables_1 i0 s.heap s.heap.size (Nat.le_refl _) p e ha hc hk s m _ below hf ((Spec.applies_iff_loose hf).mp happ).1 ⟨rfl, State.Warmed39.refl s, rfl⟩ trivial
  refine ⟨n, _, h1, h2, h3, hpost _ _ _ _ _ _ ⟨Cond.after_iff.mpr rfl, Cond.after_iff.mpr (eq_i res_at (Term.int_eval (1)) rfl), trivial⟩ ⟨hq.1, hq.2.1, (hq.2.2.sift fun y hy => Or.inr (N y hy)).mono (by decide) (by decide)⟩⟩
theorem main_1_1 : Claimed_1_1 := comes_1 fun _ _ _ _ _ _ h hF => ⟨h.1, hF⟩
theorem main_1_2 : Claimed_1_2 := comes_1 fun _ _ _ _ _ _ h hF => ⟨h.2.1, hF⟩
end Jvm.Pilot.@@N@@
namespace Jvm.Pilot.@@N@@
open Jvm Jvm.ClassFile Sem Op Lib Jvm.Free Jvm.Stand Jvm.Pilot.@@N@@.Jvm.D
/-! MADE BY PROGRAM (witnessworld.py) out of the Statement's table words and the real class files: 18 classes; the members and pool entries that the words name. The judged class is class 1, her method 1. -/
namespace start1
open Jvm.ClassFile
def u (s : String) : CpInfo := .utf8 (stringToUtf16 s)
/-- a pool by its gaps: so many unusable entries, then the entry; so many at the end -/
def gap : Nat → List CpInfo → List CpInfo
  | 0, r => r
  | n + 1, r => .unusable :: gap n r
def poolList (es : List (Nat × CpInfo)) (last : Nat) : List CpInfo := es.foldr (fun e r => gap e.1 (e.2 :: r)) (gap last [])
def pool (es : List (Nat × CpInfo)) (last : Nat) : Array CpInfo := ⟨poolList es last⟩
def fileOf (pool : Array CpInfo) (this : Nat) (attrs : Array Attribute := #[]) (ms : Array MethodInfo := #[]) (fl : Nat := 33) (sup : Nat := 0) (ifs : Array Nat := #[]) (fds : Array FieldInfo := #[]) : ClassFile where
  minorVersion := 0
  majorVersion := 65
  constantPool := pool
  accessFlags := fl
  thisClass := this
  superClass := sup
  interfaces := ifs
  fields := fds
  methods := ms
  attributes := attrs
def plain (name : String) (sup : Option ClassId) : Class where
  name := name
  kind := .ordinary
  loader := none
  accessFlags := 33
  super := sup
  interfaces := #[]
  cf := none
  fields := #[]
  methods := #[]
  instanceTypes := #[]
  staticTypes := #[]
  resolved := #[]
  callSites := []
  init := .initialized
  statics := none
  mirror := none

def pool0 : Array CpInfo := pool [(5, u "<init>"), (0, u "()V"), (1, .class_ 10), (1, u "java/lang/Object")] 113

def k0c0 : Code := { maxStack := 0, maxLocals := 1, code := object_method_1_code, exceptionTable := #[], attributes := #[] }
def k0m0 : Method := { name := "<init>", desc := "()V", sig := { parameters := [], returnType := none }, accessFlags := 1, code := some k0c0 }
/-- java/lang/Object -/
def k0 : Class := { plain "java/lang/Object" none with
  accessFlags := 33
  interfaces := #[]
  cf := some (fileOf pool0 8 #[] #[{ accessFlags := 1, nameIndex := 5, descriptorIndex := 6, attributes := #[] }] 33 0 #[] #[])
  fields := #[]
  methods := #[k0m0]
  instanceTypes := #[]
  staticTypes := #[]
  resolved := Array.replicate 124 none
  statics := none }

def pool1 : Array CpInfo := pool [(2, .class_ 4), (0, .nameAndType 5 6), (0, u "java/lang/Object"), (0, u "<init>"), (0, u "()V"), (0, .class_ 8), (0, u "com/example/gabarit/gabarit/shacl/DescriptionOrder"), (0, .methodref 7 3), (0, .methodref 7 11), (0, .nameAndType 12 13), (0, u "beginBlankNode"), (0, u "()Z"), (0, .methodref 7 15), (0, .nameAndType 16 13), (0, u "property"), (0, .methodref 7 18), (0, .nameAndType 19 6), (0, u "value"), (0, .methodref 7 21), (0, .nameAndType 22 6), (0, u "beginList"), (0, .methodref 7 24), (0, .nameAndType 25 13), (0, u "endBlankNode"), (0, .methodref 7 27), (0, .nameAndType 28 29), (0, u "blankNodesOpen"), (0, u "()I"), (0, .class_ 31), (0, u "com/example/gabarit/gabarit/shacl/DescriptionOrderPropertyPinLaw"), (2, u "law"), (0, u "(I)Z")] 3

def k1m0 : Method := { name := "<init>", desc := "()V", sig := { parameters := [], returnType := none }, accessFlags := 1, code := none }
def k1c1 : Code := { maxStack := 2, maxLocals := 8, code := code, exceptionTable := #[], attributes := #[] }
def k1m1 : Method := { name := "law", desc := "(I)Z", sig := { parameters := [.int], returnType := some .boolean }, accessFlags := 9, code := some k1c1 }
/-- com/example/gabarit/gabarit/shacl/DescriptionOrderPropertyPinLaw -/
def k1 : Class := { plain "com/example/gabarit/gabarit/shacl/DescriptionOrderPropertyPinLaw" (some 0) with
  accessFlags := 49
  interfaces := #[]
  cf := some (fileOf pool1 30 #[] #[{ accessFlags := 1, nameIndex := 5, descriptorIndex := 6, attributes := #[] }, { accessFlags := 9, nameIndex := 34, descriptorIndex := 35, attributes := #[] }] 49 2 #[] #[])
  fields := #[]
  methods := #[k1m0, k1m1]
  instanceTypes := #[]
  staticTypes := #[]
  resolved := Array.replicate 39 none
  statics := none }

def pool2 : Array CpInfo := pool [(1, .methodref 2 3), (0, .class_ 4), (0, .nameAndType 5 6), (0, u "java/lang/Object"), (0, u "<init>"), (0, u "()V"), (0, .class_ 8), (0, u "java/util/ArrayDeque"), (0, .methodref 7 3), (0, .fieldref 11 12), (0, .class_ 13), (0, .nameAndType 14 15), (0, u "com/example/gabarit/gabarit/shacl/DescriptionOrder"), (0, u "open"), (0, u "Ljava/util/Deque;"), (0, .interfaceMethodref 17 18), (0, .class_ 19), (0, .nameAndType 20 21), (0, u "java/util/Deque"), (0, u "isEmpty"), (0, u "()Z"), (0, .methodref 11 23), (0, .nameAndType 24 6), (0, u "value"), (0, .class_ 26), (0, u "com/example/gabarit/gabarit/shacl/DescriptionOrder$Frame"), (0, .methodref 25 28), (0, .nameAndType 5 29), (0, u "(Z)V"), (0, .interfaceMethodref 17 31), (0, .nameAndType 32 33), (0, u "addLast"), (0, u "(Ljava/lang/Object;)V"), (0, .fieldref 11 35), (0, .nameAndType 36 37), (0, u "blankNodesOpen"), (0, u "I"), (0, .methodref 11 39), (0, .nameAndType 40 41), (0, u "innermost"), (0, u "()Lcom/example/gabarit/gabarit/shacl/DescriptionOrder$Frame;"), (0, .fieldref 25 43), (0, .nameAndType 44 45), (0, u "list"), (0, u "Z"), (0, .fieldref 11 47), (0, .nameAndType 48 45), (0, u "valueDue"), (7, .interfaceMethodref 17 57), (0, .nameAndType 58 59), (0, u "removeLast"), (0, u "()Ljava/lang/Object;"), (0, .fieldref 25 61), (0, .nameAndType 62 45), (0, u "started"), (6, .interfaceMethodref 17 70), (0, .nameAndType 71 59), (0, u "peekLast"), (6, u "beginBlankNode"), (1, u "endBlankNode"), (0, u "property"), (0, u "beginList"), (2, u "()I")] 5

def k2c0 : Code := { maxStack := 3, maxLocals := 1, code := prog_31_method_1_code, exceptionTable := #[], attributes := #[] }
def k2m0 : Method := { name := "<init>", desc := "()V", sig := { parameters := [], returnType := none }, accessFlags := 1, code := some k2c0 }
def k2c1 : Code := { maxStack := 4, maxLocals := 2, code := prog_31_method_2_code, exceptionTable := #[], attributes := #[] }
def k2m1 : Method := { name := "beginBlankNode", desc := "()Z", sig := { parameters := [], returnType := some .boolean }, accessFlags := 1, code := some k2c1 }
def k2c2 : Code := { maxStack := 3, maxLocals := 2, code := prog_31_method_3_code, exceptionTable := #[], attributes := #[] }
def k2m2 : Method := { name := "endBlankNode", desc := "()Z", sig := { parameters := [], returnType := some .boolean }, accessFlags := 1, code := some k2c2 }
def k2c3 : Code := { maxStack := 3, maxLocals := 3, code := prog_31_method_4_code, exceptionTable := #[], attributes := #[] }
def k2m3 : Method := { name := "property", desc := "()Z", sig := { parameters := [], returnType := some .boolean }, accessFlags := 1, code := some k2c3 }
def k2c4 : Code := { maxStack := 3, maxLocals := 2, code := prog_31_method_5_code, exceptionTable := #[], attributes := #[] }
def k2m4 : Method := { name := "value", desc := "()V", sig := { parameters := [], returnType := none }, accessFlags := 1, code := some k2c4 }
def k2c5 : Code := { maxStack := 4, maxLocals := 1, code := prog_31_method_6_code, exceptionTable := #[], attributes := #[] }
def k2m5 : Method := { name := "beginList", desc := "()V", sig := { parameters := [], returnType := none }, accessFlags := 1, code := some k2c5 }
def k2c6 : Code := { maxStack := 1, maxLocals := 1, code := prog_31_method_9_code, exceptionTable := #[], attributes := #[] }
def k2m6 : Method := { name := "blankNodesOpen", desc := "()I", sig := { parameters := [], returnType := some .int }, accessFlags := 1, code := some k2c6 }
def k2c7 : Code := { maxStack := 3, maxLocals := 2, code := prog_31_method_10_code, exceptionTable := #[], attributes := #[] }
def k2m7 : Method := { name := "innermost", desc := "()Lcom/example/gabarit/gabarit/shacl/DescriptionOrder$Frame;", sig := { parameters := [], returnType := some (.object "com/example/gabarit/gabarit/shacl/DescriptionOrder$Frame") }, accessFlags := 2, code := some k2c7 }
/-- com/example/gabarit/gabarit/shacl/DescriptionOrder -/
def k2 : Class := { plain "com/example/gabarit/gabarit/shacl/DescriptionOrder" (some 0) with
  accessFlags := 49
  interfaces := #[]
  cf := some (fileOf pool2 11 #[.nestMembers #[25]] #[{ accessFlags := 1, nameIndex := 5, descriptorIndex := 6, attributes := #[] }, { accessFlags := 1, nameIndex := 78, descriptorIndex := 21, attributes := #[] }, { accessFlags := 1, nameIndex := 80, descriptorIndex := 21, attributes := #[] }, { accessFlags := 1, nameIndex := 81, descriptorIndex := 21, attributes := #[] }, { accessFlags := 1, nameIndex := 24, descriptorIndex := 6, attributes := #[] }, { accessFlags := 1, nameIndex := 82, descriptorIndex := 6, attributes := #[] }, { accessFlags := 1, nameIndex := 36, descriptorIndex := 85, attributes := #[] }, { accessFlags := 2, nameIndex := 40, descriptorIndex := 41, attributes := #[] }] 49 2 #[] #[{ accessFlags := 18, nameIndex := 14, descriptorIndex := 15, attributes := #[] }, { accessFlags := 2, nameIndex := 36, descriptorIndex := 37, attributes := #[] }, { accessFlags := 2, nameIndex := 48, descriptorIndex := 45, attributes := #[] }])
  fields := #[{ name := "open", type := (.object "java/util/Deque"), accessFlags := 18, slot := 0, constantValue := 0 }, { name := "blankNodesOpen", type := .int, accessFlags := 2, slot := 1, constantValue := 0 }, { name := "valueDue", type := .boolean, accessFlags := 2, slot := 2, constantValue := 0 }]
  methods := #[k2m0, k2m1, k2m2, k2m3, k2m4, k2m5, k2m6, k2m7]
  instanceTypes := #[(.object "java/util/Deque"), .int, .boolean]
  staticTypes := #[]
  resolved := Array.replicate 91 none
  statics := none }

def pool3 : Array CpInfo := pool [(8, .class_ 10), (1, u "java/lang/Iterable"), (24, .class_ 36), (0, u "java/lang/Object")] 25

/-- java/lang/Iterable -/
def k3 : Class := { plain "java/lang/Iterable" (some 0) with
  accessFlags := 1537
  interfaces := #[]
  cf := some (fileOf pool3 8 #[] #[] 1537 35 #[] #[])
  fields := #[]
  methods := #[]
  instanceTypes := #[]
  staticTypes := #[]
  resolved := Array.replicate 62 none
  statics := none }

def pool4 : Array CpInfo := pool [(10, .class_ 12), (1, u "java/util/Collection"), (17, u "()Z"), (29, .class_ 61), (0, u "java/lang/Object"), (0, .class_ 63), (0, u "java/lang/Iterable"), (2, u "isEmpty")] 48

def k4m0 : Method := { name := "isEmpty", desc := "()Z", sig := { parameters := [], returnType := some .boolean }, accessFlags := 1025, code := none }
/-- java/util/Collection -/
def k4 : Class := { plain "java/util/Collection" (some 0) with
  accessFlags := 1537
  interfaces := #[3]
  cf := some (fileOf pool4 10 #[] #[{ accessFlags := 1025, nameIndex := 66, descriptorIndex := 30, attributes := #[] }] 1537 60 #[62] #[])
  fields := #[]
  methods := #[k4m0]
  instanceTypes := #[]
  staticTypes := #[]
  resolved := Array.replicate 115 none
  statics := none }

def pool5 : Array CpInfo := pool [(1, .methodref 2 3), (0, .class_ 4), (0, .nameAndType 5 6), (0, u "java/lang/Object"), (0, u "<init>"), (0, u "()V"), (1, .class_ 10), (1, u "java/util/AbstractCollection"), (66, .class_ 78), (0, u "java/util/Collection")] 81

def k5c0 : Code := { maxStack := 1, maxLocals := 1, code := jdk_22_method_1_code, exceptionTable := #[], attributes := #[] }
def k5m0 : Method := { name := "<init>", desc := "()V", sig := { parameters := [], returnType := none }, accessFlags := 4, code := some k5c0 }
/-- java/util/AbstractCollection -/
def k5 : Class := { plain "java/util/AbstractCollection" (some 0) with
  accessFlags := 1057
  interfaces := #[4]
  cf := some (fileOf pool5 8 #[] #[{ accessFlags := 4, nameIndex := 5, descriptorIndex := 6, attributes := #[] }] 1057 2 #[77] #[])
  fields := #[]
  methods := #[k5m0]
  instanceTypes := #[]
  staticTypes := #[]
  resolved := Array.replicate 160 none
  statics := none }

def pool6 : Array CpInfo := pool [(1, .class_ 2), (0, u "java/util/Queue"), (0, .class_ 4), (0, u "java/lang/Object"), (0, .class_ 6), (0, u "java/util/Collection")] 14

/-- java/util/Queue -/
def k6 : Class := { plain "java/util/Queue" (some 0) with
  accessFlags := 1537
  interfaces := #[4]
  cf := some (fileOf pool6 1 #[] #[] 1537 3 #[5] #[])
  fields := #[]
  methods := #[]
  instanceTypes := #[]
  staticTypes := #[]
  resolved := Array.replicate 21 none
  statics := none }

def pool7 : Array CpInfo := pool [(8, .class_ 10), (1, u "java/util/SequencedCollection"), (15, .class_ 27), (0, u "java/lang/Object"), (0, .class_ 29), (0, u "java/util/Collection")] 27

/-- java/util/SequencedCollection -/
def k7 : Class := { plain "java/util/SequencedCollection" (some 0) with
  accessFlags := 1537
  interfaces := #[4]
  cf := some (fileOf pool7 8 #[] #[] 1537 26 #[28] #[])
  fields := #[]
  methods := #[]
  instanceTypes := #[]
  staticTypes := #[]
  resolved := Array.replicate 57 none
  statics := none }

def pool8 : Array CpInfo := pool [(8, .class_ 10), (1, u "java/util/Deque"), (2, .class_ 14), (0, u "java/lang/Object"), (0, .class_ 16), (0, u "java/util/Queue"), (0, .class_ 18), (0, u "java/util/SequencedCollection"), (1, u "(Ljava/lang/Object;)V"), (2, u "addLast"), (5, u "()Ljava/lang/Object;"), (1, u "removeLast"), (5, u "peekLast")] 32

def k8m0 : Method := { name := "addLast", desc := "(Ljava/lang/Object;)V", sig := { parameters := [(.object "java/lang/Object")], returnType := none }, accessFlags := 1025, code := none }
def k8m1 : Method := { name := "removeLast", desc := "()Ljava/lang/Object;", sig := { parameters := [], returnType := some (.object "java/lang/Object") }, accessFlags := 1025, code := none }
def k8m2 : Method := { name := "peekLast", desc := "()Ljava/lang/Object;", sig := { parameters := [], returnType := some (.object "java/lang/Object") }, accessFlags := 1025, code := none }
/-- java/util/Deque -/
def k8 : Class := { plain "java/util/Deque" (some 0) with
  accessFlags := 1537
  interfaces := #[6, 7]
  cf := some (fileOf pool8 8 #[] #[{ accessFlags := 1025, nameIndex := 23, descriptorIndex := 20, attributes := #[] }, { accessFlags := 1025, nameIndex := 31, descriptorIndex := 29, attributes := #[] }, { accessFlags := 1025, nameIndex := 37, descriptorIndex := 29, attributes := #[] }] 1537 13 #[15, 17] #[])
  fields := #[]
  methods := #[k8m0, k8m1, k8m2]
  instanceTypes := #[]
  staticTypes := #[]
  resolved := Array.replicate 70 none
  statics := none }

def pool9 : Array CpInfo := pool [(1, .class_ 2), (0, u "java/lang/Cloneable"), (0, .class_ 4), (0, u "java/lang/Object")] 2

/-- java/lang/Cloneable -/
def k9 : Class := { plain "java/lang/Cloneable" (some 0) with
  accessFlags := 1537
  interfaces := #[]
  cf := some (fileOf pool9 1 #[] #[] 1537 3 #[] #[])
  fields := #[]
  methods := #[]
  instanceTypes := #[]
  staticTypes := #[]
  resolved := Array.replicate 7 none
  statics := none }

def pool10 : Array CpInfo := pool [(1, .class_ 2), (0, u "java/io/Serializable"), (0, .class_ 4), (0, u "java/lang/Object")] 2

/-- java/io/Serializable -/
def k10 : Class := { plain "java/io/Serializable" (some 0) with
  accessFlags := 1537
  interfaces := #[]
  cf := some (fileOf pool10 1 #[] #[] 1537 3 #[] #[])
  fields := #[]
  methods := #[]
  instanceTypes := #[]
  staticTypes := #[]
  resolved := Array.replicate 7 none
  statics := none }

def pool11 : Array CpInfo := pool [(3, .fieldref 4 5), (0, .class_ 6), (0, .nameAndType 7 8), (0, u "java/util/ArrayDeque"), (0, u "elements"), (0, u "[Ljava/lang/Object;"), (4, u "(II)I"), (6, .fieldref 4 21), (0, .nameAndType 22 23), (0, u "tail"), (0, u "I"), (0, .fieldref 4 25), (0, .nameAndType 26 23), (0, u "head"), (12, u "<init>"), (2, .methodref 43 44), (0, .class_ 45), (0, .nameAndType 39 46), (0, u "java/util/AbstractCollection"), (0, u "()V"), (0, .class_ 48), (0, u "java/lang/Object"), (19, .methodref 4 69), (0, .nameAndType 70 13), (0, u "dec"), (3, .methodref 4 75), (0, .nameAndType 76 13), (0, u "inc"), (12, u "(Ljava/lang/Object;)V"), (2, u "addLast"), (3, u "()Ljava/lang/Object;"), (3, .methodref 4 101), (0, .nameAndType 102 96), (0, u "pollLast"), (0, .methodref 4 104), (0, .nameAndType 105 106), (0, u "elementAt"), (0, u "([Ljava/lang/Object;I)Ljava/lang/Object;"), (24, .class_ 132), (0, u "java/util/ArrayDeque$DeqIterator"), (3, .class_ 137), (0, u "java/util/ArrayDeque$DescendingIterator"), (1, .class_ 140), (0, u "java/util/ArrayDeque$DeqSpliterator"), (137, .class_ 279), (0, u "java/util/Deque"), (0, .class_ 281), (0, u "java/lang/Cloneable"), (0, .class_ 283), (0, u "java/io/Serializable"), (0, u "MAX_ARRAY_SIZE"), (1, u "serialVersionUID"), (0, u "J"), (40, u "removeLast"), (3, u "peekLast"), (14, u "isEmpty"), (0, u "()Z")] 89

def k11c0 : Code := { maxStack := 2, maxLocals := 1, code := jdk_21_method_3_code, exceptionTable := #[], attributes := #[] }
def k11m0 : Method := { name := "<init>", desc := "()V", sig := { parameters := [], returnType := none }, accessFlags := 1, code := some k11c0 }
def k11c1 : Code := { maxStack := 2, maxLocals := 2, code := jdk_21_method_6_code, exceptionTable := #[], attributes := #[] }
def k11m1 : Method := { name := "inc", desc := "(II)I", sig := { parameters := [.int, .int], returnType := some .int }, accessFlags := 24, code := some k11c1 }
def k11c2 : Code := { maxStack := 2, maxLocals := 2, code := jdk_21_method_7_code, exceptionTable := #[], attributes := #[] }
def k11m2 : Method := { name := "dec", desc := "(II)I", sig := { parameters := [.int, .int], returnType := some .int }, accessFlags := 24, code := some k11c2 }
def k11c3 : Code := { maxStack := 2, maxLocals := 2, code := jdk_21_method_10_code, exceptionTable := #[], attributes := #[] }
def k11m3 : Method := { name := "elementAt", desc := "([Ljava/lang/Object;I)Ljava/lang/Object;", sig := { parameters := [(.array (.object "java/lang/Object")), .int], returnType := some (.object "java/lang/Object") }, accessFlags := 24, code := some k11c3 }
def k11c4 : Code := { maxStack := 4, maxLocals := 3, code := jdk_21_method_13_code, exceptionTable := #[], attributes := #[] }
def k11m4 : Method := { name := "addLast", desc := "(Ljava/lang/Object;)V", sig := { parameters := [(.object "java/lang/Object")], returnType := none }, accessFlags := 1, code := some k11c4 }
def k11c5 : Code := { maxStack := 2, maxLocals := 2, code := jdk_21_method_19_code, exceptionTable := #[], attributes := #[] }
def k11m5 : Method := { name := "removeLast", desc := "()Ljava/lang/Object;", sig := { parameters := [], returnType := some (.object "java/lang/Object") }, accessFlags := 1, code := some k11c5 }
def k11c6 : Code := { maxStack := 4, maxLocals := 4, code := jdk_21_method_21_code, exceptionTable := #[], attributes := #[] }
def k11m6 : Method := { name := "pollLast", desc := "()Ljava/lang/Object;", sig := { parameters := [], returnType := some (.object "java/lang/Object") }, accessFlags := 1, code := some k11c6 }
def k11c7 : Code := { maxStack := 3, maxLocals := 2, code := jdk_21_method_25_code, exceptionTable := #[], attributes := #[] }
def k11m7 : Method := { name := "peekLast", desc := "()Ljava/lang/Object;", sig := { parameters := [], returnType := some (.object "java/lang/Object") }, accessFlags := 1, code := some k11c7 }
def k11c8 : Code := { maxStack := 2, maxLocals := 1, code := jdk_21_method_38_code, exceptionTable := #[], attributes := #[] }
def k11m8 : Method := { name := "isEmpty", desc := "()Z", sig := { parameters := [], returnType := some .boolean }, accessFlags := 1, code := some k11c8 }
/-- java/util/ArrayDeque -/
def k11 : Class := { plain "java/util/ArrayDeque" (some 5) with
  accessFlags := 33
  interfaces := #[8, 9, 10]
  cf := some (fileOf pool11 4 #[.nestMembers #[139, 136, 131]] #[{ accessFlags := 1, nameIndex := 39, descriptorIndex := 46, attributes := #[] }, { accessFlags := 24, nameIndex := 76, descriptorIndex := 13, attributes := #[] }, { accessFlags := 24, nameIndex := 70, descriptorIndex := 13, attributes := #[] }, { accessFlags := 24, nameIndex := 105, descriptorIndex := 106, attributes := #[] }, { accessFlags := 1, nameIndex := 92, descriptorIndex := 89, attributes := #[] }, { accessFlags := 1, nameIndex := 328, descriptorIndex := 96, attributes := #[] }, { accessFlags := 1, nameIndex := 102, descriptorIndex := 96, attributes := #[] }, { accessFlags := 1, nameIndex := 332, descriptorIndex := 96, attributes := #[] }, { accessFlags := 1, nameIndex := 347, descriptorIndex := 348, attributes := #[] }] 33 43 #[278, 280, 282] #[{ accessFlags := 128, nameIndex := 7, descriptorIndex := 8, attributes := #[] }, { accessFlags := 128, nameIndex := 26, descriptorIndex := 23, attributes := #[] }, { accessFlags := 128, nameIndex := 22, descriptorIndex := 23, attributes := #[] }, { accessFlags := 26, nameIndex := 284, descriptorIndex := 23, attributes := #[] }, { accessFlags := 26, nameIndex := 286, descriptorIndex := 287, attributes := #[] }])
  fields := #[{ name := "elements", type := (.array (.object "java/lang/Object")), accessFlags := 128, slot := 0, constantValue := 0 }, { name := "head", type := .int, accessFlags := 128, slot := 1, constantValue := 0 }, { name := "tail", type := .int, accessFlags := 128, slot := 2, constantValue := 0 }, { name := "MAX_ARRAY_SIZE", type := .int, accessFlags := 26, slot := 0, constantValue := 0 }, { name := "serialVersionUID", type := .long, accessFlags := 26, slot := 1, constantValue := 0 }]
  methods := #[k11m0, k11m1, k11m2, k11m3, k11m4, k11m5, k11m6, k11m7, k11m8]
  instanceTypes := #[(.array (.object "java/lang/Object")), .int, .int]
  staticTypes := #[.int, .long]
  resolved := Array.replicate 438 none
  statics := none }

def pool12 : Array CpInfo := pool [(1, .methodref 2 3), (0, .class_ 4), (0, .nameAndType 5 6), (0, u "java/lang/Object"), (0, u "<init>"), (0, u "()V"), (0, .fieldref 8 9), (0, .class_ 10), (0, .nameAndType 11 12), (0, u "com/example/gabarit/gabarit/shacl/DescriptionOrder$Frame"), (0, u "list"), (0, u "Z"), (0, u "started"), (0, u "(Z)V"), (5, .class_ 21), (0, u "com/example/gabarit/gabarit/shacl/DescriptionOrder")] 2

def k12c0 : Code := { maxStack := 2, maxLocals := 2, code := prog_32_method_1_code, exceptionTable := #[], attributes := #[] }
def k12m0 : Method := { name := "<init>", desc := "(Z)V", sig := { parameters := [.boolean], returnType := none }, accessFlags := 0, code := some k12c0 }
/-- com/example/gabarit/gabarit/shacl/DescriptionOrder$Frame -/
def k12 : Class := { plain "com/example/gabarit/gabarit/shacl/DescriptionOrder$Frame" (some 0) with
  accessFlags := 48
  interfaces := #[]
  cf := some (fileOf pool12 8 #[.nestHost 20] #[{ accessFlags := 0, nameIndex := 5, descriptorIndex := 14, attributes := #[] }] 48 2 #[] #[{ accessFlags := 16, nameIndex := 11, descriptorIndex := 12, attributes := #[] }, { accessFlags := 0, nameIndex := 13, descriptorIndex := 12, attributes := #[] }])
  fields := #[{ name := "list", type := .boolean, accessFlags := 16, slot := 0, constantValue := 0 }, { name := "started", type := .boolean, accessFlags := 0, slot := 1, constantValue := 0 }]
  methods := #[k12m0]
  instanceTypes := #[.boolean, .boolean]
  staticTypes := #[]
  resolved := Array.replicate 24 none
  statics := none }

/-- the primitive byte -/
def k13 : Class := { plain "byte" none with kind := .primitive 'B', accessFlags := 0x411 }
/-- [B -/
def k14 : Class := { plain "[B" (some 0) with kind := .array 13 .byte, interfaces := #[9, 10], accessFlags := 1041 }

/-- the primitive int -/
def k15 : Class := { plain "int" none with kind := .primitive 'I', accessFlags := 0x411 }
/-- [I -/
def k16 : Class := { plain "[I" (some 0) with kind := .array 15 .int, interfaces := #[9, 10], accessFlags := 1041 }

/-- [Ljava/lang/Object; -/
def k17 : Class := { plain "[Ljava/lang/Object;" (some 0) with kind := .array 0 (.object "java/lang/Object"), interfaces := #[9, 10], accessFlags := 1041 }

def heap : Heap := #[]
def classes : Array Class := #[k0, k1, k2, k3, k4, k5, k6, k7, k8, k9, k10, k11, k12, k13, k14, k15, k16, k17]
def interned : List (Array UInt16 × Addr) := []
def slotsUsed : Nat := 0
def theMethod : MethodId := ⟨1, 1⟩
def args0 : Array Value := #[.int 5]
def aboutOver (below : List Frame) : State where
  vm := { classes := classes, interned := interned.toArray }
  heap := heap
  slotsUsed := slotsUsed
  threads := #[{ frames := .invoking theMethod args0 :: below }]
def below0 : List Frame := [.native { method := ⟨0, 0⟩, args := #[] }]
def about1 : State := aboutOver below0
def p0 : Program := .bare "" "" ""
def e0 : Env := launch0.env 0 0 0
theorem w_frames : about1.frames = Frame.invoking theMethod args0 :: below0 := rfl
set_option maxRecDepth 65536 in
theorem w_args : argsFit about1.vm theMethod args0 = true := by decide +kernel
set_option maxRecDepth 65536 in
theorem w_heap : heapFits about1 = true := by decide +kernel
set_option maxRecDepth 65536 in
theorem w_runnable : about1.curStatus? = some .runnable := by decide +kernel
set_option maxRecDepth 65536 in
theorem w_alone : about1.alone = true := by decide +kernel
set_option maxRecDepth 65536 in
theorem w_named : about1.methodNamed? x = some theMethod := by decide +kernel
set_option maxRecDepth 65536 in
theorem w_hears : about1.hears theMethod below0 = true := by decide +kernel
set_option maxRecDepth 65536 in
theorem w_ripe : about1.ripe theMethod args0 below0 = true := by decide +kernel
theorem w_running : about1.status = .running := rfl
set_option maxRecDepth 65536 in
theorem w_room : about1.hasRoom e0.platform room_1 = true :=
  launch0.hasRoom_least _ room_1 (by decide +kernel) (by decide +kernel) (by decide +kernel) (by decide +kernel) (by decide +kernel) (by decide +kernel)
theorem allAtoms_all (ts : List Jvm.Cond) (a : Array Jvm.Value) (st : Jvm.State) : (allAtoms ts).before a st = ts.all (fun c => c.before a st) := by
  induction ts with
  | nil => rfl
  | cons c t ih =>
    show (Jvm.Cond.and c (allAtoms t)).before a st = _
    rw [Jvm.Cond.before_and, ih, List.all_cons]
def words1 : List Jvm.Cond := Jvm.Cond.code x code maxLocals ret :: tables_1
/-- a 'code' word, met by the world's own term for the bytes: nothing is compared byte by byte -/
theorem code_word {y : MethodName} {bytes : ByteArray} {mx : Nat} {rt : Option FieldType} {a : Array Value} {s : State} {m : MethodId} {meth : Method} {c : Code} (h1 : s.methodNamed? y = some m) (h2 : s.vm.method? m = some meth) (h3 : meth.code = some c) (h4 : c.code = bytes)
    (h5 : (c.maxLocals == mx && c.exceptionTable.isEmpty && decide (c.maxStack ≤ mostOperands) && decide (meth.sig.returnType = rt) && !meth.locks && decide (parseMethodDescriptor y.desc = some meth.sig)) = true) : (Jvm.Cond.code y bytes mx rt).before a s = true := by
  simp only [Bool.and_eq_true, beq_iff_eq, Bool.not_eq_true', decide_eq_true_eq] at h5
  obtain ⟨⟨⟨⟨⟨g1, g2⟩, g3⟩, g4⟩, g5⟩, g6⟩ := h5
  simp [Cond.before, Cond.holds, Cond.value, h1, h2, h3, h4, g1, g2, g3, g4, g5, g6]
def isCode : Jvm.Cond → Bool
  | .code _ _ _ _ => true
  | _ => false
theorem all_split {L : List Jvm.Cond} {P : Jvm.Cond → Bool} (h1 : L.all (fun c => isCode c || P c) = true) (h2 : ∀ c ∈ L.filter isCode, P c = true) : L.all P = true := by
  refine List.all_eq_true.mpr fun c hc => ?_
  have h := List.all_eq_true.mp h1 c hc
  rcases Bool.eq_false_or_eq_true (isCode c) with hi | hi
  · exact h2 c (List.mem_filter.mpr ⟨hc, hi⟩)
  · simpa [hi] using h
set_option maxRecDepth 65536 in
theorem w_c0 : (Jvm.Cond.code x code maxLocals ret).before args0 about1 = true := code_word (m := ⟨1, 1⟩) (meth := k1m1) (c := k1c1) (by decide +kernel) rfl rfl rfl (by decide +kernel)
set_option maxRecDepth 65536 in
theorem w_c1 : (Jvm.Cond.code ({ cls := "com/example/gabarit/gabarit/shacl/DescriptionOrder", name := "<init>", desc := "()V" } : Jvm.MethodName) prog_31_method_1_code (1 : Nat) (Option.none : Option Jvm.ClassFile.FieldType)).before args0 about1 = true := code_word (m := ⟨2, 0⟩) (meth := k2m0) (c := k2c0) (by decide +kernel) rfl rfl rfl (by decide +kernel)
set_option maxRecDepth 65536 in
theorem w_c2 : (Jvm.Cond.code ({ cls := "java/lang/Object", name := "<init>", desc := "()V" } : Jvm.MethodName) object_method_1_code (1 : Nat) (Option.none : Option Jvm.ClassFile.FieldType)).before args0 about1 = true := code_word (m := ⟨0, 0⟩) (meth := k0m0) (c := k0c0) (by decide +kernel) rfl rfl rfl (by decide +kernel)
set_option maxRecDepth 65536 in
theorem w_c3 : (Jvm.Cond.code ({ cls := "java/util/ArrayDeque", name := "<init>", desc := "()V" } : Jvm.MethodName) jdk_21_method_3_code (1 : Nat) (Option.none : Option Jvm.ClassFile.FieldType)).before args0 about1 = true := code_word (m := ⟨11, 0⟩) (meth := k11m0) (c := k11c0) (by decide +kernel) rfl rfl rfl (by decide +kernel)
set_option maxRecDepth 65536 in
theorem w_c4 : (Jvm.Cond.code ({ cls := "java/util/AbstractCollection", name := "<init>", desc := "()V" } : Jvm.MethodName) jdk_22_method_1_code (1 : Nat) (Option.none : Option Jvm.ClassFile.FieldType)).before args0 about1 = true := code_word (m := ⟨5, 0⟩) (meth := k5m0) (c := k5c0) (by decide +kernel) rfl rfl rfl (by decide +kernel)
set_option maxRecDepth 65536 in
theorem w_c5 : (Jvm.Cond.code ({ cls := "com/example/gabarit/gabarit/shacl/DescriptionOrder", name := "beginBlankNode", desc := "()Z" } : Jvm.MethodName) prog_31_method_2_code (2 : Nat) (Option.some Jvm.ClassFile.FieldType.boolean)).before args0 about1 = true := code_word (m := ⟨2, 1⟩) (meth := k2m1) (c := k2c1) (by decide +kernel) rfl rfl rfl (by decide +kernel)
set_option maxRecDepth 65536 in
theorem w_c6 : (Jvm.Cond.code ({ cls := "java/util/ArrayDeque", name := "isEmpty", desc := "()Z" } : Jvm.MethodName) jdk_21_method_38_code (1 : Nat) (Option.some Jvm.ClassFile.FieldType.boolean)).before args0 about1 = true := code_word (m := ⟨11, 8⟩) (meth := k11m8) (c := k11c8) (by decide +kernel) rfl rfl rfl (by decide +kernel)
set_option maxRecDepth 65536 in
theorem w_c7 : (Jvm.Cond.code ({ cls := "com/example/gabarit/gabarit/shacl/DescriptionOrder$Frame", name := "<init>", desc := "(Z)V" } : Jvm.MethodName) prog_32_method_1_code (2 : Nat) (Option.none : Option Jvm.ClassFile.FieldType)).before args0 about1 = true := code_word (m := ⟨12, 0⟩) (meth := k12m0) (c := k12c0) (by decide +kernel) rfl rfl rfl (by decide +kernel)
set_option maxRecDepth 65536 in
theorem w_c8 : (Jvm.Cond.code ({ cls := "java/util/ArrayDeque", name := "addLast", desc := "(Ljava/lang/Object;)V" } : Jvm.MethodName) jdk_21_method_13_code (3 : Nat) (Option.none : Option Jvm.ClassFile.FieldType)).before args0 about1 = true := code_word (m := ⟨11, 4⟩) (meth := k11m4) (c := k11c4) (by decide +kernel) rfl rfl rfl (by decide +kernel)
set_option maxRecDepth 65536 in
theorem w_c9 : (Jvm.Cond.code ({ cls := "java/util/ArrayDeque", name := "inc", desc := "(II)I" } : Jvm.MethodName) jdk_21_method_6_code (2 : Nat) (Option.some Jvm.ClassFile.FieldType.int)).before args0 about1 = true := code_word (m := ⟨11, 1⟩) (meth := k11m1) (c := k11c1) (by decide +kernel) rfl rfl rfl (by decide +kernel)
set_option maxRecDepth 65536 in
theorem w_c10 : (Jvm.Cond.code ({ cls := "com/example/gabarit/gabarit/shacl/DescriptionOrder", name := "property", desc := "()Z" } : Jvm.MethodName) prog_31_method_4_code (3 : Nat) (Option.some Jvm.ClassFile.FieldType.boolean)).before args0 about1 = true := code_word (m := ⟨2, 3⟩) (meth := k2m3) (c := k2c3) (by decide +kernel) rfl rfl rfl (by decide +kernel)
set_option maxRecDepth 65536 in
theorem w_c11 : (Jvm.Cond.code ({ cls := "com/example/gabarit/gabarit/shacl/DescriptionOrder", name := "innermost", desc := "()Lcom/example/gabarit/gabarit/shacl/DescriptionOrder$Frame;" } : Jvm.MethodName) prog_31_method_10_code (2 : Nat) (Option.some (Jvm.ClassFile.FieldType.object "com/example/gabarit/gabarit/shacl/DescriptionOrder$Frame"))).before args0 about1 = true := code_word (m := ⟨2, 7⟩) (meth := k2m7) (c := k2c7) (by decide +kernel) rfl rfl rfl (by decide +kernel)
set_option maxRecDepth 65536 in
theorem w_c12 : (Jvm.Cond.code ({ cls := "java/util/ArrayDeque", name := "peekLast", desc := "()Ljava/lang/Object;" } : Jvm.MethodName) jdk_21_method_25_code (2 : Nat) (Option.some (Jvm.ClassFile.FieldType.object "java/lang/Object"))).before args0 about1 = true := code_word (m := ⟨11, 7⟩) (meth := k11m7) (c := k11c7) (by decide +kernel) rfl rfl rfl (by decide +kernel)
set_option maxRecDepth 65536 in
theorem w_c13 : (Jvm.Cond.code ({ cls := "java/util/ArrayDeque", name := "dec", desc := "(II)I" } : Jvm.MethodName) jdk_21_method_7_code (2 : Nat) (Option.some Jvm.ClassFile.FieldType.int)).before args0 about1 = true := code_word (m := ⟨11, 2⟩) (meth := k11m2) (c := k11c2) (by decide +kernel) rfl rfl rfl (by decide +kernel)
set_option maxRecDepth 65536 in
theorem w_c14 : (Jvm.Cond.code ({ cls := "java/util/ArrayDeque", name := "elementAt", desc := "([Ljava/lang/Object;I)Ljava/lang/Object;" } : Jvm.MethodName) jdk_21_method_10_code (2 : Nat) (Option.some (Jvm.ClassFile.FieldType.object "java/lang/Object"))).before args0 about1 = true := code_word (m := ⟨11, 3⟩) (meth := k11m3) (c := k11c3) (by decide +kernel) rfl rfl rfl (by decide +kernel)
set_option maxRecDepth 65536 in
theorem w_c15 : (Jvm.Cond.code ({ cls := "com/example/gabarit/gabarit/shacl/DescriptionOrder", name := "value", desc := "()V" } : Jvm.MethodName) prog_31_method_5_code (2 : Nat) (Option.none : Option Jvm.ClassFile.FieldType)).before args0 about1 = true := code_word (m := ⟨2, 4⟩) (meth := k2m4) (c := k2c4) (by decide +kernel) rfl rfl rfl (by decide +kernel)
set_option maxRecDepth 65536 in
theorem w_c16 : (Jvm.Cond.code ({ cls := "com/example/gabarit/gabarit/shacl/DescriptionOrder", name := "blankNodesOpen", desc := "()I" } : Jvm.MethodName) prog_31_method_9_code (1 : Nat) (Option.some Jvm.ClassFile.FieldType.int)).before args0 about1 = true := code_word (m := ⟨2, 6⟩) (meth := k2m6) (c := k2c6) (by decide +kernel) rfl rfl rfl (by decide +kernel)
set_option maxRecDepth 65536 in
theorem w_c17 : (Jvm.Cond.code ({ cls := "com/example/gabarit/gabarit/shacl/DescriptionOrder", name := "endBlankNode", desc := "()Z" } : Jvm.MethodName) prog_31_method_3_code (2 : Nat) (Option.some Jvm.ClassFile.FieldType.boolean)).before args0 about1 = true := code_word (m := ⟨2, 2⟩) (meth := k2m2) (c := k2c2) (by decide +kernel) rfl rfl rfl (by decide +kernel)
set_option maxRecDepth 65536 in
theorem w_c18 : (Jvm.Cond.code ({ cls := "java/util/ArrayDeque", name := "removeLast", desc := "()Ljava/lang/Object;" } : Jvm.MethodName) jdk_21_method_19_code (2 : Nat) (Option.some (Jvm.ClassFile.FieldType.object "java/lang/Object"))).before args0 about1 = true := code_word (m := ⟨11, 5⟩) (meth := k11m5) (c := k11c5) (by decide +kernel) rfl rfl rfl (by decide +kernel)
set_option maxRecDepth 65536 in
theorem w_c19 : (Jvm.Cond.code ({ cls := "java/util/ArrayDeque", name := "pollLast", desc := "()Ljava/lang/Object;" } : Jvm.MethodName) jdk_21_method_21_code (4 : Nat) (Option.some (Jvm.ClassFile.FieldType.object "java/lang/Object"))).before args0 about1 = true := code_word (m := ⟨11, 6⟩) (meth := k11m6) (c := k11c6) (by decide +kernel) rfl rfl rfl (by decide +kernel)
set_option maxRecDepth 65536 in
theorem w_c20 : (Jvm.Cond.code ({ cls := "com/example/gabarit/gabarit/shacl/DescriptionOrder", name := "beginList", desc := "()V" } : Jvm.MethodName) prog_31_method_6_code (1 : Nat) (Option.none : Option Jvm.ClassFile.FieldType)).before args0 about1 = true := code_word (m := ⟨2, 5⟩) (meth := k2m5) (c := k2c5) (by decide +kernel) rfl rfl rfl (by decide +kernel)
def codes1 : List Jvm.Cond := [Jvm.Cond.code x code maxLocals ret, Jvm.Cond.code ({ cls := "com/example/gabarit/gabarit/shacl/DescriptionOrder", name := "<init>", desc := "()V" } : Jvm.MethodName) prog_31_method_1_code (1 : Nat) (Option.none : Option Jvm.ClassFile.FieldType), Jvm.Cond.code ({ cls := "java/lang/Object", name := "<init>", desc := "()V" } : Jvm.MethodName) object_method_1_code (1 : Nat) (Option.none : Option Jvm.ClassFile.FieldType), Jvm.Cond.code ({ cls := "java/util/ArrayDeque", name := "<init>", desc := "()V" } : Jvm.MethodName) jdk_21_method_3_code (1 : Nat) (Option.none : Option Jvm.ClassFile.FieldType), Jvm.Cond.code ({ cls := "java/util/AbstractCollection", name := "<init>", desc := "()V" } : Jvm.MethodName) jdk_22_method_1_code (1 : Nat) (Option.none : Option Jvm.ClassFile.FieldType), Jvm.Cond.code ({ cls := "com/example/gabarit/gabarit/shacl/DescriptionOrder", name := "beginBlankNode", desc := "()Z" } : Jvm.MethodName) prog_31_method_2_code (2 : Nat) (Option.some Jvm.ClassFile.FieldType.boolean), Jvm.Cond.code ({ cls := "java/util/ArrayDeque", name := "isEmpty", desc := "()Z" } : Jvm.MethodName) jdk_21_method_38_code (1 : Nat) (Option.some Jvm.ClassFile.FieldType.boolean), Jvm.Cond.code ({ cls := "com/example/gabarit/gabarit/shacl/DescriptionOrder$Frame", name := "<init>", desc := "(Z)V" } : Jvm.MethodName) prog_32_method_1_code (2 : Nat) (Option.none : Option Jvm.ClassFile.FieldType), Jvm.Cond.code ({ cls := "java/util/ArrayDeque", name := "addLast", desc := "(Ljava/lang/Object;)V" } : Jvm.MethodName) jdk_21_method_13_code (3 : Nat) (Option.none : Option Jvm.ClassFile.FieldType), Jvm.Cond.code ({ cls := "java/util/ArrayDeque", name := "inc", desc := "(II)I" } : Jvm.MethodName) jdk_21_method_6_code (2 : Nat) (Option.some Jvm.ClassFile.FieldType.int), Jvm.Cond.code ({ cls := "com/example/gabarit/gabarit/shacl/DescriptionOrder", name := "property", desc := "()Z" } : Jvm.MethodName) prog_31_method_4_code (3 : Nat) (Option.some Jvm.ClassFile.FieldType.boolean), Jvm.Cond.code ({ cls := "com/example/gabarit/gabarit/shacl/DescriptionOrder", name := "innermost", desc := "()Lcom/example/gabarit/gabarit/shacl/DescriptionOrder$Frame;" } : Jvm.MethodName) prog_31_method_10_code (2 : Nat) (Option.some (Jvm.ClassFile.FieldType.object "com/example/gabarit/gabarit/shacl/DescriptionOrder$Frame")), Jvm.Cond.code ({ cls := "java/util/ArrayDeque", name := "peekLast", desc := "()Ljava/lang/Object;" } : Jvm.MethodName) jdk_21_method_25_code (2 : Nat) (Option.some (Jvm.ClassFile.FieldType.object "java/lang/Object")), Jvm.Cond.code ({ cls := "java/util/ArrayDeque", name := "dec", desc := "(II)I" } : Jvm.MethodName) jdk_21_method_7_code (2 : Nat) (Option.some Jvm.ClassFile.FieldType.int), Jvm.Cond.code ({ cls := "java/util/ArrayDeque", name := "elementAt", desc := "([Ljava/lang/Object;I)Ljava/lang/Object;" } : Jvm.MethodName) jdk_21_method_10_code (2 : Nat) (Option.some (Jvm.ClassFile.FieldType.object "java/lang/Object")), Jvm.Cond.code ({ cls := "com/example/gabarit/gabarit/shacl/DescriptionOrder", name := "value", desc := "()V" } : Jvm.MethodName) prog_31_method_5_code (2 : Nat) (Option.none : Option Jvm.ClassFile.FieldType), Jvm.Cond.code ({ cls := "com/example/gabarit/gabarit/shacl/DescriptionOrder", name := "blankNodesOpen", desc := "()I" } : Jvm.MethodName) prog_31_method_9_code (1 : Nat) (Option.some Jvm.ClassFile.FieldType.int), Jvm.Cond.code ({ cls := "com/example/gabarit/gabarit/shacl/DescriptionOrder", name := "endBlankNode", desc := "()Z" } : Jvm.MethodName) prog_31_method_3_code (2 : Nat) (Option.some Jvm.ClassFile.FieldType.boolean), Jvm.Cond.code ({ cls := "java/util/ArrayDeque", name := "removeLast", desc := "()Ljava/lang/Object;" } : Jvm.MethodName) jdk_21_method_19_code (2 : Nat) (Option.some (Jvm.ClassFile.FieldType.object "java/lang/Object")), Jvm.Cond.code ({ cls := "java/util/ArrayDeque", name := "pollLast", desc := "()Ljava/lang/Object;" } : Jvm.MethodName) jdk_21_method_21_code (4 : Nat) (Option.some (Jvm.ClassFile.FieldType.object "java/lang/Object")), Jvm.Cond.code ({ cls := "com/example/gabarit/gabarit/shacl/DescriptionOrder", name := "beginList", desc := "()V" } : Jvm.MethodName) prog_31_method_6_code (1 : Nat) (Option.none : Option Jvm.ClassFile.FieldType)]
set_option maxRecDepth 65536 in
theorem codes_eq : words1.filter isCode = codes1 := rfl
theorem w_codes : ∀ c ∈ words1.filter isCode, c.before args0 about1 = true := by
  rw [codes_eq]
  intro c hc
  simp only [codes1, List.mem_cons, List.not_mem_nil, or_false] at hc
  rcases hc with rfl | rfl | rfl | rfl | rfl | rfl | rfl | rfl | rfl | rfl | rfl | rfl | rfl | rfl | rfl | rfl | rfl | rfl | rfl | rfl | rfl
  · exact w_c0
  · exact w_c1
  · exact w_c2
  · exact w_c3
  · exact w_c4
  · exact w_c5
  · exact w_c6
  · exact w_c7
  · exact w_c8
  · exact w_c9
  · exact w_c10
  · exact w_c11
  · exact w_c12
  · exact w_c13
  · exact w_c14
  · exact w_c15
  · exact w_c16
  · exact w_c17
  · exact w_c18
  · exact w_c19
  · exact w_c20
set_option maxRecDepth 65536 in
theorem w_t1 : (words1.take 24).all (fun c => isCode c || c.before args0 about1) = true := by decide +kernel
set_option maxRecDepth 65536 in
theorem w_t2 : ((words1.drop 24).take 24).all (fun c => isCode c || c.before args0 about1) = true := by decide +kernel
set_option maxRecDepth 65536 in
theorem w_t3 : (((words1.drop 24).drop 24).take 24).all (fun c => isCode c || c.before args0 about1) = true := by decide +kernel
set_option maxRecDepth 65536 in
theorem w_t4 : ((((words1.drop 24).drop 24).drop 24).take 24).all (fun c => isCode c || c.before args0 about1) = true := by decide +kernel
set_option maxRecDepth 65536 in
theorem w_t5 : (((((words1.drop 24).drop 24).drop 24).drop 24).take 24).all (fun c => isCode c || c.before args0 about1) = true := by decide +kernel
set_option maxRecDepth 65536 in
theorem w_t6 : (((((words1.drop 24).drop 24).drop 24).drop 24).drop 24).all (fun c => isCode c || c.before args0 about1) = true := by decide +kernel
theorem w_tables : (allAtoms (Jvm.Cond.code x code maxLocals ret :: tables_1)).before args0 about1 = true := by
  rw [allAtoms_all]
  show words1.all (fun c => c.before args0 about1) = true
  refine all_split ?_ w_codes
  rw [← List.take_append_drop 24 words1, List.all_append, w_t1, ← List.take_append_drop 24 (words1.drop 24), List.all_append, w_t2, ← List.take_append_drop 24 ((words1.drop 24).drop 24), List.all_append, w_t3, ← List.take_append_drop 24 (((words1.drop 24).drop 24).drop 24), List.all_append, w_t4, ← List.take_append_drop 24 ((((words1.drop 24).drop 24).drop 24).drop 24), List.all_append, w_t5, w_t6]
  rfl
set_option maxRecDepth 65536 in
theorem w_case : (Jvm.Cond.and given_1 narrow_1).before args0 about1 = true := by decide +kernel
theorem w_applies : (headSpec (Jvm.Cond.code x code maxLocals ret :: tables_1) room_1).applies x e0.platform about1 = true :=
  (Spec.applies_iff w_frames).mpr ⟨w_running, w_runnable, w_alone, w_named, w_hears, w_ripe, w_room, w_tables⟩
theorem atStart : AtStart classFile x code maxLocals ret World_1 tables_1 room_1 Calls_1 rest_1 Pre_1 launch0 p0 e0 about1 theMethod args0 below0 :=
  ⟨lists_1, trivial, launch0.admits_env _ _ _, launch0.least_env, fairChoices_fair.cas, fairChoices_fair.clock, w_frames, w_args, w_heap, w_applies, trivial, trivial, w_case⟩
end start1
theorem witness_1 : WitnessClaimed_1 := ⟨start1.p0, start1.e0, start1.about1, start1.theMethod, start1.args0, start1.below0, start1.atStart⟩
end Jvm.Pilot.@@N@@
