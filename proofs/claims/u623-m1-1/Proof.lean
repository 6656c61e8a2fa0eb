import JvmDerived
import JvmDerived.Pilot.@@N@@Statement
import JvmDerived.Pilot.@@N@@Code
set_option linter.unusedVariables false
set_option linter.unusedSimpArgs false
namespace Jvm.Pilot.@@N@@
open Jvm Jvm.ClassFile Sem Op Lib Jvm.Free Jvm.Stand Jvm.LawKit Jvm.RoadKit Bundle Jvm.Pilot.@@N@@.Jvm.D
theorem own_adv {tb : Tables} {e : Env} {below : List Frame} {A B : State} {P : State → Outcome → Prop} (h : ∀ t, Steps tb e below B t → Steps tb e below A t) (k : ∃ s₂ o, Steps tb e below B s₂ ∧ P s₂ o) : ∃ s₂ o, Steps tb e below A s₂ ∧ P s₂ o := by
  obtain ⟨a, b, c, d⟩ := k
  exact ⟨a, b, h a c, d⟩
theorem own_feqi {args : Array Value} {s : State} {t : Term} {C n d : String} {k : Int32} {x : Addr} (ht : t.eval args s none [] s = some (.ref x)) (h : (Cond.eq (.field t C n d) (.int k)).value args s none s [] = some true) : Fld s s.heap x C n d (.int k) := by
  refine Fld.start ?_
  have hf := fld_at (C := C) (n := n) (dd := d) ht
  obtain ⟨x1, y1, e1, e2, k1, k2⟩ := cmp_v (Or.inl h)
  have e3 : y1 = .int k := Option.some.inj (e2.symm.trans (Term.int_eval k))
  subst e3
  obtain ⟨z, rfl⟩ := k2
  simp [Cond.value, e1, e2] at h
  rw [← hf, e1, h]
theorem own_feqr {args : Array Value} {s : State} {t u : Term} {C n d : String} {x y : Addr} (ht : t.eval args s none [] s = some (.ref x)) (hu : u.eval args s none [] s = some (.ref y)) (h : (Cond.eq (.field t C n d) u).value args s none s [] = some true) : Fld s s.heap x C n d (.ref y) := by
  refine Fld.start ?_
  have hf := fld_at (C := C) (n := n) (dd := d) ht
  obtain ⟨x1, y1, e1, e2, k1, k2⟩ := cmp_v (Or.inl h)
  have e3 : y1 = .ref y := Option.some.inj (e2.symm.trans hu)
  subst e3
  have r := k2.2
  rcases ref_cases r with rfl | ⟨z, rfl⟩
  · simp [Cond.value, e1, e2] at h
  · simp [Cond.value, e1, e2] at h
    rw [← hf, e1, h]
theorem own_pn_com_example_keep_budget_keepbudget_planning_Planners : plainName "com/example/keep_budget/keepbudget/planning/Planners" = true := by first | (simp [plainName, overriddenIn]; done) | decide +kernel
theorem own_ef_rmP (m : MethodId) (x0 : Addr) : entryFrame m #[(.ref x0)] 1 = mkF m 0 #[.val (.ref x0)] [] := by first | (simp [entryFrame, mkF, argsToLocals, Value.category, maxLocals]; done) | rfl
theorem own_d3_0 : decode prog_82_method_8_code 0 = .ok (.aload_n 0, 1) := by decide +kernel
theorem own_d3_1 : decode prog_82_method_8_code 1 = .ok (.getfield 51, 3) := by decide +kernel
theorem own_d3_4 : decode prog_82_method_8_code 4 = .ok (.areturn, 1) := by decide +kernel
theorem own_pn_com_example_keep_budget_keepbudget_planning_ComparisonRequireOnFleetPinLaw : plainName "com/example/keep_budget/keepbudget/planning/ComparisonRequireOnFleetPinLaw" = true := by first | (simp [plainName, overriddenIn]; done) | decide +kernel
theorem own_ef_rmF (m : MethodId) (x0 : Int32) : entryFrame m #[(.int x0)] 1 = mkF m 0 #[.val (.int x0)] [] := by first | (simp [entryFrame, mkF, argsToLocals, Value.category, maxLocals]; done) | rfl
theorem own_d1_0 : decode method_2_code 0 = .ok (.iload_n 0, 1) := by decide +kernel
theorem own_d1_1 : decode method_2_code 1 = .ok (.ifCond .ne 7, 3) := by decide +kernel
theorem own_d1_4 : decode method_2_code 4 = .ok (.getstatic 7, 3) := by decide +kernel
theorem own_d1_7 : decode method_2_code 7 = .ok (.areturn, 1) := by decide +kernel
theorem own_d1_8 : decode method_2_code 8 = .ok (.iload_n 0, 1) := by decide +kernel
theorem own_d1_9 : decode method_2_code 9 = .ok (.iconst 1, 1) := by decide +kernel
theorem own_d1_10 : decode method_2_code 10 = .ok (.if_icmp .ne 7, 3) := by decide +kernel
theorem own_d1_13 : decode method_2_code 13 = .ok (.getstatic 13, 3) := by decide +kernel
theorem own_d1_16 : decode method_2_code 16 = .ok (.areturn, 1) := by decide +kernel
theorem own_d1_17 : decode method_2_code 17 = .ok (.iload_n 0, 1) := by decide +kernel
theorem own_d1_18 : decode method_2_code 18 = .ok (.iconst 2, 1) := by decide +kernel
theorem own_d1_19 : decode method_2_code 19 = .ok (.if_icmp .ne 7, 3) := by decide +kernel
theorem own_d1_22 : decode method_2_code 22 = .ok (.getstatic 16, 3) := by decide +kernel
theorem own_d1_25 : decode method_2_code 25 = .ok (.areturn, 1) := by decide +kernel
theorem own_d1_26 : decode method_2_code 26 = .ok (.iload_n 0, 1) := by decide +kernel
theorem own_d1_27 : decode method_2_code 27 = .ok (.iconst 3, 1) := by decide +kernel
theorem own_d1_28 : decode method_2_code 28 = .ok (.if_icmp .ne 7, 3) := by decide +kernel
theorem own_d1_31 : decode method_2_code 31 = .ok (.getstatic 19, 3) := by decide +kernel
theorem own_d1_34 : decode method_2_code 34 = .ok (.areturn, 1) := by decide +kernel
theorem own_d1_35 : decode method_2_code 35 = .ok (.iload_n 0, 1) := by decide +kernel
theorem own_d1_36 : decode method_2_code 36 = .ok (.iconst 4, 1) := by decide +kernel
theorem own_d1_37 : decode method_2_code 37 = .ok (.if_icmp .ne 7, 3) := by decide +kernel
theorem own_d1_40 : decode method_2_code 40 = .ok (.getstatic 22, 3) := by decide +kernel
theorem own_d1_43 : decode method_2_code 43 = .ok (.areturn, 1) := by decide +kernel
theorem own_d1_44 : decode method_2_code 44 = .ok (.getstatic 25, 3) := by decide +kernel
theorem own_d1_47 : decode method_2_code 47 = .ok (.areturn, 1) := by decide +kernel
theorem own_pn_com_example_keep_budget_keepbudget_planning_Comparison : plainName "com/example/keep_budget/keepbudget/planning/Comparison" = true := by first | (simp [plainName, overriddenIn]; done) | decide +kernel
theorem own_ef_rmQ (m : MethodId) (x0 : Addr) : entryFrame m #[(.ref x0)] 1 = mkF m 0 #[.val (.ref x0)] [] := by first | (simp [entryFrame, mkF, argsToLocals, Value.category, maxLocals]; done) | rfl
theorem own_d2_0 : decode prog_41_method_3_code 0 = .ok (.aload_n 0, 1) := by decide +kernel
theorem own_d2_1 : decode prog_41_method_3_code 1 = .ok (.invokevirtual 104, 3) := by decide +kernel
theorem own_pd___Lcom_example_keep_budget_keepbudget_planning_Planners_PlansOn_ : parseMethodDescriptor "()Lcom/example/keep_budget/keepbudget/planning/Planners$PlansOn;" = some ⟨[], some (.object "com/example/keep_budget/keepbudget/planning/Planners$PlansOn")⟩ := by decide +kernel
theorem own_d2_4 : decode prog_41_method_3_code 4 = .ok (.getstatic 110, 3) := by decide +kernel
theorem own_d2_7 : decode prog_41_method_3_code 7 = .ok (.if_acmp .eq 20, 3) := by decide +kernel
theorem own_d2_27 : decode prog_41_method_3_code 27 = .ok (.aload_n 0, 1) := by decide +kernel
theorem own_d2_28 : decode prog_41_method_3_code 28 = .ok (.areturn, 1) := by decide +kernel
theorem own_ef_rm0 (m : MethodId) (x0 : Int32) : entryFrame m #[(.int x0)] maxLocals = mkF m 0 #[.val (.int x0), .unset, .unset, .unset] [] := by first | (simp [entryFrame, mkF, argsToLocals, Value.category, maxLocals]; done) | rfl
theorem own_pd__I_Lcom_example_keep_budget_keepbudget_planning_Planners_ : parseMethodDescriptor "(I)Lcom/example/keep_budget/keepbudget/planning/Planners;" = some ⟨[.int], some (.object "com/example/keep_budget/keepbudget/planning/Planners")⟩ := by decide +kernel
theorem own_pd__Lcom_example_keep_budget_keepbudget_planning_Planners__Lcom_example_keep_budget_keepbudget_planning_Planners_ : parseMethodDescriptor "(Lcom/example/keep_budget/keepbudget/planning/Planners;)Lcom/example/keep_budget/keepbudget/planning/Planners;" = some ⟨[(.object "com/example/keep_budget/keepbudget/planning/Planners")], some (.object "com/example/keep_budget/keepbudget/planning/Planners")⟩ := by decide +kernel
def own_QrmP (Z : State) (a1 o1 : Addr) (h0 : Heap) (n0 : Nat) (v : Option Value) (h : Heap) (L : List Loc) : Prop := v = some (.ref o1) ∧ Fr n0 L ∧ h = h0
set_option maxRecDepth 65536 in
set_option maxHeartbeats 40000000 in
theorem rmP (l : Launch) (Z : State) (a0 : Array Value) (hw : ∀ d ∈ tables_1, d.before a0 Z = true) (ws : List Jvm.Cond) (a1 o1 : Addr) (h0 : Heap) (n0 : Nat) (Z0 : n0 ≤ h0.size) (F1 : Fld Z h0 a1 "com/example/keep_budget/keepbudget/planning/Planners" "plansOn" "Lcom/example/keep_budget/keepbudget/planning/Planners$PlansOn;" (.ref o1)) :
    MetFree l (⟨"com/example/keep_budget/keepbudget/planning/Planners", "plansOn", "()Lcom/example/keep_budget/keepbudget/planning/Planners$PlansOn;"⟩ : MethodName) (head1 (Jvm.Cond.code (⟨"com/example/keep_budget/keepbudget/planning/Planners", "plansOn", "()Lcom/example/keep_budget/keepbudget/planning/Planners$PlansOn;"⟩ : MethodName) prog_82_method_8_code 1 (some (.object "com/example/keep_budget/keepbudget/planning/Planners$PlansOn")) :: ws) ({ frames := 0, cells := 0, slots := 0, locals := 0 } : Room)) (fun a U => a = #[(.ref a1)] ∧ Z.Warmed39 U.vm ∧ U.heap = h0) (fun _ _ _ _ _ => True) (fun _ U o U' => ∃ v L, o = .returned v ∧ own_QrmP Z a1 o1 h0 n0 v U'.heap L ∧ FrameEnd U o U' L ({ frames := 0, cells := 0, slots := 0, locals := 0 } : Room).cells ({ frames := 0, cells := 0, slots := 0, locals := 0 } : Room).slots) := by
  refine MetFree.of_bodySF (plainFor_of_name own_pn_com_example_keep_budget_keepbudget_planning_Planners) hisR ?_
  intro p e s m args below meth c s₁ Bd hml0 hP hK
  obtain ⟨rfl, hZ, hh⟩ := hP
  have hx := Bd.exec
  have hby := Bd.bytes
  have hml : c.maxLocals = 1 := hml0
  have hown : s.vm.findClass "com/example/keep_budget/keepbudget/planning/Planners" = some m.cls := findClass_of_methodNamed Bd.named
  have hnm := (name_of_methodNamed Bd.named Bd.method).1
  have X0 : Stand p l e ({ frames := 0, cells := 0, slots := 0, locals := 0 } : Room) s m #[(.ref a1)] below meth c s₁ [] 0 0 := Stand.of_body Bd
  have e0 : s₁.heap = h0 := by rw [← hh, Bd.state]; rfl
  have N0 := Fr.nil n0
  refine own_adv (B := s₁.setTop (mkF m 0 #[.val (.ref a1)] [])) (fun t k => castTop (own_ef_rmP m a1) k) ?_
  refine own_adv (B := s₁.setTop (mkF m 1 #[.val (.ref a1)] [(.ref a1)])) (fun t k => XS.aloadN X0.here hx rfl (hb hby own_d3_0) rfl rfl k) ?_
  obtain ⟨T10, X10, e10, st10⟩ := getF X0 hx hZ hown (host := "") (Or.inl (hw _ (List.mem_of_getElem? (i := 17) rfl))) Via.refl e0 F1 (g := (mkF m 1 #[.val (.ref a1)] [(.ref a1)])) rfl rfl (hb hby own_d3_1)
  refine own_adv (B := T10.setTop (mkF m 4 #[.val (.ref a1)] [(.ref o1)])) st10 ?_
  obtain ⟨fs, hr, hrun, hended, hW, hsame⟩ := X10.leave (v := some (.ref o1)) (fun h => by rw [Bd.returns] at h; cases h)
  refine ⟨_, _, retOut X10 hx (t := (.object "com/example/keep_budget/keepbudget/planning/Planners$PlansOn")) (i := .areturn) Bd.returns rfl (Or.inr (Or.inr (Or.inr (Or.inr ⟨rfl, rfl, rfl⟩)))) (hb hby own_d3_4) hr, hrun, hended, _, _, rfl, ?_, ⟨_, rfl⟩, hW, hsame.mono (by decide) (by decide)⟩
  exact ⟨rfl, N0, e10⟩
def own_QrmF (Z : State) (p1 : Int32) (w_HEFT w_CHEAPEST w_HBCS w_BHEFT w_LOSS1 w_GREEDY_TIME_CD r : Addr) (h0 : Heap) (n0 : Nat) (v : Option Value) (h : Heap) (L : List Loc) : Prop := v = some (.ref r) ∧ Fr n0 L ∧ h = h0
set_option maxRecDepth 65536 in
set_option maxHeartbeats 40000000 in
theorem rmF (l : Launch) (Z : State) (a0 : Array Value) (hw : ∀ d ∈ tables_1, d.before a0 Z = true) (ws : List Jvm.Cond) (p1 : Int32) (w_HEFT w_CHEAPEST w_HBCS w_BHEFT w_LOSS1 w_GREEDY_TIME_CD r : Addr) (h0 : Heap) (n0 : Nat) (Z0 : n0 ≤ h0.size) (S_HEFT : Sta Z h0 "com/example/keep_budget/keepbudget/planning/Planners" "HEFT" "Lcom/example/keep_budget/keepbudget/planning/Planners;" (.ref w_HEFT)) (S_CHEAPEST : Sta Z h0 "com/example/keep_budget/keepbudget/planning/Planners" "CHEAPEST" "Lcom/example/keep_budget/keepbudget/planning/Planners;" (.ref w_CHEAPEST)) (S_HBCS : Sta Z h0 "com/example/keep_budget/keepbudget/planning/Planners" "HBCS" "Lcom/example/keep_budget/keepbudget/planning/Planners;" (.ref w_HBCS)) (S_BHEFT : Sta Z h0 "com/example/keep_budget/keepbudget/planning/Planners" "BHEFT" "Lcom/example/keep_budget/keepbudget/planning/Planners;" (.ref w_BHEFT)) (S_LOSS1 : Sta Z h0 "com/example/keep_budget/keepbudget/planning/Planners" "LOSS1" "Lcom/example/keep_budget/keepbudget/planning/Planners;" (.ref w_LOSS1)) (S_GREEDY_TIME_CD : Sta Z h0 "com/example/keep_budget/keepbudget/planning/Planners" "GREEDY_TIME_CD" "Lcom/example/keep_budget/keepbudget/planning/Planners;" (.ref w_GREEDY_TIME_CD)) (hk : (p1 = (0 : Int32) ∧ r = w_HEFT) ∨ (¬ (p1 = (0 : Int32)) ∧ p1 = (1 : Int32) ∧ r = w_CHEAPEST) ∨ (¬ (p1 = (0 : Int32)) ∧ ¬ (p1 = (1 : Int32)) ∧ p1 = (2 : Int32) ∧ r = w_HBCS) ∨ (¬ (p1 = (0 : Int32)) ∧ ¬ (p1 = (1 : Int32)) ∧ ¬ (p1 = (2 : Int32)) ∧ p1 = (3 : Int32) ∧ r = w_BHEFT) ∨ (¬ (p1 = (0 : Int32)) ∧ ¬ (p1 = (1 : Int32)) ∧ ¬ (p1 = (2 : Int32)) ∧ ¬ (p1 = (3 : Int32)) ∧ p1 = (4 : Int32) ∧ r = w_LOSS1) ∨ (¬ (p1 = (0 : Int32)) ∧ ¬ (p1 = (1 : Int32)) ∧ ¬ (p1 = (2 : Int32)) ∧ ¬ (p1 = (3 : Int32)) ∧ ¬ (p1 = (4 : Int32)) ∧ r = w_GREEDY_TIME_CD)) :
    MetFree l (⟨"com/example/keep_budget/keepbudget/planning/ComparisonRequireOnFleetPinLaw", "fleetPlanner", "(I)Lcom/example/keep_budget/keepbudget/planning/Planners;"⟩ : MethodName) (head1 (Jvm.Cond.code (⟨"com/example/keep_budget/keepbudget/planning/ComparisonRequireOnFleetPinLaw", "fleetPlanner", "(I)Lcom/example/keep_budget/keepbudget/planning/Planners;"⟩ : MethodName) method_2_code 1 (some (.object "com/example/keep_budget/keepbudget/planning/Planners")) :: ws) ({ frames := 0, cells := 0, slots := 0, locals := 0 } : Room)) (fun a U => a = #[(.int p1)] ∧ Z.Warmed39 U.vm ∧ U.heap = h0) (fun _ _ _ _ _ => True) (fun _ U o U' => ∃ v L, o = .returned v ∧ own_QrmF Z p1 w_HEFT w_CHEAPEST w_HBCS w_BHEFT w_LOSS1 w_GREEDY_TIME_CD r h0 n0 v U'.heap L ∧ FrameEnd U o U' L ({ frames := 0, cells := 0, slots := 0, locals := 0 } : Room).cells ({ frames := 0, cells := 0, slots := 0, locals := 0 } : Room).slots) := by
  refine MetFree.of_bodySF (plainFor_of_name own_pn_com_example_keep_budget_keepbudget_planning_ComparisonRequireOnFleetPinLaw) hisR ?_
  intro p e s m args below meth c s₁ Bd hml0 hP hK
  obtain ⟨rfl, hZ, hh⟩ := hP
  have hx := Bd.exec
  have hby := Bd.bytes
  have hml : c.maxLocals = 1 := hml0
  have hown : s.vm.findClass "com/example/keep_budget/keepbudget/planning/ComparisonRequireOnFleetPinLaw" = some m.cls := findClass_of_methodNamed Bd.named
  have hnm := (name_of_methodNamed Bd.named Bd.method).1
  have X0 : Stand p l e ({ frames := 0, cells := 0, slots := 0, locals := 0 } : Room) s m #[(.int p1)] below meth c s₁ [] 0 0 := Stand.of_body Bd
  have e0 : s₁.heap = h0 := by rw [← hh, Bd.state]; rfl
  have N0 := Fr.nil n0
  refine own_adv (B := s₁.setTop (mkF m 0 #[.val (.int p1)] [])) (fun t k => castTop (own_ef_rmF m p1) k) ?_
  rcases hk with ⟨c0, hr1⟩ | ⟨c0, c1, hr1⟩ | ⟨c0, c1, c2, hr1⟩ | ⟨c0, c1, c2, c3, hr1⟩ | ⟨c0, c1, c2, c3, c4, hr1⟩ | ⟨c0, c1, c2, c3, c4, hr1⟩
  · skip
    refine own_adv (B := s₁.setTop (mkF m 1 #[.val (.int p1)] [(.int p1)])) (fun t k => XS.iloadN X0.here hx rfl (hb hby own_d1_0) rfl k) ?_
    refine own_adv (B := s₁.setTop (mkF m 4 #[.val (.int p1)] [])) (fun t k => XS.ifNo X0.here hx rfl (hb hby own_d1_1) rfl ((if0 _ _).trans (teq c0).2) k) ?_
    obtain ⟨T10, X10, e10, st10⟩ := getS2 X0 hx hZ hown (host := "") (Or.inl (hw _ (List.mem_of_getElem? (i := 5) rfl))) Via.refl e0 S_HEFT (g := (mkF m 4 #[.val (.int p1)] [])) rfl (hb hby own_d1_4)
    refine own_adv (B := T10.setTop (mkF m 7 #[.val (.int p1)] [(.ref w_HEFT)])) st10 ?_
    obtain ⟨fs, hr, hrun, hended, hW, hsame⟩ := X10.leave (v := some (.ref w_HEFT)) (fun h => by rw [Bd.returns] at h; cases h)
    refine ⟨_, _, retOut X10 hx (t := (.object "com/example/keep_budget/keepbudget/planning/Planners")) (i := .areturn) Bd.returns rfl (Or.inr (Or.inr (Or.inr (Or.inr ⟨rfl, rfl, rfl⟩)))) (hb hby own_d1_7) hr, hrun, hended, _, _, rfl, ?_, ⟨_, rfl⟩, hW, hsame.mono (by decide) (by decide)⟩
    exact ⟨by rw [hr1], N0, e10⟩
  · skip
    refine own_adv (B := s₁.setTop (mkF m 1 #[.val (.int p1)] [(.int p1)])) (fun t k => XS.iloadN X0.here hx rfl (hb hby own_d1_0) rfl k) ?_
    refine own_adv (B := s₁.setTop (mkF m 8 #[.val (.int p1)] [])) (fun t k => XS.ifYes X0.here hx rfl (pc0 := 1) (pc' := 8) rfl (hb hby own_d1_1) rfl ((if0 _ _).trans (feq c0).2) (by decide) (by decide) k) ?_
    refine own_adv (B := s₁.setTop (mkF m 9 #[.val (.int p1)] [(.int p1)])) (fun t k => XS.iloadN X0.here hx rfl (hb hby own_d1_8) rfl k) ?_
    refine own_adv (B := s₁.setTop (mkF m 10 #[.val (.int p1)] [(.int (1 : Int32)), (.int p1)])) (fun t k => XS.iconst X0.here hx rfl (hb hby own_d1_9) k) ?_
    refine own_adv (B := s₁.setTop (mkF m 13 #[.val (.int p1)] [])) (fun t k => XS.icmpNo X0.here hx rfl (hb hby own_d1_10) rfl (teq c1).2 k) ?_
    obtain ⟨T11, X11, e11, st11⟩ := getS2 X0 hx hZ hown (host := "") (Or.inl (hw _ (List.mem_of_getElem? (i := 32) rfl))) Via.refl e0 S_CHEAPEST (g := (mkF m 13 #[.val (.int p1)] [])) rfl (hb hby own_d1_13)
    refine own_adv (B := T11.setTop (mkF m 16 #[.val (.int p1)] [(.ref w_CHEAPEST)])) st11 ?_
    obtain ⟨fs, hr, hrun, hended, hW, hsame⟩ := X11.leave (v := some (.ref w_CHEAPEST)) (fun h => by rw [Bd.returns] at h; cases h)
    refine ⟨_, _, retOut X11 hx (t := (.object "com/example/keep_budget/keepbudget/planning/Planners")) (i := .areturn) Bd.returns rfl (Or.inr (Or.inr (Or.inr (Or.inr ⟨rfl, rfl, rfl⟩)))) (hb hby own_d1_16) hr, hrun, hended, _, _, rfl, ?_, ⟨_, rfl⟩, hW, hsame.mono (by decide) (by decide)⟩
    exact ⟨by rw [hr1], N0, e11⟩
  · skip
    refine own_adv (B := s₁.setTop (mkF m 1 #[.val (.int p1)] [(.int p1)])) (fun t k => XS.iloadN X0.here hx rfl (hb hby own_d1_0) rfl k) ?_
    refine own_adv (B := s₁.setTop (mkF m 8 #[.val (.int p1)] [])) (fun t k => XS.ifYes X0.here hx rfl (pc0 := 1) (pc' := 8) rfl (hb hby own_d1_1) rfl ((if0 _ _).trans (feq c0).2) (by decide) (by decide) k) ?_
    refine own_adv (B := s₁.setTop (mkF m 9 #[.val (.int p1)] [(.int p1)])) (fun t k => XS.iloadN X0.here hx rfl (hb hby own_d1_8) rfl k) ?_
    refine own_adv (B := s₁.setTop (mkF m 10 #[.val (.int p1)] [(.int (1 : Int32)), (.int p1)])) (fun t k => XS.iconst X0.here hx rfl (hb hby own_d1_9) k) ?_
    refine own_adv (B := s₁.setTop (mkF m 17 #[.val (.int p1)] [])) (fun t k => XS.icmpYes X0.here hx rfl (pc0 := 10) (pc' := 17) rfl (hb hby own_d1_10) rfl (feq c1).2 (by decide) (by decide) k) ?_
    refine own_adv (B := s₁.setTop (mkF m 18 #[.val (.int p1)] [(.int p1)])) (fun t k => XS.iloadN X0.here hx rfl (hb hby own_d1_17) rfl k) ?_
    refine own_adv (B := s₁.setTop (mkF m 19 #[.val (.int p1)] [(.int (2 : Int32)), (.int p1)])) (fun t k => XS.iconst X0.here hx rfl (hb hby own_d1_18) k) ?_
    refine own_adv (B := s₁.setTop (mkF m 22 #[.val (.int p1)] [])) (fun t k => XS.icmpNo X0.here hx rfl (hb hby own_d1_19) rfl (teq c2).2 k) ?_
    obtain ⟨T12, X12, e12, st12⟩ := getS2 X0 hx hZ hown (host := "") (Or.inl (hw _ (List.mem_of_getElem? (i := 28) rfl))) Via.refl e0 S_HBCS (g := (mkF m 22 #[.val (.int p1)] [])) rfl (hb hby own_d1_22)
    refine own_adv (B := T12.setTop (mkF m 25 #[.val (.int p1)] [(.ref w_HBCS)])) st12 ?_
    obtain ⟨fs, hr, hrun, hended, hW, hsame⟩ := X12.leave (v := some (.ref w_HBCS)) (fun h => by rw [Bd.returns] at h; cases h)
    refine ⟨_, _, retOut X12 hx (t := (.object "com/example/keep_budget/keepbudget/planning/Planners")) (i := .areturn) Bd.returns rfl (Or.inr (Or.inr (Or.inr (Or.inr ⟨rfl, rfl, rfl⟩)))) (hb hby own_d1_25) hr, hrun, hended, _, _, rfl, ?_, ⟨_, rfl⟩, hW, hsame.mono (by decide) (by decide)⟩
    exact ⟨by rw [hr1], N0, e12⟩
  · skip
    refine own_adv (B := s₁.setTop (mkF m 1 #[.val (.int p1)] [(.int p1)])) (fun t k => XS.iloadN X0.here hx rfl (hb hby own_d1_0) rfl k) ?_
    refine own_adv (B := s₁.setTop (mkF m 8 #[.val (.int p1)] [])) (fun t k => XS.ifYes X0.here hx rfl (pc0 := 1) (pc' := 8) rfl (hb hby own_d1_1) rfl ((if0 _ _).trans (feq c0).2) (by decide) (by decide) k) ?_
    refine own_adv (B := s₁.setTop (mkF m 9 #[.val (.int p1)] [(.int p1)])) (fun t k => XS.iloadN X0.here hx rfl (hb hby own_d1_8) rfl k) ?_
    refine own_adv (B := s₁.setTop (mkF m 10 #[.val (.int p1)] [(.int (1 : Int32)), (.int p1)])) (fun t k => XS.iconst X0.here hx rfl (hb hby own_d1_9) k) ?_
    refine own_adv (B := s₁.setTop (mkF m 17 #[.val (.int p1)] [])) (fun t k => XS.icmpYes X0.here hx rfl (pc0 := 10) (pc' := 17) rfl (hb hby own_d1_10) rfl (feq c1).2 (by decide) (by decide) k) ?_
    refine own_adv (B := s₁.setTop (mkF m 18 #[.val (.int p1)] [(.int p1)])) (fun t k => XS.iloadN X0.here hx rfl (hb hby own_d1_17) rfl k) ?_
    refine own_adv (B := s₁.setTop (mkF m 19 #[.val (.int p1)] [(.int (2 : Int32)), (.int p1)])) (fun t k => XS.iconst X0.here hx rfl (hb hby own_d1_18) k) ?_
    refine own_adv (B := s₁.setTop (mkF m 26 #[.val (.int p1)] [])) (fun t k => XS.icmpYes X0.here hx rfl (pc0 := 19) (pc' := 26) rfl (hb hby own_d1_19) rfl (feq c2).2 (by decide) (by decide) k) ?_
    refine own_adv (B := s₁.setTop (mkF m 27 #[.val (.int p1)] [(.int p1)])) (fun t k => XS.iloadN X0.here hx rfl (hb hby own_d1_26) rfl k) ?_
    refine own_adv (B := s₁.setTop (mkF m 28 #[.val (.int p1)] [(.int (3 : Int32)), (.int p1)])) (fun t k => XS.iconst X0.here hx rfl (hb hby own_d1_27) k) ?_
    refine own_adv (B := s₁.setTop (mkF m 31 #[.val (.int p1)] [])) (fun t k => XS.icmpNo X0.here hx rfl (hb hby own_d1_28) rfl (teq c3).2 k) ?_
    obtain ⟨T13, X13, e13, st13⟩ := getS2 X0 hx hZ hown (host := "") (Or.inl (hw _ (List.mem_of_getElem? (i := 24) rfl))) Via.refl e0 S_BHEFT (g := (mkF m 31 #[.val (.int p1)] [])) rfl (hb hby own_d1_31)
    refine own_adv (B := T13.setTop (mkF m 34 #[.val (.int p1)] [(.ref w_BHEFT)])) st13 ?_
    obtain ⟨fs, hr, hrun, hended, hW, hsame⟩ := X13.leave (v := some (.ref w_BHEFT)) (fun h => by rw [Bd.returns] at h; cases h)
    refine ⟨_, _, retOut X13 hx (t := (.object "com/example/keep_budget/keepbudget/planning/Planners")) (i := .areturn) Bd.returns rfl (Or.inr (Or.inr (Or.inr (Or.inr ⟨rfl, rfl, rfl⟩)))) (hb hby own_d1_34) hr, hrun, hended, _, _, rfl, ?_, ⟨_, rfl⟩, hW, hsame.mono (by decide) (by decide)⟩
    exact ⟨by rw [hr1], N0, e13⟩
  · skip
    refine own_adv (B := s₁.setTop (mkF m 1 #[.val (.int p1)] [(.int p1)])) (fun t k => XS.iloadN X0.here hx rfl (hb hby own_d1_0) rfl k) ?_
    refine own_adv (B := s₁.setTop (mkF m 8 #[.val (.int p1)] [])) (fun t k => XS.ifYes X0.here hx rfl (pc0 := 1) (pc' := 8) rfl (hb hby own_d1_1) rfl ((if0 _ _).trans (feq c0).2) (by decide) (by decide) k) ?_
    refine own_adv (B := s₁.setTop (mkF m 9 #[.val (.int p1)] [(.int p1)])) (fun t k => XS.iloadN X0.here hx rfl (hb hby own_d1_8) rfl k) ?_
    refine own_adv (B := s₁.setTop (mkF m 10 #[.val (.int p1)] [(.int (1 : Int32)), (.int p1)])) (fun t k => XS.iconst X0.here hx rfl (hb hby own_d1_9) k) ?_
    refine own_adv (B := s₁.setTop (mkF m 17 #[.val (.int p1)] [])) (fun t k => XS.icmpYes X0.here hx rfl (pc0 := 10) (pc' := 17) rfl (hb hby own_d1_10) rfl (feq c1).2 (by decide) (by decide) k) ?_
    refine own_adv (B := s₁.setTop (mkF m 18 #[.val (.int p1)] [(.int p1)])) (fun t k => XS.iloadN X0.here hx rfl (hb hby own_d1_17) rfl k) ?_
    refine own_adv (B := s₁.setTop (mkF m 19 #[.val (.int p1)] [(.int (2 : Int32)), (.int p1)])) (fun t k => XS.iconst X0.here hx rfl (hb hby own_d1_18) k) ?_
    refine own_adv (B := s₁.setTop (mkF m 26 #[.val (.int p1)] [])) (fun t k => XS.icmpYes X0.here hx rfl (pc0 := 19) (pc' := 26) rfl (hb hby own_d1_19) rfl (feq c2).2 (by decide) (by decide) k) ?_
    refine own_adv (B := s₁.setTop (mkF m 27 #[.val (.int p1)] [(.int p1)])) (fun t k => XS.iloadN X0.here hx rfl (hb hby own_d1_26) rfl k) ?_
    refine own_adv (B := s₁.setTop (mkF m 28 #[.val (.int p1)] [(.int (3 : Int32)), (.int p1)])) (fun t k => XS.iconst X0.here hx rfl (hb hby own_d1_27) k) ?_
    refine own_adv (B := s₁.setTop (mkF m 35 #[.val (.int p1)] [])) (fun t k => XS.icmpYes X0.here hx rfl (pc0 := 28) (pc' := 35) rfl (hb hby own_d1_28) rfl (feq c3).2 (by decide) (by decide) k) ?_
    refine own_adv (B := s₁.setTop (mkF m 36 #[.val (.int p1)] [(.int p1)])) (fun t k => XS.iloadN X0.here hx rfl (hb hby own_d1_35) rfl k) ?_
    refine own_adv (B := s₁.setTop (mkF m 37 #[.val (.int p1)] [(.int (4 : Int32)), (.int p1)])) (fun t k => XS.iconst X0.here hx rfl (hb hby own_d1_36) k) ?_
    refine own_adv (B := s₁.setTop (mkF m 40 #[.val (.int p1)] [])) (fun t k => XS.icmpNo X0.here hx rfl (hb hby own_d1_37) rfl (teq c4).2 k) ?_
    obtain ⟨T14, X14, e14, st14⟩ := getS2 X0 hx hZ hown (host := "") (Or.inl (hw _ (List.mem_of_getElem? (i := 40) rfl))) Via.refl e0 S_LOSS1 (g := (mkF m 40 #[.val (.int p1)] [])) rfl (hb hby own_d1_40)
    refine own_adv (B := T14.setTop (mkF m 43 #[.val (.int p1)] [(.ref w_LOSS1)])) st14 ?_
    obtain ⟨fs, hr, hrun, hended, hW, hsame⟩ := X14.leave (v := some (.ref w_LOSS1)) (fun h => by rw [Bd.returns] at h; cases h)
    refine ⟨_, _, retOut X14 hx (t := (.object "com/example/keep_budget/keepbudget/planning/Planners")) (i := .areturn) Bd.returns rfl (Or.inr (Or.inr (Or.inr (Or.inr ⟨rfl, rfl, rfl⟩)))) (hb hby own_d1_43) hr, hrun, hended, _, _, rfl, ?_, ⟨_, rfl⟩, hW, hsame.mono (by decide) (by decide)⟩
    exact ⟨by rw [hr1], N0, e14⟩
  · skip
    refine own_adv (B := s₁.setTop (mkF m 1 #[.val (.int p1)] [(.int p1)])) (fun t k => XS.iloadN X0.here hx rfl (hb hby own_d1_0) rfl k) ?_
    refine own_adv (B := s₁.setTop (mkF m 8 #[.val (.int p1)] [])) (fun t k => XS.ifYes X0.here hx rfl (pc0 := 1) (pc' := 8) rfl (hb hby own_d1_1) rfl ((if0 _ _).trans (feq c0).2) (by decide) (by decide) k) ?_
    refine own_adv (B := s₁.setTop (mkF m 9 #[.val (.int p1)] [(.int p1)])) (fun t k => XS.iloadN X0.here hx rfl (hb hby own_d1_8) rfl k) ?_
    refine own_adv (B := s₁.setTop (mkF m 10 #[.val (.int p1)] [(.int (1 : Int32)), (.int p1)])) (fun t k => XS.iconst X0.here hx rfl (hb hby own_d1_9) k) ?_
    refine own_adv (B := s₁.setTop (mkF m 17 #[.val (.int p1)] [])) (fun t k => XS.icmpYes X0.here hx rfl (pc0 := 10) (pc' := 17) rfl (hb hby own_d1_10) rfl (feq c1).2 (by decide) (by decide) k) ?_
    refine own_adv (B := s₁.setTop (mkF m 18 #[.val (.int p1)] [(.int p1)])) (fun t k => XS.iloadN X0.here hx rfl (hb hby own_d1_17) rfl k) ?_
    refine own_adv (B := s₁.setTop (mkF m 19 #[.val (.int p1)] [(.int (2 : Int32)), (.int p1)])) (fun t k => XS.iconst X0.here hx rfl (hb hby own_d1_18) k) ?_
    refine own_adv (B := s₁.setTop (mkF m 26 #[.val (.int p1)] [])) (fun t k => XS.icmpYes X0.here hx rfl (pc0 := 19) (pc' := 26) rfl (hb hby own_d1_19) rfl (feq c2).2 (by decide) (by decide) k) ?_
    refine own_adv (B := s₁.setTop (mkF m 27 #[.val (.int p1)] [(.int p1)])) (fun t k => XS.iloadN X0.here hx rfl (hb hby own_d1_26) rfl k) ?_
    refine own_adv (B := s₁.setTop (mkF m 28 #[.val (.int p1)] [(.int (3 : Int32)), (.int p1)])) (fun t k => XS.iconst X0.here hx rfl (hb hby own_d1_27) k) ?_
    refine own_adv (B := s₁.setTop (mkF m 35 #[.val (.int p1)] [])) (fun t k => XS.icmpYes X0.here hx rfl (pc0 := 28) (pc' := 35) rfl (hb hby own_d1_28) rfl (feq c3).2 (by decide) (by decide) k) ?_
    refine own_adv (B := s₁.setTop (mkF m 36 #[.val (.int p1)] [(.int p1)])) (fun t k => XS.iloadN X0.here hx rfl (hb hby own_d1_35) rfl k) ?_
    refine own_adv (B := s₁.setTop (mkF m 37 #[.val (.int p1)] [(.int (4 : Int32)), (.int p1)])) (fun t k => XS.iconst X0.here hx rfl (hb hby own_d1_36) k) ?_
    refine own_adv (B := s₁.setTop (mkF m 44 #[.val (.int p1)] [])) (fun t k => XS.icmpYes X0.here hx rfl (pc0 := 37) (pc' := 44) rfl (hb hby own_d1_37) rfl (feq c4).2 (by decide) (by decide) k) ?_
    obtain ⟨T15, X15, e15, st15⟩ := getS2 X0 hx hZ hown (host := "") (Or.inl (hw _ (List.mem_of_getElem? (i := 36) rfl))) Via.refl e0 S_GREEDY_TIME_CD (g := (mkF m 44 #[.val (.int p1)] [])) rfl (hb hby own_d1_44)
    refine own_adv (B := T15.setTop (mkF m 47 #[.val (.int p1)] [(.ref w_GREEDY_TIME_CD)])) st15 ?_
    obtain ⟨fs, hr, hrun, hended, hW, hsame⟩ := X15.leave (v := some (.ref w_GREEDY_TIME_CD)) (fun h => by rw [Bd.returns] at h; cases h)
    refine ⟨_, _, retOut X15 hx (t := (.object "com/example/keep_budget/keepbudget/planning/Planners")) (i := .areturn) Bd.returns rfl (Or.inr (Or.inr (Or.inr (Or.inr ⟨rfl, rfl, rfl⟩)))) (hb hby own_d1_47) hr, hrun, hended, _, _, rfl, ?_, ⟨_, rfl⟩, hW, hsame.mono (by decide) (by decide)⟩
    exact ⟨by rw [hr1], N0, e15⟩
def own_QrmQ (Z : State) (a1 w_FLEET : Addr) (C : String) (h0 : Heap) (n0 : Nat) (v : Option Value) (h : Heap) (L : List Loc) : Prop := v = some (.ref a1) ∧ Fr n0 L ∧ h = h0
set_option maxRecDepth 65536 in
set_option maxHeartbeats 40000000 in
theorem rmQ (l : Launch) (Z : State) (a0 : Array Value) (hw : ∀ d ∈ tables_1, d.before a0 Z = true) (ws : List Jvm.Cond) (a1 w_FLEET : Addr) (C : String) (h0 : Heap) (n0 : Nat) (Z0 : n0 ≤ h0.size) (S_FLEET : Sta Z h0 "com/example/keep_budget/keepbudget/planning/Planners$PlansOn" "FLEET" "Lcom/example/keep_budget/keepbudget/planning/Planners$PlansOn;" (.ref w_FLEET)) (F1 : Fld Z h0 a1 "com/example/keep_budget/keepbudget/planning/Planners" "plansOn" "Lcom/example/keep_budget/keepbudget/planning/Planners$PlansOn;" (.ref w_FLEET)) (E1 : Exa Z h0 a1 C) (hsel : (Jvm.Cond.selects C ({ cls := "com/example/keep_budget/keepbudget/planning/Planners", name := "plansOn", desc := "()Lcom/example/keep_budget/keepbudget/planning/Planners$PlansOn;" } : Jvm.MethodName) ({ cls := "com/example/keep_budget/keepbudget/planning/Planners", name := "plansOn", desc := "()Lcom/example/keep_budget/keepbudget/planning/Planners$PlansOn;" } : Jvm.MethodName)).before a0 Z = true) :
    MetFree l (⟨"com/example/keep_budget/keepbudget/planning/Comparison", "requireOnFleet", "(Lcom/example/keep_budget/keepbudget/planning/Planners;)Lcom/example/keep_budget/keepbudget/planning/Planners;"⟩ : MethodName) (head1 (Jvm.Cond.code (⟨"com/example/keep_budget/keepbudget/planning/Comparison", "requireOnFleet", "(Lcom/example/keep_budget/keepbudget/planning/Planners;)Lcom/example/keep_budget/keepbudget/planning/Planners;"⟩ : MethodName) prog_41_method_3_code 1 (some (.object "com/example/keep_budget/keepbudget/planning/Planners")) :: ws) ({ frames := 1, cells := 0, slots := 0, locals := 12 } : Room)) (fun a U => a = #[(.ref a1)] ∧ Z.Warmed39 U.vm ∧ U.heap = h0) (fun _ _ _ _ _ => True) (fun _ U o U' => ∃ v L, o = .returned v ∧ own_QrmQ Z a1 w_FLEET C h0 n0 v U'.heap L ∧ FrameEnd U o U' L ({ frames := 1, cells := 0, slots := 0, locals := 12 } : Room).cells ({ frames := 1, cells := 0, slots := 0, locals := 12 } : Room).slots) := by
  refine MetFree.of_bodySF (plainFor_of_name own_pn_com_example_keep_budget_keepbudget_planning_Comparison) hisR ?_
  intro p e s m args below meth c s₁ Bd hml0 hP hK
  obtain ⟨rfl, hZ, hh⟩ := hP
  have hx := Bd.exec
  have hby := Bd.bytes
  have hml : c.maxLocals = 1 := hml0
  have hown : s.vm.findClass "com/example/keep_budget/keepbudget/planning/Comparison" = some m.cls := findClass_of_methodNamed Bd.named
  have hnm := (name_of_methodNamed Bd.named Bd.method).1
  have X0 : Stand p l e ({ frames := 1, cells := 0, slots := 0, locals := 12 } : Room) s m #[(.ref a1)] below meth c s₁ [] 0 0 := Stand.of_body Bd
  have e0 : s₁.heap = h0 := by rw [← hh, Bd.state]; rfl
  have N0 := Fr.nil n0
  refine own_adv (B := s₁.setTop (mkF m 0 #[.val (.ref a1)] [])) (fun t k => castTop (own_ef_rmQ m a1) k) ?_
  refine own_adv (B := s₁.setTop (mkF m 1 #[.val (.ref a1)] [(.ref a1)])) (fun t k => XS.aloadN X0.here hx rfl (hb hby own_d2_0) rfl rfl k) ?_
  obtain ⟨cq10, kq10, q10a, q10b, q10c⟩ := isOf hZ e0 E1
  obtain ⟨_, _, ⟨T10, L10, k10, n10⟩, -, X10, ⟨Lc10, hQ10, l10, y10, z10⟩, st10⟩ := X0.virtualBack hx (y := (⟨"com/example/keep_budget/keepbudget/planning/Planners", "plansOn", "()Lcom/example/keep_budget/keepbudget/planning/Planners$PlansOn;"⟩ : MethodName)) (z := (⟨"com/example/keep_budget/keepbudget/planning/Planners", "plansOn", "()Lcom/example/keep_budget/keepbudget/planning/Planners$PlansOn;"⟩ : MethodName)) hown (mvT hZ (hw _ (List.mem_of_getElem? (i := 12) rfl))) (mvT hZ (hw _ (List.mem_of_getElem? (i := 13) rfl))) (notFace_of_selects (args := #[]) (mvT hZ hsel)) (mvT hZ hsel) (mvT hZ (hw _ (List.mem_of_getElem? (i := 14) rfl))) (by decide) (backOf (W := 0) (rmP l Z a0 hw [] a1 w_FLEET h0 n0 Z0 F1) hZ (hw _ (List.mem_of_getElem? (i := 16) rfl)) (hw _ (List.mem_of_getElem? (i := 6) rfl)) (by decide) (by decide)) q10a q10c (g := (mkF m 1 #[.val (.ref a1)] [(.ref a1)])) rfl (by rw [hml]; rfl) (Steps.refl _) (argsL := []) (rest := []) (lenOf own_pd___Lcom_example_keep_budget_keepbudget_planning_Planners_PlansOn_ rfl) rfl (by show 2 * 0 + _ ≤ _; exact Nat.le_of_eq rfl) (hb hby own_d2_1) (fun _ _ => ⟨rfl, e0, (by decide : 0 + 0 ≤ _), (by decide : 0 + 0 ≤ _)⟩)
  dsimp only [Pt.U, Pt.locs, Pt.cells, Pt.slots] at X10 l10 y10 z10 st10 hQ10
  subst l10 y10 z10
  obtain ⟨rfl, N10q, e10⟩ := hQ10
  have N10 := Fr.app N0 N10q
  refine own_adv (B := T10.setTop (mkF m 4 #[.val (.ref a1)] [(.ref w_FLEET)])) (fun t k => st10.trans k) ?_
  obtain ⟨T11, X11, e11, st11⟩ := getS2 X10 hx hZ hown (host := "") (Or.inl (hw _ (List.mem_of_getElem? (i := 21) rfl))) Via.refl e10 S_FLEET (g := (mkF m 4 #[.val (.ref a1)] [(.ref w_FLEET)])) rfl (hb hby own_d2_4)
  refine own_adv (B := T11.setTop (mkF m 7 #[.val (.ref a1)] [(.ref w_FLEET), (.ref w_FLEET)])) st11 ?_
  refine own_adv (B := T11.setTop (mkF m 27 #[.val (.ref a1)] [])) (fun t k => Jvm.RoadKit.acmp (g := (mkF m 7 #[.val (.ref a1)] [(.ref w_FLEET), (.ref w_FLEET)])) X11 hx rfl rfl rfl (pc0 := 7) (pc' := 27) (same := true) rfl (hb hby own_d2_7) rfl (decide_eq_true rfl) (by decide) (by decide) k) ?_
  refine own_adv (B := T11.setTop (mkF m 28 #[.val (.ref a1)] [(.ref a1)])) (fun t k => XS.aloadN X11.here hx rfl (hb hby own_d2_27) rfl rfl k) ?_
  obtain ⟨fs, hr, hrun, hended, hW, hsame⟩ := X11.leave (v := some (.ref a1)) (fun h => by rw [Bd.returns] at h; cases h)
  refine ⟨_, _, retOut X11 hx (t := (.object "com/example/keep_budget/keepbudget/planning/Planners")) (i := .areturn) Bd.returns rfl (Or.inr (Or.inr (Or.inr (Or.inr ⟨rfl, rfl, rfl⟩)))) (hb hby own_d2_28) hr, hrun, hended, _, _, rfl, ?_, ⟨_, rfl⟩, hW, hsame.mono (by decide) (by decide)⟩
  exact ⟨rfl, N10, e11⟩
def own_Qrm0 (Z : State) (p1 : Int32) (w_HEFT w_CHEAPEST w_HBCS w_BHEFT w_LOSS1 w_GREEDY_TIME_CD w_FLEET : Addr) (h0 : Heap) (n0 : Nat) (v : Option Value) (h : Heap) (L : List Loc) : Prop := v = some (.int 1) ∧ Fr n0 L
set_option maxRecDepth 65536 in
set_option maxHeartbeats 40000000 in
theorem rm0 (l : Launch) (Z : State) (a0 : Array Value) (hw : ∀ d ∈ tables_1, d.before a0 Z = true) (ws : List Jvm.Cond) (p1 : Int32) (w_HEFT w_CHEAPEST w_HBCS w_BHEFT w_LOSS1 w_GREEDY_TIME_CD w_FLEET : Addr) (h0 : Heap) (n0 : Nat) (Z0 : n0 ≤ h0.size) (S_HEFT : Sta Z h0 "com/example/keep_budget/keepbudget/planning/Planners" "HEFT" "Lcom/example/keep_budget/keepbudget/planning/Planners;" (.ref w_HEFT)) (S_CHEAPEST : Sta Z h0 "com/example/keep_budget/keepbudget/planning/Planners" "CHEAPEST" "Lcom/example/keep_budget/keepbudget/planning/Planners;" (.ref w_CHEAPEST)) (S_HBCS : Sta Z h0 "com/example/keep_budget/keepbudget/planning/Planners" "HBCS" "Lcom/example/keep_budget/keepbudget/planning/Planners;" (.ref w_HBCS)) (S_BHEFT : Sta Z h0 "com/example/keep_budget/keepbudget/planning/Planners" "BHEFT" "Lcom/example/keep_budget/keepbudget/planning/Planners;" (.ref w_BHEFT)) (S_LOSS1 : Sta Z h0 "com/example/keep_budget/keepbudget/planning/Planners" "LOSS1" "Lcom/example/keep_budget/keepbudget/planning/Planners;" (.ref w_LOSS1)) (S_GREEDY_TIME_CD : Sta Z h0 "com/example/keep_budget/keepbudget/planning/Planners" "GREEDY_TIME_CD" "Lcom/example/keep_budget/keepbudget/planning/Planners;" (.ref w_GREEDY_TIME_CD)) (S_FLEET : Sta Z h0 "com/example/keep_budget/keepbudget/planning/Planners$PlansOn" "FLEET" "Lcom/example/keep_budget/keepbudget/planning/Planners$PlansOn;" (.ref w_FLEET)) (E_HEFT : Exa Z h0 w_HEFT "com/example/keep_budget/keepbudget/planning/Planners$2") (E_CHEAPEST : Exa Z h0 w_CHEAPEST "com/example/keep_budget/keepbudget/planning/Planners$3") (E_HBCS : Exa Z h0 w_HBCS "com/example/keep_budget/keepbudget/planning/Planners$4") (E_BHEFT : Exa Z h0 w_BHEFT "com/example/keep_budget/keepbudget/planning/Planners$5") (E_LOSS1 : Exa Z h0 w_LOSS1 "com/example/keep_budget/keepbudget/planning/Planners$6") (E_GREEDY_TIME_CD : Exa Z h0 w_GREEDY_TIME_CD "com/example/keep_budget/keepbudget/planning/Planners$7") (F_plansOn_HEFT : Fld Z h0 w_HEFT "com/example/keep_budget/keepbudget/planning/Planners" "plansOn" "Lcom/example/keep_budget/keepbudget/planning/Planners$PlansOn;" (.ref w_FLEET)) (F_plansOn_CHEAPEST : Fld Z h0 w_CHEAPEST "com/example/keep_budget/keepbudget/planning/Planners" "plansOn" "Lcom/example/keep_budget/keepbudget/planning/Planners$PlansOn;" (.ref w_FLEET)) (F_plansOn_HBCS : Fld Z h0 w_HBCS "com/example/keep_budget/keepbudget/planning/Planners" "plansOn" "Lcom/example/keep_budget/keepbudget/planning/Planners$PlansOn;" (.ref w_FLEET)) (F_plansOn_BHEFT : Fld Z h0 w_BHEFT "com/example/keep_budget/keepbudget/planning/Planners" "plansOn" "Lcom/example/keep_budget/keepbudget/planning/Planners$PlansOn;" (.ref w_FLEET)) (F_plansOn_LOSS1 : Fld Z h0 w_LOSS1 "com/example/keep_budget/keepbudget/planning/Planners" "plansOn" "Lcom/example/keep_budget/keepbudget/planning/Planners$PlansOn;" (.ref w_FLEET)) (F_plansOn_GREEDY_TIME_CD : Fld Z h0 w_GREEDY_TIME_CD "com/example/keep_budget/keepbudget/planning/Planners" "plansOn" "Lcom/example/keep_budget/keepbudget/planning/Planners$PlansOn;" (.ref w_FLEET)) :
    MetFree l x (head1 (Jvm.Cond.code x code maxLocals ret :: ws) room_1) (fun a U => a = #[(.int p1)] ∧ Z.Warmed39 U.vm ∧ U.heap = h0) (fun _ _ _ _ _ => True) (fun _ U o U' => ∃ v L, o = .returned v ∧ own_Qrm0 Z p1 w_HEFT w_CHEAPEST w_HBCS w_BHEFT w_LOSS1 w_GREEDY_TIME_CD w_FLEET h0 n0 v U'.heap L ∧ FrameEnd U o U' L room_1.cells room_1.slots) := by
  refine MetFree.of_bodySF (plainFor_of_name own_pn_com_example_keep_budget_keepbudget_planning_ComparisonRequireOnFleetPinLaw) hisR ?_
  intro p e s m args below meth c s₁ Bd hml0 hP hK
  obtain ⟨rfl, hZ, hh⟩ := hP
  have hx := Bd.exec
  have hby := Bd.bytes
  have hml : c.maxLocals = 4 := hml0
  have hown : s.vm.findClass "com/example/keep_budget/keepbudget/planning/ComparisonRequireOnFleetPinLaw" = some m.cls := findClass_of_methodNamed Bd.named
  have hnm := (name_of_methodNamed Bd.named Bd.method).1
  have X0 : Stand p l e room_1 s m #[(.int p1)] below meth c s₁ [] 0 0 := Stand.of_body Bd
  have e0 : s₁.heap = h0 := by rw [← hh, Bd.state]; rfl
  have N0 := Fr.nil n0
  refine own_adv (B := s₁.setTop (mkF m 0 #[.val (.int p1), .unset, .unset, .unset] [])) (fun t k => castTop (own_ef_rm0 m p1) k) ?_
  refine own_adv (B := s₁.setTop (mkF m 1 #[.val (.int p1), .unset, .unset, .unset] [(.int p1)])) (fun t k => XS.iloadN X0.here hx rfl (hb hby at_0) rfl k) ?_
  refine own_adv (B := s₁.setTop (mkF m 3 #[.val (.int p1), .unset, .unset, .unset] [(.int (2147483647 : Int32)), (.int p1)])) (fun t k => X0.ldcI hx hown (mvT hZ (hw _ (List.mem_of_getElem? (i := 0) rfl))) (g := (mkF m 1 #[.val (.int p1), .unset, .unset, .unset] [(.int p1)])) rfl (hb hby at_1) k) ?_
  refine own_adv (B := s₁.setTop (mkF m 4 #[.val (.int p1), .unset, .unset, .unset] [(.int (p1 &&& (2147483647 : Int32)))])) (fun t k => XS.iand X0.here hx rfl (hb hby at_3) rfl k) ?_
  refine own_adv (B := s₁.setTop (mkF m 6 #[.val (.int p1), .unset, .unset, .unset] [(.int (6 : Int32)), (.int (p1 &&& (2147483647 : Int32)))])) (fun t k => XS.bipush X0.here hx rfl (hb hby at_4) k) ?_
  refine own_adv (B := s₁.setTop (mkF m 7 #[.val (.int p1), .unset, .unset, .unset] [(.int ((p1 &&& (2147483647 : Int32)) % (6 : Int32)))])) (fun t k => iremM X0 hx (g := (mkF m 6 #[.val (.int p1), .unset, .unset, .unset] [(.int (6 : Int32)), (.int (p1 &&& (2147483647 : Int32)))])) rfl (hb hby at_6) rfl (by decide) k) ?_
  refine own_adv (B := s₁.setTop (mkF m 8 #[.val (.int p1), .val (.int ((p1 &&& (2147483647 : Int32)) % (6 : Int32))), .unset, .unset] [])) (fun t k => XS.istoreN X0.here hx rfl (hb hby at_7) rfl (l' := #[.val (.int p1), .val (.int ((p1 &&& (2147483647 : Int32)) % (6 : Int32))), .unset, .unset]) rfl k) ?_
  refine own_adv (B := s₁.setTop (mkF m 9 #[.val (.int p1), .val (.int ((p1 &&& (2147483647 : Int32)) % (6 : Int32))), .unset, .unset] [(.int ((p1 &&& (2147483647 : Int32)) % (6 : Int32)))])) (fun t k => XS.iloadN X0.here hx rfl (hb hby at_8) rfl k) ?_
  by_cases c0 : ((p1 &&& (2147483647 : Int32)) % (6 : Int32)) = (0 : Int32)
  · skip
    obtain ⟨_, _, ⟨T10, L10, k10, n10⟩, -, X10, ⟨Lc10, hQ10, l10, y10, z10⟩, st10⟩ := Jvm.LawKit.callS X0 hx (y := (⟨"com/example/keep_budget/keepbudget/planning/ComparisonRequireOnFleetPinLaw", "fleetPlanner", "(I)Lcom/example/keep_budget/keepbudget/planning/Planners;"⟩ : MethodName)) hown (mvT hZ (hw _ (List.mem_of_getElem? (i := 1) rfl))) (mvT hZ (hw _ (List.mem_of_getElem? (i := 2) rfl))) (mvT hZ (hw _ (List.mem_of_getElem? (i := 3) rfl))) (mvT hZ (hw _ (List.mem_of_getElem? (i := 4) rfl))) (by decide) (backOf (W := 0) (rmF l Z a0 hw [] ((p1 &&& (2147483647 : Int32)) % (6 : Int32)) w_HEFT w_CHEAPEST w_HBCS w_BHEFT w_LOSS1 w_GREEDY_TIME_CD w_HEFT h0 n0 Z0 S_HEFT S_CHEAPEST S_HBCS S_BHEFT S_LOSS1 S_GREEDY_TIME_CD (Or.inl (⟨c0, rfl⟩))) hZ (hw _ (List.mem_of_getElem? (i := 4) rfl)) (hw _ (List.mem_of_getElem? (i := 3) rfl)) (by decide) (by decide)) (g := (mkF m 9 #[.val (.int p1), .val (.int ((p1 &&& (2147483647 : Int32)) % (6 : Int32))), .unset, .unset] [(.int ((p1 &&& (2147483647 : Int32)) % (6 : Int32)))])) rfl (by rw [hml]; rfl) (argsL := [(.int ((p1 &&& (2147483647 : Int32)) % (6 : Int32)))]) (rest := []) (lenOf own_pd__I_Lcom_example_keep_budget_keepbudget_planning_Planners_ rfl) rfl (by show 2 * 0 + _ ≤ _; exact Nat.le_of_eq rfl) (hb hby at_9) (fun _ _ => ⟨rfl, e0, (by decide : 0 + 0 ≤ _), (by decide : 0 + 0 ≤ _)⟩)
    dsimp only [Pt.U, Pt.locs, Pt.cells, Pt.slots] at X10 l10 y10 z10 st10 hQ10
    subst l10 y10 z10
    obtain ⟨rfl, N10q, e10⟩ := hQ10
    have N10 := Fr.app N0 N10q
    refine own_adv (B := T10.setTop (mkF m 12 #[.val (.int p1), .val (.int ((p1 &&& (2147483647 : Int32)) % (6 : Int32))), .unset, .unset] [(.ref w_HEFT)])) (fun t k => st10 t k) ?_
    refine own_adv (B := T10.setTop (mkF m 13 #[.val (.int p1), .val (.int ((p1 &&& (2147483647 : Int32)) % (6 : Int32))), .val (.ref w_HEFT), .unset] [])) (fun t k => XS.astoreN X10.here hx rfl (hb hby at_12) rfl rfl (l' := #[.val (.int p1), .val (.int ((p1 &&& (2147483647 : Int32)) % (6 : Int32))), .val (.ref w_HEFT), .unset]) rfl k) ?_
    refine own_adv (B := T10.setTop (mkF m 14 #[.val (.int p1), .val (.int ((p1 &&& (2147483647 : Int32)) % (6 : Int32))), .val (.ref w_HEFT), .unset] [(.ref w_HEFT)])) (fun t k => XS.aloadN X10.here hx rfl (hb hby at_13) rfl rfl k) ?_
    obtain ⟨_, _, ⟨T11, L11, k11, n11⟩, -, X11, ⟨Lc11, hQ11, l11, y11, z11⟩, st11⟩ := Jvm.LawKit.callS X10 hx (y := (⟨"com/example/keep_budget/keepbudget/planning/Comparison", "requireOnFleet", "(Lcom/example/keep_budget/keepbudget/planning/Planners;)Lcom/example/keep_budget/keepbudget/planning/Planners;"⟩ : MethodName)) hown (mvT hZ (hw _ (List.mem_of_getElem? (i := 8) rfl))) (mvT hZ (hw _ (List.mem_of_getElem? (i := 9) rfl))) (mvT hZ (hw _ (List.mem_of_getElem? (i := 10) rfl))) (mvT hZ (hw _ (List.mem_of_getElem? (i := 11) rfl))) (by decide) (backOf (W := 0) (rmQ l Z a0 hw [] w_HEFT w_FLEET "com/example/keep_budget/keepbudget/planning/Planners$2" h0 n0 Z0 S_FLEET F_plansOn_HEFT E_HEFT (hw _ (List.mem_of_getElem? (i := 15) rfl))) hZ (hw _ (List.mem_of_getElem? (i := 11) rfl)) (hw _ (List.mem_of_getElem? (i := 10) rfl)) (by decide) (by decide)) (g := (mkF m 14 #[.val (.int p1), .val (.int ((p1 &&& (2147483647 : Int32)) % (6 : Int32))), .val (.ref w_HEFT), .unset] [(.ref w_HEFT)])) rfl (by rw [hml]; rfl) (argsL := [(.ref w_HEFT)]) (rest := []) (lenOf own_pd__Lcom_example_keep_budget_keepbudget_planning_Planners__Lcom_example_keep_budget_keepbudget_planning_Planners_ rfl) rfl (by show 2 * 0 + _ ≤ _; exact Nat.le_of_eq rfl) (hb hby at_14) (fun _ _ => ⟨rfl, e10, (by decide : 0 + 0 ≤ _), (by decide : 0 + 0 ≤ _)⟩)
    dsimp only [Pt.U, Pt.locs, Pt.cells, Pt.slots] at X11 l11 y11 z11 st11 hQ11
    subst l11 y11 z11
    obtain ⟨rfl, N11q, e11⟩ := hQ11
    have N11 := Fr.app N10 N11q
    refine own_adv (B := T11.setTop (mkF m 17 #[.val (.int p1), .val (.int ((p1 &&& (2147483647 : Int32)) % (6 : Int32))), .val (.ref w_HEFT), .unset] [(.ref w_HEFT)])) (fun t k => st11 t k) ?_
    refine own_adv (B := T11.setTop (mkF m 18 #[.val (.int p1), .val (.int ((p1 &&& (2147483647 : Int32)) % (6 : Int32))), .val (.ref w_HEFT), .val (.ref w_HEFT)] [])) (fun t k => XS.astoreN X11.here hx rfl (hb hby at_17) rfl rfl (l' := #[.val (.int p1), .val (.int ((p1 &&& (2147483647 : Int32)) % (6 : Int32))), .val (.ref w_HEFT), .val (.ref w_HEFT)]) rfl k) ?_
    refine own_adv (B := T11.setTop (mkF m 19 #[.val (.int p1), .val (.int ((p1 &&& (2147483647 : Int32)) % (6 : Int32))), .val (.ref w_HEFT), .val (.ref w_HEFT)] [(.ref w_HEFT)])) (fun t k => XS.aloadN X11.here hx rfl (hb hby at_18) rfl rfl k) ?_
    refine own_adv (B := T11.setTop (mkF m 20 #[.val (.int p1), .val (.int ((p1 &&& (2147483647 : Int32)) % (6 : Int32))), .val (.ref w_HEFT), .val (.ref w_HEFT)] [(.ref w_HEFT), (.ref w_HEFT)])) (fun t k => XS.aloadN X11.here hx rfl (hb hby at_19) rfl rfl k) ?_
    refine own_adv (B := T11.setTop (mkF m 23 #[.val (.int p1), .val (.int ((p1 &&& (2147483647 : Int32)) % (6 : Int32))), .val (.ref w_HEFT), .val (.ref w_HEFT)] [])) (fun t k => Jvm.RoadKit.acmp (g := (mkF m 20 #[.val (.int p1), .val (.int ((p1 &&& (2147483647 : Int32)) % (6 : Int32))), .val (.ref w_HEFT), .val (.ref w_HEFT)] [(.ref w_HEFT), (.ref w_HEFT)])) X11 hx rfl rfl rfl (pc0 := 20) (pc' := 23) (same := true) rfl (hb hby at_20) rfl (decide_eq_true rfl) (by decide) (by decide) k) ?_
    refine own_adv (B := T11.setTop (mkF m 24 #[.val (.int p1), .val (.int ((p1 &&& (2147483647 : Int32)) % (6 : Int32))), .val (.ref w_HEFT), .val (.ref w_HEFT)] [(.ref w_HEFT)])) (fun t k => XS.aloadN X11.here hx rfl (hb hby at_23) rfl rfl k) ?_
    obtain ⟨cq12, kq12, q12a, q12b, q12c⟩ := isOf hZ e11 E_HEFT
    obtain ⟨_, _, ⟨T12, L12, k12, n12⟩, -, X12, ⟨Lc12, hQ12, l12, y12, z12⟩, st12⟩ := X11.virtualBack hx (y := (⟨"com/example/keep_budget/keepbudget/planning/Planners", "plansOn", "()Lcom/example/keep_budget/keepbudget/planning/Planners$PlansOn;"⟩ : MethodName)) (z := (⟨"com/example/keep_budget/keepbudget/planning/Planners", "plansOn", "()Lcom/example/keep_budget/keepbudget/planning/Planners$PlansOn;"⟩ : MethodName)) hown (mvT hZ (hw _ (List.mem_of_getElem? (i := 22) rfl))) (mvT hZ (hw _ (List.mem_of_getElem? (i := 13) rfl))) (notFace_of_selects (args := #[]) (mvT hZ (hw _ (List.mem_of_getElem? (i := 15) rfl)))) (mvT hZ (hw _ (List.mem_of_getElem? (i := 15) rfl))) (mvT hZ (hw _ (List.mem_of_getElem? (i := 14) rfl))) (by decide) (backOf (W := 0) (rmP l Z a0 hw [] w_HEFT w_FLEET h0 n0 Z0 F_plansOn_HEFT) hZ (hw _ (List.mem_of_getElem? (i := 16) rfl)) (hw _ (List.mem_of_getElem? (i := 6) rfl)) (by decide) (by decide)) q12a q12c (g := (mkF m 24 #[.val (.int p1), .val (.int ((p1 &&& (2147483647 : Int32)) % (6 : Int32))), .val (.ref w_HEFT), .val (.ref w_HEFT)] [(.ref w_HEFT)])) rfl (by rw [hml]; rfl) (Steps.refl _) (argsL := []) (rest := []) (lenOf own_pd___Lcom_example_keep_budget_keepbudget_planning_Planners_PlansOn_ rfl) rfl (by show 2 * 0 + _ ≤ _; exact Nat.le_of_eq rfl) (hb hby at_24) (fun _ _ => ⟨rfl, e11, (by decide : 0 + 0 ≤ _), (by decide : 0 + 0 ≤ _)⟩)
    dsimp only [Pt.U, Pt.locs, Pt.cells, Pt.slots] at X12 l12 y12 z12 st12 hQ12
    subst l12 y12 z12
    obtain ⟨rfl, N12q, e12⟩ := hQ12
    have N12 := Fr.app N11 N12q
    refine own_adv (B := T12.setTop (mkF m 27 #[.val (.int p1), .val (.int ((p1 &&& (2147483647 : Int32)) % (6 : Int32))), .val (.ref w_HEFT), .val (.ref w_HEFT)] [(.ref w_FLEET)])) (fun t k => st12.trans k) ?_
    obtain ⟨T13, X13, e13, st13⟩ := getS2 X12 hx hZ hown (host := "") (Or.inl (hw _ (List.mem_of_getElem? (i := 23) rfl))) Via.refl e12 S_FLEET (g := (mkF m 27 #[.val (.int p1), .val (.int ((p1 &&& (2147483647 : Int32)) % (6 : Int32))), .val (.ref w_HEFT), .val (.ref w_HEFT)] [(.ref w_FLEET)])) rfl (hb hby at_27)
    refine own_adv (B := T13.setTop (mkF m 30 #[.val (.int p1), .val (.int ((p1 &&& (2147483647 : Int32)) % (6 : Int32))), .val (.ref w_HEFT), .val (.ref w_HEFT)] [(.ref w_FLEET), (.ref w_FLEET)])) st13 ?_
    refine own_adv (B := T13.setTop (mkF m 33 #[.val (.int p1), .val (.int ((p1 &&& (2147483647 : Int32)) % (6 : Int32))), .val (.ref w_HEFT), .val (.ref w_HEFT)] [])) (fun t k => Jvm.RoadKit.acmp (g := (mkF m 30 #[.val (.int p1), .val (.int ((p1 &&& (2147483647 : Int32)) % (6 : Int32))), .val (.ref w_HEFT), .val (.ref w_HEFT)] [(.ref w_FLEET), (.ref w_FLEET)])) X13 hx rfl rfl rfl (pc0 := 30) (pc' := 33) (same := true) rfl (hb hby at_30) rfl (decide_eq_true rfl) (by decide) (by decide) k) ?_
    refine own_adv (B := T13.setTop (mkF m 34 #[.val (.int p1), .val (.int ((p1 &&& (2147483647 : Int32)) % (6 : Int32))), .val (.ref w_HEFT), .val (.ref w_HEFT)] [(.int (1 : Int32))])) (fun t k => XS.iconst X13.here hx rfl (hb hby at_33) k) ?_
    refine own_adv (B := T13.setTop (mkF m 38 #[.val (.int p1), .val (.int ((p1 &&& (2147483647 : Int32)) % (6 : Int32))), .val (.ref w_HEFT), .val (.ref w_HEFT)] [(.int (1 : Int32))])) (fun t k => XS.goto X13.here hx rfl (pc0 := 34) (pc' := 38) rfl (hb hby at_34) (by decide) (by decide) k) ?_
    obtain ⟨fs, hr, hrun, hended, hW, hsame⟩ := X13.leave (v := some (.int (1 : Int32))) (fun h => by rw [Bd.returns] at h; cases h)
    refine ⟨_, _, retN X13 hx (t := .boolean) Bd.returns (by simp) (hb hby at_38) hr, hrun, hended, _, _, rfl, ?_, ⟨_, rfl⟩, hW, hsame.mono (by decide) (by decide)⟩
    exact ⟨rfl, N12⟩
  by_cases c1 : ((p1 &&& (2147483647 : Int32)) % (6 : Int32)) = (1 : Int32)
  · skip
    obtain ⟨_, _, ⟨T14, L14, k14, n14⟩, -, X14, ⟨Lc14, hQ14, l14, y14, z14⟩, st14⟩ := Jvm.LawKit.callS X0 hx (y := (⟨"com/example/keep_budget/keepbudget/planning/ComparisonRequireOnFleetPinLaw", "fleetPlanner", "(I)Lcom/example/keep_budget/keepbudget/planning/Planners;"⟩ : MethodName)) hown (mvT hZ (hw _ (List.mem_of_getElem? (i := 1) rfl))) (mvT hZ (hw _ (List.mem_of_getElem? (i := 2) rfl))) (mvT hZ (hw _ (List.mem_of_getElem? (i := 3) rfl))) (mvT hZ (hw _ (List.mem_of_getElem? (i := 4) rfl))) (by decide) (backOf (W := 0) (rmF l Z a0 hw [] ((p1 &&& (2147483647 : Int32)) % (6 : Int32)) w_HEFT w_CHEAPEST w_HBCS w_BHEFT w_LOSS1 w_GREEDY_TIME_CD w_CHEAPEST h0 n0 Z0 S_HEFT S_CHEAPEST S_HBCS S_BHEFT S_LOSS1 S_GREEDY_TIME_CD (Or.inr (Or.inl (⟨c0, c1, rfl⟩)))) hZ (hw _ (List.mem_of_getElem? (i := 4) rfl)) (hw _ (List.mem_of_getElem? (i := 3) rfl)) (by decide) (by decide)) (g := (mkF m 9 #[.val (.int p1), .val (.int ((p1 &&& (2147483647 : Int32)) % (6 : Int32))), .unset, .unset] [(.int ((p1 &&& (2147483647 : Int32)) % (6 : Int32)))])) rfl (by rw [hml]; rfl) (argsL := [(.int ((p1 &&& (2147483647 : Int32)) % (6 : Int32)))]) (rest := []) (lenOf own_pd__I_Lcom_example_keep_budget_keepbudget_planning_Planners_ rfl) rfl (by show 2 * 0 + _ ≤ _; exact Nat.le_of_eq rfl) (hb hby at_9) (fun _ _ => ⟨rfl, e0, (by decide : 0 + 0 ≤ _), (by decide : 0 + 0 ≤ _)⟩)
    dsimp only [Pt.U, Pt.locs, Pt.cells, Pt.slots] at X14 l14 y14 z14 st14 hQ14
    subst l14 y14 z14
    obtain ⟨rfl, N14q, e14⟩ := hQ14
    have N14 := Fr.app N0 N14q
    refine own_adv (B := T14.setTop (mkF m 12 #[.val (.int p1), .val (.int ((p1 &&& (2147483647 : Int32)) % (6 : Int32))), .unset, .unset] [(.ref w_CHEAPEST)])) (fun t k => st14 t k) ?_
    refine own_adv (B := T14.setTop (mkF m 13 #[.val (.int p1), .val (.int ((p1 &&& (2147483647 : Int32)) % (6 : Int32))), .val (.ref w_CHEAPEST), .unset] [])) (fun t k => XS.astoreN X14.here hx rfl (hb hby at_12) rfl rfl (l' := #[.val (.int p1), .val (.int ((p1 &&& (2147483647 : Int32)) % (6 : Int32))), .val (.ref w_CHEAPEST), .unset]) rfl k) ?_
    refine own_adv (B := T14.setTop (mkF m 14 #[.val (.int p1), .val (.int ((p1 &&& (2147483647 : Int32)) % (6 : Int32))), .val (.ref w_CHEAPEST), .unset] [(.ref w_CHEAPEST)])) (fun t k => XS.aloadN X14.here hx rfl (hb hby at_13) rfl rfl k) ?_
    obtain ⟨_, _, ⟨T15, L15, k15, n15⟩, -, X15, ⟨Lc15, hQ15, l15, y15, z15⟩, st15⟩ := Jvm.LawKit.callS X14 hx (y := (⟨"com/example/keep_budget/keepbudget/planning/Comparison", "requireOnFleet", "(Lcom/example/keep_budget/keepbudget/planning/Planners;)Lcom/example/keep_budget/keepbudget/planning/Planners;"⟩ : MethodName)) hown (mvT hZ (hw _ (List.mem_of_getElem? (i := 8) rfl))) (mvT hZ (hw _ (List.mem_of_getElem? (i := 9) rfl))) (mvT hZ (hw _ (List.mem_of_getElem? (i := 10) rfl))) (mvT hZ (hw _ (List.mem_of_getElem? (i := 11) rfl))) (by decide) (backOf (W := 0) (rmQ l Z a0 hw [] w_CHEAPEST w_FLEET "com/example/keep_budget/keepbudget/planning/Planners$3" h0 n0 Z0 S_FLEET F_plansOn_CHEAPEST E_CHEAPEST (hw _ (List.mem_of_getElem? (i := 34) rfl))) hZ (hw _ (List.mem_of_getElem? (i := 11) rfl)) (hw _ (List.mem_of_getElem? (i := 10) rfl)) (by decide) (by decide)) (g := (mkF m 14 #[.val (.int p1), .val (.int ((p1 &&& (2147483647 : Int32)) % (6 : Int32))), .val (.ref w_CHEAPEST), .unset] [(.ref w_CHEAPEST)])) rfl (by rw [hml]; rfl) (argsL := [(.ref w_CHEAPEST)]) (rest := []) (lenOf own_pd__Lcom_example_keep_budget_keepbudget_planning_Planners__Lcom_example_keep_budget_keepbudget_planning_Planners_ rfl) rfl (by show 2 * 0 + _ ≤ _; exact Nat.le_of_eq rfl) (hb hby at_14) (fun _ _ => ⟨rfl, e14, (by decide : 0 + 0 ≤ _), (by decide : 0 + 0 ≤ _)⟩)
    dsimp only [Pt.U, Pt.locs, Pt.cells, Pt.slots] at X15 l15 y15 z15 st15 hQ15
    subst l15 y15 z15
    obtain ⟨rfl, N15q, e15⟩ := hQ15
    have N15 := Fr.app N14 N15q
    refine own_adv (B := T15.setTop (mkF m 17 #[.val (.int p1), .val (.int ((p1 &&& (2147483647 : Int32)) % (6 : Int32))), .val (.ref w_CHEAPEST), .unset] [(.ref w_CHEAPEST)])) (fun t k => st15 t k) ?_
    refine own_adv (B := T15.setTop (mkF m 18 #[.val (.int p1), .val (.int ((p1 &&& (2147483647 : Int32)) % (6 : Int32))), .val (.ref w_CHEAPEST), .val (.ref w_CHEAPEST)] [])) (fun t k => XS.astoreN X15.here hx rfl (hb hby at_17) rfl rfl (l' := #[.val (.int p1), .val (.int ((p1 &&& (2147483647 : Int32)) % (6 : Int32))), .val (.ref w_CHEAPEST), .val (.ref w_CHEAPEST)]) rfl k) ?_
    refine own_adv (B := T15.setTop (mkF m 19 #[.val (.int p1), .val (.int ((p1 &&& (2147483647 : Int32)) % (6 : Int32))), .val (.ref w_CHEAPEST), .val (.ref w_CHEAPEST)] [(.ref w_CHEAPEST)])) (fun t k => XS.aloadN X15.here hx rfl (hb hby at_18) rfl rfl k) ?_
    refine own_adv (B := T15.setTop (mkF m 20 #[.val (.int p1), .val (.int ((p1 &&& (2147483647 : Int32)) % (6 : Int32))), .val (.ref w_CHEAPEST), .val (.ref w_CHEAPEST)] [(.ref w_CHEAPEST), (.ref w_CHEAPEST)])) (fun t k => XS.aloadN X15.here hx rfl (hb hby at_19) rfl rfl k) ?_
    refine own_adv (B := T15.setTop (mkF m 23 #[.val (.int p1), .val (.int ((p1 &&& (2147483647 : Int32)) % (6 : Int32))), .val (.ref w_CHEAPEST), .val (.ref w_CHEAPEST)] [])) (fun t k => Jvm.RoadKit.acmp (g := (mkF m 20 #[.val (.int p1), .val (.int ((p1 &&& (2147483647 : Int32)) % (6 : Int32))), .val (.ref w_CHEAPEST), .val (.ref w_CHEAPEST)] [(.ref w_CHEAPEST), (.ref w_CHEAPEST)])) X15 hx rfl rfl rfl (pc0 := 20) (pc' := 23) (same := true) rfl (hb hby at_20) rfl (decide_eq_true rfl) (by decide) (by decide) k) ?_
    refine own_adv (B := T15.setTop (mkF m 24 #[.val (.int p1), .val (.int ((p1 &&& (2147483647 : Int32)) % (6 : Int32))), .val (.ref w_CHEAPEST), .val (.ref w_CHEAPEST)] [(.ref w_CHEAPEST)])) (fun t k => XS.aloadN X15.here hx rfl (hb hby at_23) rfl rfl k) ?_
    obtain ⟨cq16, kq16, q16a, q16b, q16c⟩ := isOf hZ e15 E_CHEAPEST
    obtain ⟨_, _, ⟨T16, L16, k16, n16⟩, -, X16, ⟨Lc16, hQ16, l16, y16, z16⟩, st16⟩ := X15.virtualBack hx (y := (⟨"com/example/keep_budget/keepbudget/planning/Planners", "plansOn", "()Lcom/example/keep_budget/keepbudget/planning/Planners$PlansOn;"⟩ : MethodName)) (z := (⟨"com/example/keep_budget/keepbudget/planning/Planners", "plansOn", "()Lcom/example/keep_budget/keepbudget/planning/Planners$PlansOn;"⟩ : MethodName)) hown (mvT hZ (hw _ (List.mem_of_getElem? (i := 22) rfl))) (mvT hZ (hw _ (List.mem_of_getElem? (i := 13) rfl))) (notFace_of_selects (args := #[]) (mvT hZ (hw _ (List.mem_of_getElem? (i := 34) rfl)))) (mvT hZ (hw _ (List.mem_of_getElem? (i := 34) rfl))) (mvT hZ (hw _ (List.mem_of_getElem? (i := 14) rfl))) (by decide) (backOf (W := 0) (rmP l Z a0 hw [] w_CHEAPEST w_FLEET h0 n0 Z0 F_plansOn_CHEAPEST) hZ (hw _ (List.mem_of_getElem? (i := 16) rfl)) (hw _ (List.mem_of_getElem? (i := 6) rfl)) (by decide) (by decide)) q16a q16c (g := (mkF m 24 #[.val (.int p1), .val (.int ((p1 &&& (2147483647 : Int32)) % (6 : Int32))), .val (.ref w_CHEAPEST), .val (.ref w_CHEAPEST)] [(.ref w_CHEAPEST)])) rfl (by rw [hml]; rfl) (Steps.refl _) (argsL := []) (rest := []) (lenOf own_pd___Lcom_example_keep_budget_keepbudget_planning_Planners_PlansOn_ rfl) rfl (by show 2 * 0 + _ ≤ _; exact Nat.le_of_eq rfl) (hb hby at_24) (fun _ _ => ⟨rfl, e15, (by decide : 0 + 0 ≤ _), (by decide : 0 + 0 ≤ _)⟩)
    dsimp only [Pt.U, Pt.locs, Pt.cells, Pt.slots] at X16 l16 y16 z16 st16 hQ16
    subst l16 y16 z16
    obtain ⟨rfl, N16q, e16⟩ := hQ16
    have N16 := Fr.app N15 N16q
    refine own_adv (B := T16.setTop (mkF m 27 #[.val (.int p1), .val (.int ((p1 &&& (2147483647 : Int32)) % (6 : Int32))), .val (.ref w_CHEAPEST), .val (.ref w_CHEAPEST)] [(.ref w_FLEET)])) (fun t k => st16.trans k) ?_
    obtain ⟨T17, X17, e17, st17⟩ := getS2 X16 hx hZ hown (host := "") (Or.inl (hw _ (List.mem_of_getElem? (i := 23) rfl))) Via.refl e16 S_FLEET (g := (mkF m 27 #[.val (.int p1), .val (.int ((p1 &&& (2147483647 : Int32)) % (6 : Int32))), .val (.ref w_CHEAPEST), .val (.ref w_CHEAPEST)] [(.ref w_FLEET)])) rfl (hb hby at_27)
    refine own_adv (B := T17.setTop (mkF m 30 #[.val (.int p1), .val (.int ((p1 &&& (2147483647 : Int32)) % (6 : Int32))), .val (.ref w_CHEAPEST), .val (.ref w_CHEAPEST)] [(.ref w_FLEET), (.ref w_FLEET)])) st17 ?_
    refine own_adv (B := T17.setTop (mkF m 33 #[.val (.int p1), .val (.int ((p1 &&& (2147483647 : Int32)) % (6 : Int32))), .val (.ref w_CHEAPEST), .val (.ref w_CHEAPEST)] [])) (fun t k => Jvm.RoadKit.acmp (g := (mkF m 30 #[.val (.int p1), .val (.int ((p1 &&& (2147483647 : Int32)) % (6 : Int32))), .val (.ref w_CHEAPEST), .val (.ref w_CHEAPEST)] [(.ref w_FLEET), (.ref w_FLEET)])) X17 hx rfl rfl rfl (pc0 := 30) (pc' := 33) (same := true) rfl (hb hby at_30) rfl (decide_eq_true rfl) (by decide) (by decide) k) ?_
    refine own_adv (B := T17.setTop (mkF m 34 #[.val (.int p1), .val (.int ((p1 &&& (2147483647 : Int32)) % (6 : Int32))), .val (.ref w_CHEAPEST), .val (.ref w_CHEAPEST)] [(.int (1 : Int32))])) (fun t k => XS.iconst X17.here hx rfl (hb hby at_33) k) ?_
    refine own_adv (B := T17.setTop (mkF m 38 #[.val (.int p1), .val (.int ((p1 &&& (2147483647 : Int32)) % (6 : Int32))), .val (.ref w_CHEAPEST), .val (.ref w_CHEAPEST)] [(.int (1 : Int32))])) (fun t k => XS.goto X17.here hx rfl (pc0 := 34) (pc' := 38) rfl (hb hby at_34) (by decide) (by decide) k) ?_
    obtain ⟨fs, hr, hrun, hended, hW, hsame⟩ := X17.leave (v := some (.int (1 : Int32))) (fun h => by rw [Bd.returns] at h; cases h)
    refine ⟨_, _, retN X17 hx (t := .boolean) Bd.returns (by simp) (hb hby at_38) hr, hrun, hended, _, _, rfl, ?_, ⟨_, rfl⟩, hW, hsame.mono (by decide) (by decide)⟩
    exact ⟨rfl, N16⟩
  by_cases c2 : ((p1 &&& (2147483647 : Int32)) % (6 : Int32)) = (2 : Int32)
  · skip
    obtain ⟨_, _, ⟨T18, L18, k18, n18⟩, -, X18, ⟨Lc18, hQ18, l18, y18, z18⟩, st18⟩ := Jvm.LawKit.callS X0 hx (y := (⟨"com/example/keep_budget/keepbudget/planning/ComparisonRequireOnFleetPinLaw", "fleetPlanner", "(I)Lcom/example/keep_budget/keepbudget/planning/Planners;"⟩ : MethodName)) hown (mvT hZ (hw _ (List.mem_of_getElem? (i := 1) rfl))) (mvT hZ (hw _ (List.mem_of_getElem? (i := 2) rfl))) (mvT hZ (hw _ (List.mem_of_getElem? (i := 3) rfl))) (mvT hZ (hw _ (List.mem_of_getElem? (i := 4) rfl))) (by decide) (backOf (W := 0) (rmF l Z a0 hw [] ((p1 &&& (2147483647 : Int32)) % (6 : Int32)) w_HEFT w_CHEAPEST w_HBCS w_BHEFT w_LOSS1 w_GREEDY_TIME_CD w_HBCS h0 n0 Z0 S_HEFT S_CHEAPEST S_HBCS S_BHEFT S_LOSS1 S_GREEDY_TIME_CD (Or.inr (Or.inr (Or.inl (⟨c0, c1, c2, rfl⟩))))) hZ (hw _ (List.mem_of_getElem? (i := 4) rfl)) (hw _ (List.mem_of_getElem? (i := 3) rfl)) (by decide) (by decide)) (g := (mkF m 9 #[.val (.int p1), .val (.int ((p1 &&& (2147483647 : Int32)) % (6 : Int32))), .unset, .unset] [(.int ((p1 &&& (2147483647 : Int32)) % (6 : Int32)))])) rfl (by rw [hml]; rfl) (argsL := [(.int ((p1 &&& (2147483647 : Int32)) % (6 : Int32)))]) (rest := []) (lenOf own_pd__I_Lcom_example_keep_budget_keepbudget_planning_Planners_ rfl) rfl (by show 2 * 0 + _ ≤ _; exact Nat.le_of_eq rfl) (hb hby at_9) (fun _ _ => ⟨rfl, e0, (by decide : 0 + 0 ≤ _), (by decide : 0 + 0 ≤ _)⟩)
    dsimp only [Pt.U, Pt.locs, Pt.cells, Pt.slots] at X18 l18 y18 z18 st18 hQ18
    subst l18 y18 z18
    obtain ⟨rfl, N18q, e18⟩ := hQ18
    have N18 := Fr.app N0 N18q
    refine own_adv (B := T18.setTop (mkF m 12 #[.val (.int p1), .val (.int ((p1 &&& (2147483647 : Int32)) % (6 : Int32))), .unset, .unset] [(.ref w_HBCS)])) (fun t k => st18 t k) ?_
    refine own_adv (B := T18.setTop (mkF m 13 #[.val (.int p1), .val (.int ((p1 &&& (2147483647 : Int32)) % (6 : Int32))), .val (.ref w_HBCS), .unset] [])) (fun t k => XS.astoreN X18.here hx rfl (hb hby at_12) rfl rfl (l' := #[.val (.int p1), .val (.int ((p1 &&& (2147483647 : Int32)) % (6 : Int32))), .val (.ref w_HBCS), .unset]) rfl k) ?_
    refine own_adv (B := T18.setTop (mkF m 14 #[.val (.int p1), .val (.int ((p1 &&& (2147483647 : Int32)) % (6 : Int32))), .val (.ref w_HBCS), .unset] [(.ref w_HBCS)])) (fun t k => XS.aloadN X18.here hx rfl (hb hby at_13) rfl rfl k) ?_
    obtain ⟨_, _, ⟨T19, L19, k19, n19⟩, -, X19, ⟨Lc19, hQ19, l19, y19, z19⟩, st19⟩ := Jvm.LawKit.callS X18 hx (y := (⟨"com/example/keep_budget/keepbudget/planning/Comparison", "requireOnFleet", "(Lcom/example/keep_budget/keepbudget/planning/Planners;)Lcom/example/keep_budget/keepbudget/planning/Planners;"⟩ : MethodName)) hown (mvT hZ (hw _ (List.mem_of_getElem? (i := 8) rfl))) (mvT hZ (hw _ (List.mem_of_getElem? (i := 9) rfl))) (mvT hZ (hw _ (List.mem_of_getElem? (i := 10) rfl))) (mvT hZ (hw _ (List.mem_of_getElem? (i := 11) rfl))) (by decide) (backOf (W := 0) (rmQ l Z a0 hw [] w_HBCS w_FLEET "com/example/keep_budget/keepbudget/planning/Planners$4" h0 n0 Z0 S_FLEET F_plansOn_HBCS E_HBCS (hw _ (List.mem_of_getElem? (i := 30) rfl))) hZ (hw _ (List.mem_of_getElem? (i := 11) rfl)) (hw _ (List.mem_of_getElem? (i := 10) rfl)) (by decide) (by decide)) (g := (mkF m 14 #[.val (.int p1), .val (.int ((p1 &&& (2147483647 : Int32)) % (6 : Int32))), .val (.ref w_HBCS), .unset] [(.ref w_HBCS)])) rfl (by rw [hml]; rfl) (argsL := [(.ref w_HBCS)]) (rest := []) (lenOf own_pd__Lcom_example_keep_budget_keepbudget_planning_Planners__Lcom_example_keep_budget_keepbudget_planning_Planners_ rfl) rfl (by show 2 * 0 + _ ≤ _; exact Nat.le_of_eq rfl) (hb hby at_14) (fun _ _ => ⟨rfl, e18, (by decide : 0 + 0 ≤ _), (by decide : 0 + 0 ≤ _)⟩)
    dsimp only [Pt.U, Pt.locs, Pt.cells, Pt.slots] at X19 l19 y19 z19 st19 hQ19
    subst l19 y19 z19
    obtain ⟨rfl, N19q, e19⟩ := hQ19
    have N19 := Fr.app N18 N19q
    refine own_adv (B := T19.setTop (mkF m 17 #[.val (.int p1), .val (.int ((p1 &&& (2147483647 : Int32)) % (6 : Int32))), .val (.ref w_HBCS), .unset] [(.ref w_HBCS)])) (fun t k => st19 t k) ?_
    refine own_adv (B := T19.setTop (mkF m 18 #[.val (.int p1), .val (.int ((p1 &&& (2147483647 : Int32)) % (6 : Int32))), .val (.ref w_HBCS), .val (.ref w_HBCS)] [])) (fun t k => XS.astoreN X19.here hx rfl (hb hby at_17) rfl rfl (l' := #[.val (.int p1), .val (.int ((p1 &&& (2147483647 : Int32)) % (6 : Int32))), .val (.ref w_HBCS), .val (.ref w_HBCS)]) rfl k) ?_
    refine own_adv (B := T19.setTop (mkF m 19 #[.val (.int p1), .val (.int ((p1 &&& (2147483647 : Int32)) % (6 : Int32))), .val (.ref w_HBCS), .val (.ref w_HBCS)] [(.ref w_HBCS)])) (fun t k => XS.aloadN X19.here hx rfl (hb hby at_18) rfl rfl k) ?_
    refine own_adv (B := T19.setTop (mkF m 20 #[.val (.int p1), .val (.int ((p1 &&& (2147483647 : Int32)) % (6 : Int32))), .val (.ref w_HBCS), .val (.ref w_HBCS)] [(.ref w_HBCS), (.ref w_HBCS)])) (fun t k => XS.aloadN X19.here hx rfl (hb hby at_19) rfl rfl k) ?_
    refine own_adv (B := T19.setTop (mkF m 23 #[.val (.int p1), .val (.int ((p1 &&& (2147483647 : Int32)) % (6 : Int32))), .val (.ref w_HBCS), .val (.ref w_HBCS)] [])) (fun t k => Jvm.RoadKit.acmp (g := (mkF m 20 #[.val (.int p1), .val (.int ((p1 &&& (2147483647 : Int32)) % (6 : Int32))), .val (.ref w_HBCS), .val (.ref w_HBCS)] [(.ref w_HBCS), (.ref w_HBCS)])) X19 hx rfl rfl rfl (pc0 := 20) (pc' := 23) (same := true) rfl (hb hby at_20) rfl (decide_eq_true rfl) (by decide) (by decide) k) ?_
    refine own_adv (B := T19.setTop (mkF m 24 #[.val (.int p1), .val (.int ((p1 &&& (2147483647 : Int32)) % (6 : Int32))), .val (.ref w_HBCS), .val (.ref w_HBCS)] [(.ref w_HBCS)])) (fun t k => XS.aloadN X19.here hx rfl (hb hby at_23) rfl rfl k) ?_
    obtain ⟨cq20, kq20, q20a, q20b, q20c⟩ := isOf hZ e19 E_HBCS
    obtain ⟨_, _, ⟨T20, L20, k20, n20⟩, -, X20, ⟨Lc20, hQ20, l20, y20, z20⟩, st20⟩ := X19.virtualBack hx (y := (⟨"com/example/keep_budget/keepbudget/planning/Planners", "plansOn", "()Lcom/example/keep_budget/keepbudget/planning/Planners$PlansOn;"⟩ : MethodName)) (z := (⟨"com/example/keep_budget/keepbudget/planning/Planners", "plansOn", "()Lcom/example/keep_budget/keepbudget/planning/Planners$PlansOn;"⟩ : MethodName)) hown (mvT hZ (hw _ (List.mem_of_getElem? (i := 22) rfl))) (mvT hZ (hw _ (List.mem_of_getElem? (i := 13) rfl))) (notFace_of_selects (args := #[]) (mvT hZ (hw _ (List.mem_of_getElem? (i := 30) rfl)))) (mvT hZ (hw _ (List.mem_of_getElem? (i := 30) rfl))) (mvT hZ (hw _ (List.mem_of_getElem? (i := 14) rfl))) (by decide) (backOf (W := 0) (rmP l Z a0 hw [] w_HBCS w_FLEET h0 n0 Z0 F_plansOn_HBCS) hZ (hw _ (List.mem_of_getElem? (i := 16) rfl)) (hw _ (List.mem_of_getElem? (i := 6) rfl)) (by decide) (by decide)) q20a q20c (g := (mkF m 24 #[.val (.int p1), .val (.int ((p1 &&& (2147483647 : Int32)) % (6 : Int32))), .val (.ref w_HBCS), .val (.ref w_HBCS)] [(.ref w_HBCS)])) rfl (by rw [hml]; rfl) (Steps.refl _) (argsL := []) (rest := []) (lenOf own_pd___Lcom_example_keep_budget_keepbudget_planning_Planners_PlansOn_ rfl) rfl (by show 2 * 0 + _ ≤ _; exact Nat.le_of_eq rfl) (hb hby at_24) (fun _ _ => ⟨rfl, e19, (by decide : 0 + 0 ≤ _), (by decide : 0 + 0 ≤ _)⟩)
    dsimp only [Pt.U, Pt.locs, Pt.cells, Pt.slots] at X20 l20 y20 z20 st20 hQ20
    subst l20 y20 z20
    obtain ⟨rfl, N20q, e20⟩ := hQ20
    have N20 := Fr.app N19 N20q
    refine own_adv (B := T20.setTop (mkF m 27 #[.val (.int p1), .val (.int ((p1 &&& (2147483647 : Int32)) % (6 : Int32))), .val (.ref w_HBCS), .val (.ref w_HBCS)] [(.ref w_FLEET)])) (fun t k => st20.trans k) ?_
    obtain ⟨T21, X21, e21, st21⟩ := getS2 X20 hx hZ hown (host := "") (Or.inl (hw _ (List.mem_of_getElem? (i := 23) rfl))) Via.refl e20 S_FLEET (g := (mkF m 27 #[.val (.int p1), .val (.int ((p1 &&& (2147483647 : Int32)) % (6 : Int32))), .val (.ref w_HBCS), .val (.ref w_HBCS)] [(.ref w_FLEET)])) rfl (hb hby at_27)
    refine own_adv (B := T21.setTop (mkF m 30 #[.val (.int p1), .val (.int ((p1 &&& (2147483647 : Int32)) % (6 : Int32))), .val (.ref w_HBCS), .val (.ref w_HBCS)] [(.ref w_FLEET), (.ref w_FLEET)])) st21 ?_
    refine own_adv (B := T21.setTop (mkF m 33 #[.val (.int p1), .val (.int ((p1 &&& (2147483647 : Int32)) % (6 : Int32))), .val (.ref w_HBCS), .val (.ref w_HBCS)] [])) (fun t k => Jvm.RoadKit.acmp (g := (mkF m 30 #[.val (.int p1), .val (.int ((p1 &&& (2147483647 : Int32)) % (6 : Int32))), .val (.ref w_HBCS), .val (.ref w_HBCS)] [(.ref w_FLEET), (.ref w_FLEET)])) X21 hx rfl rfl rfl (pc0 := 30) (pc' := 33) (same := true) rfl (hb hby at_30) rfl (decide_eq_true rfl) (by decide) (by decide) k) ?_
    refine own_adv (B := T21.setTop (mkF m 34 #[.val (.int p1), .val (.int ((p1 &&& (2147483647 : Int32)) % (6 : Int32))), .val (.ref w_HBCS), .val (.ref w_HBCS)] [(.int (1 : Int32))])) (fun t k => XS.iconst X21.here hx rfl (hb hby at_33) k) ?_
    refine own_adv (B := T21.setTop (mkF m 38 #[.val (.int p1), .val (.int ((p1 &&& (2147483647 : Int32)) % (6 : Int32))), .val (.ref w_HBCS), .val (.ref w_HBCS)] [(.int (1 : Int32))])) (fun t k => XS.goto X21.here hx rfl (pc0 := 34) (pc' := 38) rfl (hb hby at_34) (by decide) (by decide) k) ?_
    obtain ⟨fs, hr, hrun, hended, hW, hsame⟩ := X21.leave (v := some (.int (1 : Int32))) (fun h => by rw [Bd.returns] at h; cases h)
    refine ⟨_, _, retN X21 hx (t := .boolean) Bd.returns (by simp) (hb hby at_38) hr, hrun, hended, _, _, rfl, ?_, ⟨_, rfl⟩, hW, hsame.mono (by decide) (by decide)⟩
    exact ⟨rfl, N20⟩
  by_cases c3 : ((p1 &&& (2147483647 : Int32)) % (6 : Int32)) = (3 : Int32)
  · skip
    obtain ⟨_, _, ⟨T22, L22, k22, n22⟩, -, X22, ⟨Lc22, hQ22, l22, y22, z22⟩, st22⟩ := Jvm.LawKit.callS X0 hx (y := (⟨"com/example/keep_budget/keepbudget/planning/ComparisonRequireOnFleetPinLaw", "fleetPlanner", "(I)Lcom/example/keep_budget/keepbudget/planning/Planners;"⟩ : MethodName)) hown (mvT hZ (hw _ (List.mem_of_getElem? (i := 1) rfl))) (mvT hZ (hw _ (List.mem_of_getElem? (i := 2) rfl))) (mvT hZ (hw _ (List.mem_of_getElem? (i := 3) rfl))) (mvT hZ (hw _ (List.mem_of_getElem? (i := 4) rfl))) (by decide) (backOf (W := 0) (rmF l Z a0 hw [] ((p1 &&& (2147483647 : Int32)) % (6 : Int32)) w_HEFT w_CHEAPEST w_HBCS w_BHEFT w_LOSS1 w_GREEDY_TIME_CD w_BHEFT h0 n0 Z0 S_HEFT S_CHEAPEST S_HBCS S_BHEFT S_LOSS1 S_GREEDY_TIME_CD (Or.inr (Or.inr (Or.inr (Or.inl (⟨c0, c1, c2, c3, rfl⟩)))))) hZ (hw _ (List.mem_of_getElem? (i := 4) rfl)) (hw _ (List.mem_of_getElem? (i := 3) rfl)) (by decide) (by decide)) (g := (mkF m 9 #[.val (.int p1), .val (.int ((p1 &&& (2147483647 : Int32)) % (6 : Int32))), .unset, .unset] [(.int ((p1 &&& (2147483647 : Int32)) % (6 : Int32)))])) rfl (by rw [hml]; rfl) (argsL := [(.int ((p1 &&& (2147483647 : Int32)) % (6 : Int32)))]) (rest := []) (lenOf own_pd__I_Lcom_example_keep_budget_keepbudget_planning_Planners_ rfl) rfl (by show 2 * 0 + _ ≤ _; exact Nat.le_of_eq rfl) (hb hby at_9) (fun _ _ => ⟨rfl, e0, (by decide : 0 + 0 ≤ _), (by decide : 0 + 0 ≤ _)⟩)
    dsimp only [Pt.U, Pt.locs, Pt.cells, Pt.slots] at X22 l22 y22 z22 st22 hQ22
    subst l22 y22 z22
    obtain ⟨rfl, N22q, e22⟩ := hQ22
    have N22 := Fr.app N0 N22q
    refine own_adv (B := T22.setTop (mkF m 12 #[.val (.int p1), .val (.int ((p1 &&& (2147483647 : Int32)) % (6 : Int32))), .unset, .unset] [(.ref w_BHEFT)])) (fun t k => st22 t k) ?_
    refine own_adv (B := T22.setTop (mkF m 13 #[.val (.int p1), .val (.int ((p1 &&& (2147483647 : Int32)) % (6 : Int32))), .val (.ref w_BHEFT), .unset] [])) (fun t k => XS.astoreN X22.here hx rfl (hb hby at_12) rfl rfl (l' := #[.val (.int p1), .val (.int ((p1 &&& (2147483647 : Int32)) % (6 : Int32))), .val (.ref w_BHEFT), .unset]) rfl k) ?_
    refine own_adv (B := T22.setTop (mkF m 14 #[.val (.int p1), .val (.int ((p1 &&& (2147483647 : Int32)) % (6 : Int32))), .val (.ref w_BHEFT), .unset] [(.ref w_BHEFT)])) (fun t k => XS.aloadN X22.here hx rfl (hb hby at_13) rfl rfl k) ?_
    obtain ⟨_, _, ⟨T23, L23, k23, n23⟩, -, X23, ⟨Lc23, hQ23, l23, y23, z23⟩, st23⟩ := Jvm.LawKit.callS X22 hx (y := (⟨"com/example/keep_budget/keepbudget/planning/Comparison", "requireOnFleet", "(Lcom/example/keep_budget/keepbudget/planning/Planners;)Lcom/example/keep_budget/keepbudget/planning/Planners;"⟩ : MethodName)) hown (mvT hZ (hw _ (List.mem_of_getElem? (i := 8) rfl))) (mvT hZ (hw _ (List.mem_of_getElem? (i := 9) rfl))) (mvT hZ (hw _ (List.mem_of_getElem? (i := 10) rfl))) (mvT hZ (hw _ (List.mem_of_getElem? (i := 11) rfl))) (by decide) (backOf (W := 0) (rmQ l Z a0 hw [] w_BHEFT w_FLEET "com/example/keep_budget/keepbudget/planning/Planners$5" h0 n0 Z0 S_FLEET F_plansOn_BHEFT E_BHEFT (hw _ (List.mem_of_getElem? (i := 26) rfl))) hZ (hw _ (List.mem_of_getElem? (i := 11) rfl)) (hw _ (List.mem_of_getElem? (i := 10) rfl)) (by decide) (by decide)) (g := (mkF m 14 #[.val (.int p1), .val (.int ((p1 &&& (2147483647 : Int32)) % (6 : Int32))), .val (.ref w_BHEFT), .unset] [(.ref w_BHEFT)])) rfl (by rw [hml]; rfl) (argsL := [(.ref w_BHEFT)]) (rest := []) (lenOf own_pd__Lcom_example_keep_budget_keepbudget_planning_Planners__Lcom_example_keep_budget_keepbudget_planning_Planners_ rfl) rfl (by show 2 * 0 + _ ≤ _; exact Nat.le_of_eq rfl) (hb hby at_14) (fun _ _ => ⟨rfl, e22, (by decide : 0 + 0 ≤ _), (by decide : 0 + 0 ≤ _)⟩)
    dsimp only [Pt.U, Pt.locs, Pt.cells, Pt.slots] at X23 l23 y23 z23 st23 hQ23
    subst l23 y23 z23
    obtain ⟨rfl, N23q, e23⟩ := hQ23
    have N23 := Fr.app N22 N23q
    refine own_adv (B := T23.setTop (mkF m 17 #[.val (.int p1), .val (.int ((p1 &&& (2147483647 : Int32)) % (6 : Int32))), .val (.ref w_BHEFT), .unset] [(.ref w_BHEFT)])) (fun t k => st23 t k) ?_
    refine own_adv (B := T23.setTop (mkF m 18 #[.val (.int p1), .val (.int ((p1 &&& (2147483647 : Int32)) % (6 : Int32))), .val (.ref w_BHEFT), .val (.ref w_BHEFT)] [])) (fun t k => XS.astoreN X23.here hx rfl (hb hby at_17) rfl rfl (l' := #[.val (.int p1), .val (.int ((p1 &&& (2147483647 : Int32)) % (6 : Int32))), .val (.ref w_BHEFT), .val (.ref w_BHEFT)]) rfl k) ?_
    refine own_adv (B := T23.setTop (mkF m 19 #[.val (.int p1), .val (.int ((p1 &&& (2147483647 : Int32)) % (6 : Int32))), .val (.ref w_BHEFT), .val (.ref w_BHEFT)] [(.ref w_BHEFT)])) (fun t k => XS.aloadN X23.here hx rfl (hb hby at_18) rfl rfl k) ?_
    refine own_adv (B := T23.setTop (mkF m 20 #[.val (.int p1), .val (.int ((p1 &&& (2147483647 : Int32)) % (6 : Int32))), .val (.ref w_BHEFT), .val (.ref w_BHEFT)] [(.ref w_BHEFT), (.ref w_BHEFT)])) (fun t k => XS.aloadN X23.here hx rfl (hb hby at_19) rfl rfl k) ?_
    refine own_adv (B := T23.setTop (mkF m 23 #[.val (.int p1), .val (.int ((p1 &&& (2147483647 : Int32)) % (6 : Int32))), .val (.ref w_BHEFT), .val (.ref w_BHEFT)] [])) (fun t k => Jvm.RoadKit.acmp (g := (mkF m 20 #[.val (.int p1), .val (.int ((p1 &&& (2147483647 : Int32)) % (6 : Int32))), .val (.ref w_BHEFT), .val (.ref w_BHEFT)] [(.ref w_BHEFT), (.ref w_BHEFT)])) X23 hx rfl rfl rfl (pc0 := 20) (pc' := 23) (same := true) rfl (hb hby at_20) rfl (decide_eq_true rfl) (by decide) (by decide) k) ?_
    refine own_adv (B := T23.setTop (mkF m 24 #[.val (.int p1), .val (.int ((p1 &&& (2147483647 : Int32)) % (6 : Int32))), .val (.ref w_BHEFT), .val (.ref w_BHEFT)] [(.ref w_BHEFT)])) (fun t k => XS.aloadN X23.here hx rfl (hb hby at_23) rfl rfl k) ?_
    obtain ⟨cq24, kq24, q24a, q24b, q24c⟩ := isOf hZ e23 E_BHEFT
    obtain ⟨_, _, ⟨T24, L24, k24, n24⟩, -, X24, ⟨Lc24, hQ24, l24, y24, z24⟩, st24⟩ := X23.virtualBack hx (y := (⟨"com/example/keep_budget/keepbudget/planning/Planners", "plansOn", "()Lcom/example/keep_budget/keepbudget/planning/Planners$PlansOn;"⟩ : MethodName)) (z := (⟨"com/example/keep_budget/keepbudget/planning/Planners", "plansOn", "()Lcom/example/keep_budget/keepbudget/planning/Planners$PlansOn;"⟩ : MethodName)) hown (mvT hZ (hw _ (List.mem_of_getElem? (i := 22) rfl))) (mvT hZ (hw _ (List.mem_of_getElem? (i := 13) rfl))) (notFace_of_selects (args := #[]) (mvT hZ (hw _ (List.mem_of_getElem? (i := 26) rfl)))) (mvT hZ (hw _ (List.mem_of_getElem? (i := 26) rfl))) (mvT hZ (hw _ (List.mem_of_getElem? (i := 14) rfl))) (by decide) (backOf (W := 0) (rmP l Z a0 hw [] w_BHEFT w_FLEET h0 n0 Z0 F_plansOn_BHEFT) hZ (hw _ (List.mem_of_getElem? (i := 16) rfl)) (hw _ (List.mem_of_getElem? (i := 6) rfl)) (by decide) (by decide)) q24a q24c (g := (mkF m 24 #[.val (.int p1), .val (.int ((p1 &&& (2147483647 : Int32)) % (6 : Int32))), .val (.ref w_BHEFT), .val (.ref w_BHEFT)] [(.ref w_BHEFT)])) rfl (by rw [hml]; rfl) (Steps.refl _) (argsL := []) (rest := []) (lenOf own_pd___Lcom_example_keep_budget_keepbudget_planning_Planners_PlansOn_ rfl) rfl (by show 2 * 0 + _ ≤ _; exact Nat.le_of_eq rfl) (hb hby at_24) (fun _ _ => ⟨rfl, e23, (by decide : 0 + 0 ≤ _), (by decide : 0 + 0 ≤ _)⟩)
    dsimp only [Pt.U, Pt.locs, Pt.cells, Pt.slots] at X24 l24 y24 z24 st24 hQ24
    subst l24 y24 z24
    obtain ⟨rfl, N24q, e24⟩ := hQ24
    have N24 := Fr.app N23 N24q
    refine own_adv (B := T24.setTop (mkF m 27 #[.val (.int p1), .val (.int ((p1 &&& (2147483647 : Int32)) % (6 : Int32))), .val (.ref w_BHEFT), .val (.ref w_BHEFT)] [(.ref w_FLEET)])) (fun t k => st24.trans k) ?_
    obtain ⟨T25, X25, e25, st25⟩ := getS2 X24 hx hZ hown (host := "") (Or.inl (hw _ (List.mem_of_getElem? (i := 23) rfl))) Via.refl e24 S_FLEET (g := (mkF m 27 #[.val (.int p1), .val (.int ((p1 &&& (2147483647 : Int32)) % (6 : Int32))), .val (.ref w_BHEFT), .val (.ref w_BHEFT)] [(.ref w_FLEET)])) rfl (hb hby at_27)
    refine own_adv (B := T25.setTop (mkF m 30 #[.val (.int p1), .val (.int ((p1 &&& (2147483647 : Int32)) % (6 : Int32))), .val (.ref w_BHEFT), .val (.ref w_BHEFT)] [(.ref w_FLEET), (.ref w_FLEET)])) st25 ?_
    refine own_adv (B := T25.setTop (mkF m 33 #[.val (.int p1), .val (.int ((p1 &&& (2147483647 : Int32)) % (6 : Int32))), .val (.ref w_BHEFT), .val (.ref w_BHEFT)] [])) (fun t k => Jvm.RoadKit.acmp (g := (mkF m 30 #[.val (.int p1), .val (.int ((p1 &&& (2147483647 : Int32)) % (6 : Int32))), .val (.ref w_BHEFT), .val (.ref w_BHEFT)] [(.ref w_FLEET), (.ref w_FLEET)])) X25 hx rfl rfl rfl (pc0 := 30) (pc' := 33) (same := true) rfl (hb hby at_30) rfl (decide_eq_true rfl) (by decide) (by decide) k) ?_
    refine own_adv (B := T25.setTop (mkF m 34 #[.val (.int p1), .val (.int ((p1 &&& (2147483647 : Int32)) % (6 : Int32))), .val (.ref w_BHEFT), .val (.ref w_BHEFT)] [(.int (1 : Int32))])) (fun t k => XS.iconst X25.here hx rfl (hb hby at_33) k) ?_
    refine own_adv (B := T25.setTop (mkF m 38 #[.val (.int p1), .val (.int ((p1 &&& (2147483647 : Int32)) % (6 : Int32))), .val (.ref w_BHEFT), .val (.ref w_BHEFT)] [(.int (1 : Int32))])) (fun t k => XS.goto X25.here hx rfl (pc0 := 34) (pc' := 38) rfl (hb hby at_34) (by decide) (by decide) k) ?_
    obtain ⟨fs, hr, hrun, hended, hW, hsame⟩ := X25.leave (v := some (.int (1 : Int32))) (fun h => by rw [Bd.returns] at h; cases h)
    refine ⟨_, _, retN X25 hx (t := .boolean) Bd.returns (by simp) (hb hby at_38) hr, hrun, hended, _, _, rfl, ?_, ⟨_, rfl⟩, hW, hsame.mono (by decide) (by decide)⟩
    exact ⟨rfl, N24⟩
  by_cases c4 : ((p1 &&& (2147483647 : Int32)) % (6 : Int32)) = (4 : Int32)
  · skip
    obtain ⟨_, _, ⟨T26, L26, k26, n26⟩, -, X26, ⟨Lc26, hQ26, l26, y26, z26⟩, st26⟩ := Jvm.LawKit.callS X0 hx (y := (⟨"com/example/keep_budget/keepbudget/planning/ComparisonRequireOnFleetPinLaw", "fleetPlanner", "(I)Lcom/example/keep_budget/keepbudget/planning/Planners;"⟩ : MethodName)) hown (mvT hZ (hw _ (List.mem_of_getElem? (i := 1) rfl))) (mvT hZ (hw _ (List.mem_of_getElem? (i := 2) rfl))) (mvT hZ (hw _ (List.mem_of_getElem? (i := 3) rfl))) (mvT hZ (hw _ (List.mem_of_getElem? (i := 4) rfl))) (by decide) (backOf (W := 0) (rmF l Z a0 hw [] ((p1 &&& (2147483647 : Int32)) % (6 : Int32)) w_HEFT w_CHEAPEST w_HBCS w_BHEFT w_LOSS1 w_GREEDY_TIME_CD w_LOSS1 h0 n0 Z0 S_HEFT S_CHEAPEST S_HBCS S_BHEFT S_LOSS1 S_GREEDY_TIME_CD (Or.inr (Or.inr (Or.inr (Or.inr (Or.inl (⟨c0, c1, c2, c3, c4, rfl⟩))))))) hZ (hw _ (List.mem_of_getElem? (i := 4) rfl)) (hw _ (List.mem_of_getElem? (i := 3) rfl)) (by decide) (by decide)) (g := (mkF m 9 #[.val (.int p1), .val (.int ((p1 &&& (2147483647 : Int32)) % (6 : Int32))), .unset, .unset] [(.int ((p1 &&& (2147483647 : Int32)) % (6 : Int32)))])) rfl (by rw [hml]; rfl) (argsL := [(.int ((p1 &&& (2147483647 : Int32)) % (6 : Int32)))]) (rest := []) (lenOf own_pd__I_Lcom_example_keep_budget_keepbudget_planning_Planners_ rfl) rfl (by show 2 * 0 + _ ≤ _; exact Nat.le_of_eq rfl) (hb hby at_9) (fun _ _ => ⟨rfl, e0, (by decide : 0 + 0 ≤ _), (by decide : 0 + 0 ≤ _)⟩)
    dsimp only [Pt.U, Pt.locs, Pt.cells, Pt.slots] at X26 l26 y26 z26 st26 hQ26
    subst l26 y26 z26
    obtain ⟨rfl, N26q, e26⟩ := hQ26
    have N26 := Fr.app N0 N26q
    refine own_adv (B := T26.setTop (mkF m 12 #[.val (.int p1), .val (.int ((p1 &&& (2147483647 : Int32)) % (6 : Int32))), .unset, .unset] [(.ref w_LOSS1)])) (fun t k => st26 t k) ?_
    refine own_adv (B := T26.setTop (mkF m 13 #[.val (.int p1), .val (.int ((p1 &&& (2147483647 : Int32)) % (6 : Int32))), .val (.ref w_LOSS1), .unset] [])) (fun t k => XS.astoreN X26.here hx rfl (hb hby at_12) rfl rfl (l' := #[.val (.int p1), .val (.int ((p1 &&& (2147483647 : Int32)) % (6 : Int32))), .val (.ref w_LOSS1), .unset]) rfl k) ?_
    refine own_adv (B := T26.setTop (mkF m 14 #[.val (.int p1), .val (.int ((p1 &&& (2147483647 : Int32)) % (6 : Int32))), .val (.ref w_LOSS1), .unset] [(.ref w_LOSS1)])) (fun t k => XS.aloadN X26.here hx rfl (hb hby at_13) rfl rfl k) ?_
    obtain ⟨_, _, ⟨T27, L27, k27, n27⟩, -, X27, ⟨Lc27, hQ27, l27, y27, z27⟩, st27⟩ := Jvm.LawKit.callS X26 hx (y := (⟨"com/example/keep_budget/keepbudget/planning/Comparison", "requireOnFleet", "(Lcom/example/keep_budget/keepbudget/planning/Planners;)Lcom/example/keep_budget/keepbudget/planning/Planners;"⟩ : MethodName)) hown (mvT hZ (hw _ (List.mem_of_getElem? (i := 8) rfl))) (mvT hZ (hw _ (List.mem_of_getElem? (i := 9) rfl))) (mvT hZ (hw _ (List.mem_of_getElem? (i := 10) rfl))) (mvT hZ (hw _ (List.mem_of_getElem? (i := 11) rfl))) (by decide) (backOf (W := 0) (rmQ l Z a0 hw [] w_LOSS1 w_FLEET "com/example/keep_budget/keepbudget/planning/Planners$6" h0 n0 Z0 S_FLEET F_plansOn_LOSS1 E_LOSS1 (hw _ (List.mem_of_getElem? (i := 42) rfl))) hZ (hw _ (List.mem_of_getElem? (i := 11) rfl)) (hw _ (List.mem_of_getElem? (i := 10) rfl)) (by decide) (by decide)) (g := (mkF m 14 #[.val (.int p1), .val (.int ((p1 &&& (2147483647 : Int32)) % (6 : Int32))), .val (.ref w_LOSS1), .unset] [(.ref w_LOSS1)])) rfl (by rw [hml]; rfl) (argsL := [(.ref w_LOSS1)]) (rest := []) (lenOf own_pd__Lcom_example_keep_budget_keepbudget_planning_Planners__Lcom_example_keep_budget_keepbudget_planning_Planners_ rfl) rfl (by show 2 * 0 + _ ≤ _; exact Nat.le_of_eq rfl) (hb hby at_14) (fun _ _ => ⟨rfl, e26, (by decide : 0 + 0 ≤ _), (by decide : 0 + 0 ≤ _)⟩)
    dsimp only [Pt.U, Pt.locs, Pt.cells, Pt.slots] at X27 l27 y27 z27 st27 hQ27
    subst l27 y27 z27
    obtain ⟨rfl, N27q, e27⟩ := hQ27
    have N27 := Fr.app N26 N27q
    refine own_adv (B := T27.setTop (mkF m 17 #[.val (.int p1), .val (.int ((p1 &&& (2147483647 : Int32)) % (6 : Int32))), .val (.ref w_LOSS1), .unset] [(.ref w_LOSS1)])) (fun t k => st27 t k) ?_
    refine own_adv (B := T27.setTop (mkF m 18 #[.val (.int p1), .val (.int ((p1 &&& (2147483647 : Int32)) % (6 : Int32))), .val (.ref w_LOSS1), .val (.ref w_LOSS1)] [])) (fun t k => XS.astoreN X27.here hx rfl (hb hby at_17) rfl rfl (l' := #[.val (.int p1), .val (.int ((p1 &&& (2147483647 : Int32)) % (6 : Int32))), .val (.ref w_LOSS1), .val (.ref w_LOSS1)]) rfl k) ?_
    refine own_adv (B := T27.setTop (mkF m 19 #[.val (.int p1), .val (.int ((p1 &&& (2147483647 : Int32)) % (6 : Int32))), .val (.ref w_LOSS1), .val (.ref w_LOSS1)] [(.ref w_LOSS1)])) (fun t k => XS.aloadN X27.here hx rfl (hb hby at_18) rfl rfl k) ?_
    refine own_adv (B := T27.setTop (mkF m 20 #[.val (.int p1), .val (.int ((p1 &&& (2147483647 : Int32)) % (6 : Int32))), .val (.ref w_LOSS1), .val (.ref w_LOSS1)] [(.ref w_LOSS1), (.ref w_LOSS1)])) (fun t k => XS.aloadN X27.here hx rfl (hb hby at_19) rfl rfl k) ?_
    refine own_adv (B := T27.setTop (mkF m 23 #[.val (.int p1), .val (.int ((p1 &&& (2147483647 : Int32)) % (6 : Int32))), .val (.ref w_LOSS1), .val (.ref w_LOSS1)] [])) (fun t k => Jvm.RoadKit.acmp (g := (mkF m 20 #[.val (.int p1), .val (.int ((p1 &&& (2147483647 : Int32)) % (6 : Int32))), .val (.ref w_LOSS1), .val (.ref w_LOSS1)] [(.ref w_LOSS1), (.ref w_LOSS1)])) X27 hx rfl rfl rfl (pc0 := 20) (pc' := 23) (same := true) rfl (hb hby at_20) rfl (decide_eq_true rfl) (by decide) (by decide) k) ?_
    refine own_adv (B := T27.setTop (mkF m 24 #[.val (.int p1), .val (.int ((p1 &&& (2147483647 : Int32)) % (6 : Int32))), .val (.ref w_LOSS1), .val (.ref w_LOSS1)] [(.ref w_LOSS1)])) (fun t k => XS.aloadN X27.here hx rfl (hb hby at_23) rfl rfl k) ?_
    obtain ⟨cq28, kq28, q28a, q28b, q28c⟩ := isOf hZ e27 E_LOSS1
    obtain ⟨_, _, ⟨T28, L28, k28, n28⟩, -, X28, ⟨Lc28, hQ28, l28, y28, z28⟩, st28⟩ := X27.virtualBack hx (y := (⟨"com/example/keep_budget/keepbudget/planning/Planners", "plansOn", "()Lcom/example/keep_budget/keepbudget/planning/Planners$PlansOn;"⟩ : MethodName)) (z := (⟨"com/example/keep_budget/keepbudget/planning/Planners", "plansOn", "()Lcom/example/keep_budget/keepbudget/planning/Planners$PlansOn;"⟩ : MethodName)) hown (mvT hZ (hw _ (List.mem_of_getElem? (i := 22) rfl))) (mvT hZ (hw _ (List.mem_of_getElem? (i := 13) rfl))) (notFace_of_selects (args := #[]) (mvT hZ (hw _ (List.mem_of_getElem? (i := 42) rfl)))) (mvT hZ (hw _ (List.mem_of_getElem? (i := 42) rfl))) (mvT hZ (hw _ (List.mem_of_getElem? (i := 14) rfl))) (by decide) (backOf (W := 0) (rmP l Z a0 hw [] w_LOSS1 w_FLEET h0 n0 Z0 F_plansOn_LOSS1) hZ (hw _ (List.mem_of_getElem? (i := 16) rfl)) (hw _ (List.mem_of_getElem? (i := 6) rfl)) (by decide) (by decide)) q28a q28c (g := (mkF m 24 #[.val (.int p1), .val (.int ((p1 &&& (2147483647 : Int32)) % (6 : Int32))), .val (.ref w_LOSS1), .val (.ref w_LOSS1)] [(.ref w_LOSS1)])) rfl (by rw [hml]; rfl) (Steps.refl _) (argsL := []) (rest := []) (lenOf own_pd___Lcom_example_keep_budget_keepbudget_planning_Planners_PlansOn_ rfl) rfl (by show 2 * 0 + _ ≤ _; exact Nat.le_of_eq rfl) (hb hby at_24) (fun _ _ => ⟨rfl, e27, (by decide : 0 + 0 ≤ _), (by decide : 0 + 0 ≤ _)⟩)
    dsimp only [Pt.U, Pt.locs, Pt.cells, Pt.slots] at X28 l28 y28 z28 st28 hQ28
    subst l28 y28 z28
    obtain ⟨rfl, N28q, e28⟩ := hQ28
    have N28 := Fr.app N27 N28q
    refine own_adv (B := T28.setTop (mkF m 27 #[.val (.int p1), .val (.int ((p1 &&& (2147483647 : Int32)) % (6 : Int32))), .val (.ref w_LOSS1), .val (.ref w_LOSS1)] [(.ref w_FLEET)])) (fun t k => st28.trans k) ?_
    obtain ⟨T29, X29, e29, st29⟩ := getS2 X28 hx hZ hown (host := "") (Or.inl (hw _ (List.mem_of_getElem? (i := 23) rfl))) Via.refl e28 S_FLEET (g := (mkF m 27 #[.val (.int p1), .val (.int ((p1 &&& (2147483647 : Int32)) % (6 : Int32))), .val (.ref w_LOSS1), .val (.ref w_LOSS1)] [(.ref w_FLEET)])) rfl (hb hby at_27)
    refine own_adv (B := T29.setTop (mkF m 30 #[.val (.int p1), .val (.int ((p1 &&& (2147483647 : Int32)) % (6 : Int32))), .val (.ref w_LOSS1), .val (.ref w_LOSS1)] [(.ref w_FLEET), (.ref w_FLEET)])) st29 ?_
    refine own_adv (B := T29.setTop (mkF m 33 #[.val (.int p1), .val (.int ((p1 &&& (2147483647 : Int32)) % (6 : Int32))), .val (.ref w_LOSS1), .val (.ref w_LOSS1)] [])) (fun t k => Jvm.RoadKit.acmp (g := (mkF m 30 #[.val (.int p1), .val (.int ((p1 &&& (2147483647 : Int32)) % (6 : Int32))), .val (.ref w_LOSS1), .val (.ref w_LOSS1)] [(.ref w_FLEET), (.ref w_FLEET)])) X29 hx rfl rfl rfl (pc0 := 30) (pc' := 33) (same := true) rfl (hb hby at_30) rfl (decide_eq_true rfl) (by decide) (by decide) k) ?_
    refine own_adv (B := T29.setTop (mkF m 34 #[.val (.int p1), .val (.int ((p1 &&& (2147483647 : Int32)) % (6 : Int32))), .val (.ref w_LOSS1), .val (.ref w_LOSS1)] [(.int (1 : Int32))])) (fun t k => XS.iconst X29.here hx rfl (hb hby at_33) k) ?_
    refine own_adv (B := T29.setTop (mkF m 38 #[.val (.int p1), .val (.int ((p1 &&& (2147483647 : Int32)) % (6 : Int32))), .val (.ref w_LOSS1), .val (.ref w_LOSS1)] [(.int (1 : Int32))])) (fun t k => XS.goto X29.here hx rfl (pc0 := 34) (pc' := 38) rfl (hb hby at_34) (by decide) (by decide) k) ?_
    obtain ⟨fs, hr, hrun, hended, hW, hsame⟩ := X29.leave (v := some (.int (1 : Int32))) (fun h => by rw [Bd.returns] at h; cases h)
    refine ⟨_, _, retN X29 hx (t := .boolean) Bd.returns (by simp) (hb hby at_38) hr, hrun, hended, _, _, rfl, ?_, ⟨_, rfl⟩, hW, hsame.mono (by decide) (by decide)⟩
    exact ⟨rfl, N28⟩
  obtain ⟨_, _, ⟨T30, L30, k30, n30⟩, -, X30, ⟨Lc30, hQ30, l30, y30, z30⟩, st30⟩ := Jvm.LawKit.callS X0 hx (y := (⟨"com/example/keep_budget/keepbudget/planning/ComparisonRequireOnFleetPinLaw", "fleetPlanner", "(I)Lcom/example/keep_budget/keepbudget/planning/Planners;"⟩ : MethodName)) hown (mvT hZ (hw _ (List.mem_of_getElem? (i := 1) rfl))) (mvT hZ (hw _ (List.mem_of_getElem? (i := 2) rfl))) (mvT hZ (hw _ (List.mem_of_getElem? (i := 3) rfl))) (mvT hZ (hw _ (List.mem_of_getElem? (i := 4) rfl))) (by decide) (backOf (W := 0) (rmF l Z a0 hw [] ((p1 &&& (2147483647 : Int32)) % (6 : Int32)) w_HEFT w_CHEAPEST w_HBCS w_BHEFT w_LOSS1 w_GREEDY_TIME_CD w_GREEDY_TIME_CD h0 n0 Z0 S_HEFT S_CHEAPEST S_HBCS S_BHEFT S_LOSS1 S_GREEDY_TIME_CD (Or.inr (Or.inr (Or.inr (Or.inr (Or.inr (⟨c0, c1, c2, c3, c4, rfl⟩))))))) hZ (hw _ (List.mem_of_getElem? (i := 4) rfl)) (hw _ (List.mem_of_getElem? (i := 3) rfl)) (by decide) (by decide)) (g := (mkF m 9 #[.val (.int p1), .val (.int ((p1 &&& (2147483647 : Int32)) % (6 : Int32))), .unset, .unset] [(.int ((p1 &&& (2147483647 : Int32)) % (6 : Int32)))])) rfl (by rw [hml]; rfl) (argsL := [(.int ((p1 &&& (2147483647 : Int32)) % (6 : Int32)))]) (rest := []) (lenOf own_pd__I_Lcom_example_keep_budget_keepbudget_planning_Planners_ rfl) rfl (by show 2 * 0 + _ ≤ _; exact Nat.le_of_eq rfl) (hb hby at_9) (fun _ _ => ⟨rfl, e0, (by decide : 0 + 0 ≤ _), (by decide : 0 + 0 ≤ _)⟩)
  dsimp only [Pt.U, Pt.locs, Pt.cells, Pt.slots] at X30 l30 y30 z30 st30 hQ30
  subst l30 y30 z30
  obtain ⟨rfl, N30q, e30⟩ := hQ30
  have N30 := Fr.app N0 N30q
  refine own_adv (B := T30.setTop (mkF m 12 #[.val (.int p1), .val (.int ((p1 &&& (2147483647 : Int32)) % (6 : Int32))), .unset, .unset] [(.ref w_GREEDY_TIME_CD)])) (fun t k => st30 t k) ?_
  refine own_adv (B := T30.setTop (mkF m 13 #[.val (.int p1), .val (.int ((p1 &&& (2147483647 : Int32)) % (6 : Int32))), .val (.ref w_GREEDY_TIME_CD), .unset] [])) (fun t k => XS.astoreN X30.here hx rfl (hb hby at_12) rfl rfl (l' := #[.val (.int p1), .val (.int ((p1 &&& (2147483647 : Int32)) % (6 : Int32))), .val (.ref w_GREEDY_TIME_CD), .unset]) rfl k) ?_
  refine own_adv (B := T30.setTop (mkF m 14 #[.val (.int p1), .val (.int ((p1 &&& (2147483647 : Int32)) % (6 : Int32))), .val (.ref w_GREEDY_TIME_CD), .unset] [(.ref w_GREEDY_TIME_CD)])) (fun t k => XS.aloadN X30.here hx rfl (hb hby at_13) rfl rfl k) ?_
  obtain ⟨_, _, ⟨T31, L31, k31, n31⟩, -, X31, ⟨Lc31, hQ31, l31, y31, z31⟩, st31⟩ := Jvm.LawKit.callS X30 hx (y := (⟨"com/example/keep_budget/keepbudget/planning/Comparison", "requireOnFleet", "(Lcom/example/keep_budget/keepbudget/planning/Planners;)Lcom/example/keep_budget/keepbudget/planning/Planners;"⟩ : MethodName)) hown (mvT hZ (hw _ (List.mem_of_getElem? (i := 8) rfl))) (mvT hZ (hw _ (List.mem_of_getElem? (i := 9) rfl))) (mvT hZ (hw _ (List.mem_of_getElem? (i := 10) rfl))) (mvT hZ (hw _ (List.mem_of_getElem? (i := 11) rfl))) (by decide) (backOf (W := 0) (rmQ l Z a0 hw [] w_GREEDY_TIME_CD w_FLEET "com/example/keep_budget/keepbudget/planning/Planners$7" h0 n0 Z0 S_FLEET F_plansOn_GREEDY_TIME_CD E_GREEDY_TIME_CD (hw _ (List.mem_of_getElem? (i := 38) rfl))) hZ (hw _ (List.mem_of_getElem? (i := 11) rfl)) (hw _ (List.mem_of_getElem? (i := 10) rfl)) (by decide) (by decide)) (g := (mkF m 14 #[.val (.int p1), .val (.int ((p1 &&& (2147483647 : Int32)) % (6 : Int32))), .val (.ref w_GREEDY_TIME_CD), .unset] [(.ref w_GREEDY_TIME_CD)])) rfl (by rw [hml]; rfl) (argsL := [(.ref w_GREEDY_TIME_CD)]) (rest := []) (lenOf own_pd__Lcom_example_keep_budget_keepbudget_planning_Planners__Lcom_example_keep_budget_keepbudget_planning_Planners_ rfl) rfl (by show 2 * 0 + _ ≤ _; exact Nat.le_of_eq rfl) (hb hby at_14) (fun _ _ => ⟨rfl, e30, (by decide : 0 + 0 ≤ _), (by decide : 0 + 0 ≤ _)⟩)
  dsimp only [Pt.U, Pt.locs, Pt.cells, Pt.slots] at X31 l31 y31 z31 st31 hQ31
  subst l31 y31 z31
  obtain ⟨rfl, N31q, e31⟩ := hQ31
  have N31 := Fr.app N30 N31q
  refine own_adv (B := T31.setTop (mkF m 17 #[.val (.int p1), .val (.int ((p1 &&& (2147483647 : Int32)) % (6 : Int32))), .val (.ref w_GREEDY_TIME_CD), .unset] [(.ref w_GREEDY_TIME_CD)])) (fun t k => st31 t k) ?_
  refine own_adv (B := T31.setTop (mkF m 18 #[.val (.int p1), .val (.int ((p1 &&& (2147483647 : Int32)) % (6 : Int32))), .val (.ref w_GREEDY_TIME_CD), .val (.ref w_GREEDY_TIME_CD)] [])) (fun t k => XS.astoreN X31.here hx rfl (hb hby at_17) rfl rfl (l' := #[.val (.int p1), .val (.int ((p1 &&& (2147483647 : Int32)) % (6 : Int32))), .val (.ref w_GREEDY_TIME_CD), .val (.ref w_GREEDY_TIME_CD)]) rfl k) ?_
  refine own_adv (B := T31.setTop (mkF m 19 #[.val (.int p1), .val (.int ((p1 &&& (2147483647 : Int32)) % (6 : Int32))), .val (.ref w_GREEDY_TIME_CD), .val (.ref w_GREEDY_TIME_CD)] [(.ref w_GREEDY_TIME_CD)])) (fun t k => XS.aloadN X31.here hx rfl (hb hby at_18) rfl rfl k) ?_
  refine own_adv (B := T31.setTop (mkF m 20 #[.val (.int p1), .val (.int ((p1 &&& (2147483647 : Int32)) % (6 : Int32))), .val (.ref w_GREEDY_TIME_CD), .val (.ref w_GREEDY_TIME_CD)] [(.ref w_GREEDY_TIME_CD), (.ref w_GREEDY_TIME_CD)])) (fun t k => XS.aloadN X31.here hx rfl (hb hby at_19) rfl rfl k) ?_
  refine own_adv (B := T31.setTop (mkF m 23 #[.val (.int p1), .val (.int ((p1 &&& (2147483647 : Int32)) % (6 : Int32))), .val (.ref w_GREEDY_TIME_CD), .val (.ref w_GREEDY_TIME_CD)] [])) (fun t k => Jvm.RoadKit.acmp (g := (mkF m 20 #[.val (.int p1), .val (.int ((p1 &&& (2147483647 : Int32)) % (6 : Int32))), .val (.ref w_GREEDY_TIME_CD), .val (.ref w_GREEDY_TIME_CD)] [(.ref w_GREEDY_TIME_CD), (.ref w_GREEDY_TIME_CD)])) X31 hx rfl rfl rfl (pc0 := 20) (pc' := 23) (same := true) rfl (hb hby at_20) rfl (decide_eq_true rfl) (by decide) (by decide) k) ?_
  refine own_adv (B := T31.setTop (mkF m 24 #[.val (.int p1), .val (.int ((p1 &&& (2147483647 : Int32)) % (6 : Int32))), .val (.ref w_GREEDY_TIME_CD), .val (.ref w_GREEDY_TIME_CD)] [(.ref w_GREEDY_TIME_CD)])) (fun t k => XS.aloadN X31.here hx rfl (hb hby at_23) rfl rfl k) ?_
  obtain ⟨cq32, kq32, q32a, q32b, q32c⟩ := isOf hZ e31 E_GREEDY_TIME_CD
  obtain ⟨_, _, ⟨T32, L32, k32, n32⟩, -, X32, ⟨Lc32, hQ32, l32, y32, z32⟩, st32⟩ := X31.virtualBack hx (y := (⟨"com/example/keep_budget/keepbudget/planning/Planners", "plansOn", "()Lcom/example/keep_budget/keepbudget/planning/Planners$PlansOn;"⟩ : MethodName)) (z := (⟨"com/example/keep_budget/keepbudget/planning/Planners", "plansOn", "()Lcom/example/keep_budget/keepbudget/planning/Planners$PlansOn;"⟩ : MethodName)) hown (mvT hZ (hw _ (List.mem_of_getElem? (i := 22) rfl))) (mvT hZ (hw _ (List.mem_of_getElem? (i := 13) rfl))) (notFace_of_selects (args := #[]) (mvT hZ (hw _ (List.mem_of_getElem? (i := 38) rfl)))) (mvT hZ (hw _ (List.mem_of_getElem? (i := 38) rfl))) (mvT hZ (hw _ (List.mem_of_getElem? (i := 14) rfl))) (by decide) (backOf (W := 0) (rmP l Z a0 hw [] w_GREEDY_TIME_CD w_FLEET h0 n0 Z0 F_plansOn_GREEDY_TIME_CD) hZ (hw _ (List.mem_of_getElem? (i := 16) rfl)) (hw _ (List.mem_of_getElem? (i := 6) rfl)) (by decide) (by decide)) q32a q32c (g := (mkF m 24 #[.val (.int p1), .val (.int ((p1 &&& (2147483647 : Int32)) % (6 : Int32))), .val (.ref w_GREEDY_TIME_CD), .val (.ref w_GREEDY_TIME_CD)] [(.ref w_GREEDY_TIME_CD)])) rfl (by rw [hml]; rfl) (Steps.refl _) (argsL := []) (rest := []) (lenOf own_pd___Lcom_example_keep_budget_keepbudget_planning_Planners_PlansOn_ rfl) rfl (by show 2 * 0 + _ ≤ _; exact Nat.le_of_eq rfl) (hb hby at_24) (fun _ _ => ⟨rfl, e31, (by decide : 0 + 0 ≤ _), (by decide : 0 + 0 ≤ _)⟩)
  dsimp only [Pt.U, Pt.locs, Pt.cells, Pt.slots] at X32 l32 y32 z32 st32 hQ32
  subst l32 y32 z32
  obtain ⟨rfl, N32q, e32⟩ := hQ32
  have N32 := Fr.app N31 N32q
  refine own_adv (B := T32.setTop (mkF m 27 #[.val (.int p1), .val (.int ((p1 &&& (2147483647 : Int32)) % (6 : Int32))), .val (.ref w_GREEDY_TIME_CD), .val (.ref w_GREEDY_TIME_CD)] [(.ref w_FLEET)])) (fun t k => st32.trans k) ?_
  obtain ⟨T33, X33, e33, st33⟩ := getS2 X32 hx hZ hown (host := "") (Or.inl (hw _ (List.mem_of_getElem? (i := 23) rfl))) Via.refl e32 S_FLEET (g := (mkF m 27 #[.val (.int p1), .val (.int ((p1 &&& (2147483647 : Int32)) % (6 : Int32))), .val (.ref w_GREEDY_TIME_CD), .val (.ref w_GREEDY_TIME_CD)] [(.ref w_FLEET)])) rfl (hb hby at_27)
  refine own_adv (B := T33.setTop (mkF m 30 #[.val (.int p1), .val (.int ((p1 &&& (2147483647 : Int32)) % (6 : Int32))), .val (.ref w_GREEDY_TIME_CD), .val (.ref w_GREEDY_TIME_CD)] [(.ref w_FLEET), (.ref w_FLEET)])) st33 ?_
  refine own_adv (B := T33.setTop (mkF m 33 #[.val (.int p1), .val (.int ((p1 &&& (2147483647 : Int32)) % (6 : Int32))), .val (.ref w_GREEDY_TIME_CD), .val (.ref w_GREEDY_TIME_CD)] [])) (fun t k => Jvm.RoadKit.acmp (g := (mkF m 30 #[.val (.int p1), .val (.int ((p1 &&& (2147483647 : Int32)) % (6 : Int32))), .val (.ref w_GREEDY_TIME_CD), .val (.ref w_GREEDY_TIME_CD)] [(.ref w_FLEET), (.ref w_FLEET)])) X33 hx rfl rfl rfl (pc0 := 30) (pc' := 33) (same := true) rfl (hb hby at_30) rfl (decide_eq_true rfl) (by decide) (by decide) k) ?_
  refine own_adv (B := T33.setTop (mkF m 34 #[.val (.int p1), .val (.int ((p1 &&& (2147483647 : Int32)) % (6 : Int32))), .val (.ref w_GREEDY_TIME_CD), .val (.ref w_GREEDY_TIME_CD)] [(.int (1 : Int32))])) (fun t k => XS.iconst X33.here hx rfl (hb hby at_33) k) ?_
  refine own_adv (B := T33.setTop (mkF m 38 #[.val (.int p1), .val (.int ((p1 &&& (2147483647 : Int32)) % (6 : Int32))), .val (.ref w_GREEDY_TIME_CD), .val (.ref w_GREEDY_TIME_CD)] [(.int (1 : Int32))])) (fun t k => XS.goto X33.here hx rfl (pc0 := 34) (pc' := 38) rfl (hb hby at_34) (by decide) (by decide) k) ?_
  obtain ⟨fs, hr, hrun, hended, hW, hsame⟩ := X33.leave (v := some (.int (1 : Int32))) (fun h => by rw [Bd.returns] at h; cases h)
  refine ⟨_, _, retN X33 hx (t := .boolean) Bd.returns (by simp) (hb hby at_38) hr, hrun, hended, _, _, rfl, ?_, ⟨_, rfl⟩, hW, hsame.mono (by decide) (by decide)⟩
  exact ⟨rfl, N32⟩
set_option maxRecDepth 65536 in
set_option maxHeartbeats 40000000 in
theorem comes_1 {Post : Tables → Env → Array Value → State → Outcome → State → Prop} (hpost : ∀ tb e args s v u, (limb_1_1.after args s (.returned v) u = true ∧ limb_1_2.after args s (.returned v) u = true ∧ True) → FrameEnd s (.returned v) u (Jvm.fieldLocs frame_1_writes args s ++ Jvm.arrayLocs frame_1_arrays args s ++ Jvm.staticLocs frame_1_statics s) 0 0 → Post tb e args s (.returned v) u) :
    ArmFor flags0 classFile x code maxLocals ret World_1 tables_1 room_1 Calls_1 rest_1 Pre_1 Post := by
  intro l hfl _ _ p e ha hc hk s m args below hf hA hF happ hP
  obtain ⟨hcalls, hrest, hpre⟩ := hP
  obtain ⟨-, -, -, hnamed, -, -, -, hat⟩ := (Spec.applies_iff hf).mp happ
  obtain ⟨hg, hn⟩ := and_e (Cond.before_iff.mp (show (Jvm.Cond.and given_1 narrow_1).before args s = true from hpre))
  obtain ⟨gc, g0⟩ := and_e hg
  obtain ⟨w0, rfl⟩ : ∃ w0 : Value, args = #[w0] := by
    have hs : args.size = 1 := by simpa [Cond.value, given_1] using gc
    obtain ⟨L⟩ := args
    match L, hs with
    | [w0], _ => exact ⟨w0, rfl⟩
  have hw := fun d (hd : d ∈ tables_1) => atoms_spec (ws := Jvm.Cond.code x code maxLocals ret :: tables_1) hat d (List.mem_cons_of_mem _ hd)
  obtain ⟨i0, ei0⟩ := is_v g0
  obtain rfl : w0 = (.int i0) := Option.some.inj ei0
  obtain ⟨c0, n0⟩ := and_e hn
  obtain ⟨c1, n1⟩ := and_e n0
  obtain ⟨c2, n2⟩ := and_e n1
  obtain ⟨c3, n3⟩ := and_e n2
  obtain ⟨c4, n4⟩ := and_e n3
  obtain ⟨c5, n5⟩ := and_e n4
  obtain ⟨c6, n6⟩ := and_e n5
  obtain ⟨c7, n7⟩ := and_e n6
  obtain ⟨c8, n8⟩ := and_e n7
  obtain ⟨c9, n9⟩ := and_e n8
  obtain ⟨c10, n10⟩ := and_e n9
  obtain ⟨c11, n11⟩ := and_e n10
  obtain ⟨w_HEFT, v_HEFT⟩ := exa_v c0
  have E_HEFT := Exa.start v_HEFT c0
  have S_HEFT := Sta.start v_HEFT (Or.inr ⟨(hw _ (List.mem_of_getElem? (i := 6) rfl)), (hw _ (List.mem_of_getElem? (i := 7) rfl))⟩)
  obtain ⟨w_FLEET, v_FLEET⟩ := exa_v c1
  have E_FLEET := Exa.start v_FLEET c1
  have S_FLEET := Sta.start v_FLEET (Or.inr ⟨(hw _ (List.mem_of_getElem? (i := 19) rfl)), (hw _ (List.mem_of_getElem? (i := 20) rfl))⟩)
  obtain ⟨w_BHEFT, v_BHEFT⟩ := exa_v c3
  have E_BHEFT := Exa.start v_BHEFT c3
  have S_BHEFT := Sta.start v_BHEFT (Or.inr ⟨(hw _ (List.mem_of_getElem? (i := 6) rfl)), (hw _ (List.mem_of_getElem? (i := 25) rfl))⟩)
  obtain ⟨w_HBCS, v_HBCS⟩ := exa_v c5
  have E_HBCS := Exa.start v_HBCS c5
  have S_HBCS := Sta.start v_HBCS (Or.inr ⟨(hw _ (List.mem_of_getElem? (i := 6) rfl)), (hw _ (List.mem_of_getElem? (i := 29) rfl))⟩)
  obtain ⟨w_CHEAPEST, v_CHEAPEST⟩ := exa_v c7
  have E_CHEAPEST := Exa.start v_CHEAPEST c7
  have S_CHEAPEST := Sta.start v_CHEAPEST (Or.inr ⟨(hw _ (List.mem_of_getElem? (i := 6) rfl)), (hw _ (List.mem_of_getElem? (i := 33) rfl))⟩)
  obtain ⟨w_GREEDY_TIME_CD, v_GREEDY_TIME_CD⟩ := exa_v c9
  have E_GREEDY_TIME_CD := Exa.start v_GREEDY_TIME_CD c9
  have S_GREEDY_TIME_CD := Sta.start v_GREEDY_TIME_CD (Or.inr ⟨(hw _ (List.mem_of_getElem? (i := 6) rfl)), (hw _ (List.mem_of_getElem? (i := 37) rfl))⟩)
  obtain ⟨w_LOSS1, v_LOSS1⟩ := exa_v c11
  have E_LOSS1 := Exa.start v_LOSS1 c11
  have S_LOSS1 := Sta.start v_LOSS1 (Or.inr ⟨(hw _ (List.mem_of_getElem? (i := 6) rfl)), (hw _ (List.mem_of_getElem? (i := 41) rfl))⟩)
  have F_plansOn_HEFT := own_feqr v_HEFT v_FLEET c2
  have F_plansOn_BHEFT := own_feqr v_BHEFT v_FLEET c4
  have F_plansOn_HBCS := own_feqr v_HBCS v_FLEET c6
  have F_plansOn_CHEAPEST := own_feqr v_CHEAPEST v_FLEET c8
  have F_plansOn_GREEDY_TIME_CD := own_feqr v_GREEDY_TIME_CD v_FLEET c10
  have F_plansOn_LOSS1 := own_feqr v_LOSS1 v_FLEET n11
  obtain ⟨n, o, h1, h2, h3, _, L, rfl, ⟨rfl, N⟩, hq⟩ := rm0 l s _ hw tables_1 i0 w_HEFT w_CHEAPEST w_HBCS w_BHEFT w_LOSS1 w_GREEDY_TIME_CD w_FLEET s.heap s.heap.size (Nat.le_refl _) S_HEFT S_CHEAPEST S_HBCS S_BHEFT S_LOSS1 S_GREEDY_TIME_CD S_FLEET E_HEFT E_CHEAPEST E_HBCS E_BHEFT E_LOSS1 E_GREEDY_TIME_CD F_plansOn_HEFT F_plansOn_CHEAPEST F_plansOn_HBCS F_plansOn_BHEFT F_plansOn_LOSS1 F_plansOn_GREEDY_TIME_CD p e ha hc hk s m _ below hf ((Spec.applies_iff_loose hf).mp happ).1 ⟨rfl, State.Warmed39.refl s, rfl⟩ trivial
  exact ⟨n, _, h1, h2, h3, hpost _ _ _ _ _ _ ⟨Cond.after_iff.mpr rfl, Cond.after_iff.mpr (eq_i res_at (Term.int_eval (1)) rfl), trivial⟩ ⟨hq.1, hq.2.1, (hq.2.2.sift fun y hy => Or.inr (N y hy)).mono (by decide) (by decide)⟩⟩
theorem main_1_1 : Claimed_1_1 := comes_1 fun _ _ _ _ _ _ h hF => ⟨h.1, hF⟩
theorem main_1_2 : Claimed_1_2 := comes_1 fun _ _ _ _ _ _ h hF => ⟨h.2.1, hF⟩
end Jvm.Pilot.@@N@@
namespace Jvm.Pilot.@@N@@
open Jvm Jvm.ClassFile Sem Op Lib Jvm.Free Jvm.Stand Jvm.Pilot.@@N@@.Jvm.D
/-! MADE BY PROGRAM (witnessworld.py) out of the Statement's table words and the real class files: 20 classes; the members and pool entries that the words name. The judged class is class 1, her method 2. -/
namespace start1
open Jvm.ClassFile
def u (s : String) : CpInfo := .utf8 (stringToUtf16 s)
/-- a pool by its gaps: so many unusable entries, then the entry; so many at the end -/
def gap : Nat → List CpInfo → List CpInfo
  | 0, r => r
  | n + 1, r => .unusable :: gap n r
def poolList (es : List (Nat × CpInfo)) (last : Nat) : List CpInfo := es.foldr (fun e r => gap e.1 (e.2 :: r)) (gap last [])
def pool (es : List (Nat × CpInfo)) (last : Nat) : Array CpInfo := ⟨poolList es last⟩
def fileOf (pool : Array CpInfo) (this : Nat) (attrs : Array Attribute := #[]) (ms : Array MethodInfo := #[]) (fl : Nat := 33) (sup : Nat := 0) (ifs : Array Nat := #[]) (fds : Array FieldInfo := #[]) : ClassFile where
  minorVersion := 0
  majorVersion := 65
  constantPool := pool
  accessFlags := fl
  thisClass := this
  superClass := sup
  interfaces := ifs
  fields := fds
  methods := ms
  attributes := attrs
def plain (name : String) (sup : Option ClassId) : Class where
  name := name
  kind := .ordinary
  loader := none
  accessFlags := 33
  super := sup
  interfaces := #[]
  cf := none
  fields := #[]
  methods := #[]
  instanceTypes := #[]
  staticTypes := #[]
  resolved := #[]
  callSites := []
  init := .initialized
  statics := none
  mirror := none

def pool0 : Array CpInfo := pool [(5, u "<init>"), (0, u "()V"), (1, .class_ 10), (1, u "java/lang/Object")] 113

def k0m0 : Method := { name := "<init>", desc := "()V", sig := { parameters := [], returnType := none }, accessFlags := 1, code := none }
/-- java/lang/Object -/
def k0 : Class := { plain "java/lang/Object" none with
  accessFlags := 33
  interfaces := #[]
  cf := some (fileOf pool0 8 #[] #[{ accessFlags := 1, nameIndex := 5, descriptorIndex := 6, attributes := #[] }] 33 0 #[] #[])
  fields := #[]
  methods := #[k0m0]
  instanceTypes := #[]
  staticTypes := #[]
  resolved := Array.replicate 124 none
  statics := none }

def pool1 : Array CpInfo := pool [(2, .class_ 4), (1, u "java/lang/Object"), (0, u "<init>"), (0, u "()V"), (0, .fieldref 8 9), (0, .class_ 10), (0, .nameAndType 11 12), (0, u "com/example/keep_budget/keepbudget/planning/Planners"), (0, u "HEFT"), (0, u "Lcom/example/keep_budget/keepbudget/planning/Planners;"), (0, .fieldref 8 14), (0, .nameAndType 15 12), (0, u "CHEAPEST"), (0, .fieldref 8 17), (0, .nameAndType 18 12), (0, u "HBCS"), (0, .fieldref 8 20), (0, .nameAndType 21 12), (0, u "BHEFT"), (0, .fieldref 8 23), (0, .nameAndType 24 12), (0, u "LOSS1"), (0, .fieldref 8 26), (0, .nameAndType 27 12), (0, u "GREEDY_TIME_CD"), (0, .integer 2147483647), (0, .methodref 30 31), (0, .class_ 32), (0, .nameAndType 33 34), (0, u "com/example/keep_budget/keepbudget/planning/ComparisonRequireOnFleetPinLaw"), (0, u "fleetPlanner"), (0, u "(I)Lcom/example/keep_budget/keepbudget/planning/Planners;"), (0, .methodref 36 37), (0, .class_ 38), (0, .nameAndType 39 40), (0, u "com/example/keep_budget/keepbudget/planning/Comparison"), (0, u "requireOnFleet"), (0, u "(Lcom/example/keep_budget/keepbudget/planning/Planners;)Lcom/example/keep_budget/keepbudget/planning/Planners;"), (0, .methodref 8 42), (0, .nameAndType 43 44), (0, u "plansOn"), (0, u "()Lcom/example/keep_budget/keepbudget/planning/Planners$PlansOn;"), (0, .fieldref 46 47), (0, .class_ 48), (0, .nameAndType 49 50), (0, u "com/example/keep_budget/keepbudget/planning/Planners$PlansOn"), (0, u "FLEET"), (0, u "Lcom/example/keep_budget/keepbudget/planning/Planners$PlansOn;"), (3, u "law"), (0, u "(I)Z")] 4

def k1m0 : Method := { name := "<init>", desc := "()V", sig := { parameters := [], returnType := none }, accessFlags := 2, code := none }
def k1c1 : Code := { maxStack := 2, maxLocals := 1, code := method_2_code, exceptionTable := #[], attributes := #[] }
def k1m1 : Method := { name := "fleetPlanner", desc := "(I)Lcom/example/keep_budget/keepbudget/planning/Planners;", sig := { parameters := [.int], returnType := some (.object "com/example/keep_budget/keepbudget/planning/Planners") }, accessFlags := 10, code := some k1c1 }
def k1c2 : Code := { maxStack := 2, maxLocals := 4, code := code, exceptionTable := #[], attributes := #[] }
def k1m2 : Method := { name := "law", desc := "(I)Z", sig := { parameters := [.int], returnType := some .boolean }, accessFlags := 9, code := some k1c2 }
/-- com/example/keep_budget/keepbudget/planning/ComparisonRequireOnFleetPinLaw -/
def k1 : Class := { plain "com/example/keep_budget/keepbudget/planning/ComparisonRequireOnFleetPinLaw" (some 0) with
  accessFlags := 49
  interfaces := #[]
  cf := some (fileOf pool1 30 #[] #[{ accessFlags := 2, nameIndex := 5, descriptorIndex := 6, attributes := #[] }, { accessFlags := 10, nameIndex := 33, descriptorIndex := 34, attributes := #[] }, { accessFlags := 9, nameIndex := 54, descriptorIndex := 55, attributes := #[] }] 49 2 #[] #[])
  fields := #[]
  methods := #[k1m0, k1m1, k1m2]
  instanceTypes := #[]
  staticTypes := #[]
  resolved := Array.replicate 60 none
  statics := none }

def pool2 : Array CpInfo := pool [(1, .class_ 2), (0, u "java/lang/constant/Constable"), (0, .class_ 4), (0, u "java/lang/Object")] 6

/-- java/lang/constant/Constable -/
def k2 : Class := { plain "java/lang/constant/Constable" (some 0) with
  accessFlags := 1537
  interfaces := #[]
  cf := some (fileOf pool2 1 #[] #[] 1537 3 #[] #[])
  fields := #[]
  methods := #[]
  instanceTypes := #[]
  staticTypes := #[]
  resolved := Array.replicate 11 none
  statics := none }

def pool3 : Array CpInfo := pool [(1, .class_ 2), (0, u "java/lang/Comparable"), (0, .class_ 4), (0, u "java/lang/Object")] 7

/-- java/lang/Comparable -/
def k3 : Class := { plain "java/lang/Comparable" (some 0) with
  accessFlags := 1537
  interfaces := #[]
  cf := some (fileOf pool3 1 #[] #[] 1537 3 #[] #[])
  fields := #[]
  methods := #[]
  instanceTypes := #[]
  staticTypes := #[]
  resolved := Array.replicate 12 none
  statics := none }

def pool4 : Array CpInfo := pool [(1, .class_ 2), (0, u "java/io/Serializable"), (0, .class_ 4), (0, u "java/lang/Object")] 2

/-- java/io/Serializable -/
def k4 : Class := { plain "java/io/Serializable" (some 0) with
  accessFlags := 1537
  interfaces := #[]
  cf := some (fileOf pool4 1 #[] #[] 1537 3 #[] #[])
  fields := #[]
  methods := #[]
  instanceTypes := #[]
  staticTypes := #[]
  resolved := Array.replicate 7 none
  statics := none }

def pool5 : Array CpInfo := pool [(2, .class_ 4), (1, u "java/lang/Enum"), (0, u "name"), (0, u "Ljava/lang/String;"), (2, u "ordinal"), (0, u "I"), (1, .class_ 14), (1, u "java/lang/Object"), (4, u "hash"), (86, .class_ 108), (1, u "java/lang/Enum$EnumDesc"), (2, .class_ 112), (0, u "java/lang/constant/Constable"), (0, .class_ 114), (0, u "java/lang/Comparable"), (0, .class_ 116), (0, u "java/io/Serializable")] 87

/-- java/lang/Enum -/
def k5 : Class := { plain "java/lang/Enum" (some 0) with
  accessFlags := 1057
  interfaces := #[2, 3, 4]
  cf := some (fileOf pool5 2 #[.nestMembers #[106]] #[] 1057 12 #[111, 113, 115] #[{ accessFlags := 18, nameIndex := 5, descriptorIndex := 6, attributes := #[] }, { accessFlags := 18, nameIndex := 9, descriptorIndex := 10, attributes := #[] }, { accessFlags := 2, nameIndex := 19, descriptorIndex := 10, attributes := #[] }])
  fields := #[{ name := "name", type := (.object "java/lang/String"), accessFlags := 18, slot := 0, constantValue := 0 }, { name := "ordinal", type := .int, accessFlags := 18, slot := 1, constantValue := 0 }, { name := "hash", type := .int, accessFlags := 2, slot := 2, constantValue := 0 }]
  methods := #[]
  instanceTypes := #[(.object "java/lang/String"), .int, .int]
  staticTypes := #[]
  resolved := Array.replicate 204 none
  statics := none }

def pool6 : Array CpInfo := pool [(1, .class_ 2), (0, u "com/example/keep_budget/keepbudget/planning/Planners"), (2, u "ONE_VM_FOR_ALL"), (0, u "Lcom/example/keep_budget/keepbudget/planning/Planners;"), (2, u "HEFT"), (2, u "CHEAPEST"), (2, u "HBCS"), (2, u "BHEFT"), (2, u "LOSS1"), (2, u "GREEDY_TIME_CD"), (2, u "$VALUES"), (0, u "[Lcom/example/keep_budget/keepbudget/planning/Planners;"), (6, .class_ 37), (1, u "java/lang/Enum"), (8, u "plannerName"), (0, u "Ljava/lang/String;"), (2, u "description"), (0, .fieldref 1 52), (0, .nameAndType 53 54), (0, u "plansOn"), (0, u "Lcom/example/keep_budget/keepbudget/planning/Planners$PlansOn;"), (2, u "takesBudget"), (0, u "Z"), (113, .class_ 173), (0, u "com/example/keep_budget/keepbudget/planning/Planners$1"), (8, .class_ 184), (1, u "com/example/keep_budget/keepbudget/planning/Planners$PlansOn"), (4, .class_ 190), (0, u "com/example/keep_budget/keepbudget/planning/Planners$2"), (11, .class_ 203), (0, u "com/example/keep_budget/keepbudget/planning/Planners$3"), (8, .class_ 213), (0, u "com/example/keep_budget/keepbudget/planning/Planners$4"), (8, .class_ 223), (0, u "com/example/keep_budget/keepbudget/planning/Planners$5"), (8, .class_ 233), (0, u "com/example/keep_budget/keepbudget/planning/Planners$6"), (8, .class_ 243), (0, u "com/example/keep_budget/keepbudget/planning/Planners$7"), (23, u "()Lcom/example/keep_budget/keepbudget/planning/Planners$PlansOn;")] 61

def k6c0 : Code := { maxStack := 1, maxLocals := 1, code := prog_82_method_8_code, exceptionTable := #[], attributes := #[] }
def k6m0 : Method := { name := "plansOn", desc := "()Lcom/example/keep_budget/keepbudget/planning/Planners$PlansOn;", sig := { parameters := [], returnType := some (.object "com/example/keep_budget/keepbudget/planning/Planners$PlansOn") }, accessFlags := 1, code := some k6c0 }
/-- com/example/keep_budget/keepbudget/planning/Planners -/
def k6 : Class := { plain "com/example/keep_budget/keepbudget/planning/Planners" (some 5) with
  accessFlags := 16417
  interfaces := #[]
  cf := some (fileOf pool6 1 #[.nestMembers #[182, 242, 232, 222, 212, 202, 189, 172]] #[{ accessFlags := 1, nameIndex := 53, descriptorIndex := 267, attributes := #[] }] 16417 35 #[] #[{ accessFlags := 16409, nameIndex := 5, descriptorIndex := 6, attributes := #[] }, { accessFlags := 16409, nameIndex := 9, descriptorIndex := 6, attributes := #[] }, { accessFlags := 16409, nameIndex := 12, descriptorIndex := 6, attributes := #[] }, { accessFlags := 16409, nameIndex := 15, descriptorIndex := 6, attributes := #[] }, { accessFlags := 16409, nameIndex := 18, descriptorIndex := 6, attributes := #[] }, { accessFlags := 16409, nameIndex := 21, descriptorIndex := 6, attributes := #[] }, { accessFlags := 16409, nameIndex := 24, descriptorIndex := 6, attributes := #[] }, { accessFlags := 18, nameIndex := 46, descriptorIndex := 47, attributes := #[] }, { accessFlags := 18, nameIndex := 50, descriptorIndex := 47, attributes := #[] }, { accessFlags := 18, nameIndex := 53, descriptorIndex := 54, attributes := #[] }, { accessFlags := 18, nameIndex := 57, descriptorIndex := 58, attributes := #[] }, { accessFlags := 4122, nameIndex := 27, descriptorIndex := 28, attributes := #[] }])
  fields := #[{ name := "ONE_VM_FOR_ALL", type := (.object "com/example/keep_budget/keepbudget/planning/Planners"), accessFlags := 16409, slot := 0, constantValue := 0 }, { name := "HEFT", type := (.object "com/example/keep_budget/keepbudget/planning/Planners"), accessFlags := 16409, slot := 1, constantValue := 0 }, { name := "CHEAPEST", type := (.object "com/example/keep_budget/keepbudget/planning/Planners"), accessFlags := 16409, slot := 2, constantValue := 0 }, { name := "HBCS", type := (.object "com/example/keep_budget/keepbudget/planning/Planners"), accessFlags := 16409, slot := 3, constantValue := 0 }, { name := "BHEFT", type := (.object "com/example/keep_budget/keepbudget/planning/Planners"), accessFlags := 16409, slot := 4, constantValue := 0 }, { name := "LOSS1", type := (.object "com/example/keep_budget/keepbudget/planning/Planners"), accessFlags := 16409, slot := 5, constantValue := 0 }, { name := "GREEDY_TIME_CD", type := (.object "com/example/keep_budget/keepbudget/planning/Planners"), accessFlags := 16409, slot := 6, constantValue := 0 }, { name := "plannerName", type := (.object "java/lang/String"), accessFlags := 18, slot := 3, constantValue := 0 }, { name := "description", type := (.object "java/lang/String"), accessFlags := 18, slot := 4, constantValue := 0 }, { name := "plansOn", type := (.object "com/example/keep_budget/keepbudget/planning/Planners$PlansOn"), accessFlags := 18, slot := 5, constantValue := 0 }, { name := "takesBudget", type := .boolean, accessFlags := 18, slot := 6, constantValue := 0 }, { name := "$VALUES", type := (.array (.object "com/example/keep_budget/keepbudget/planning/Planners")), accessFlags := 4122, slot := 7, constantValue := 0 }]
  methods := #[k6m0]
  instanceTypes := #[(.object "java/lang/String"), .int, .int, (.object "java/lang/String"), (.object "java/lang/String"), (.object "com/example/keep_budget/keepbudget/planning/Planners$PlansOn"), .boolean]
  staticTypes := #[(.object "com/example/keep_budget/keepbudget/planning/Planners"), (.object "com/example/keep_budget/keepbudget/planning/Planners"), (.object "com/example/keep_budget/keepbudget/planning/Planners"), (.object "com/example/keep_budget/keepbudget/planning/Planners"), (.object "com/example/keep_budget/keepbudget/planning/Planners"), (.object "com/example/keep_budget/keepbudget/planning/Planners"), (.object "com/example/keep_budget/keepbudget/planning/Planners"), (.array (.object "com/example/keep_budget/keepbudget/planning/Planners"))]
  resolved := Array.replicate 329 none
  statics := some 0 }

def pool7 : Array CpInfo := pool [(6, .class_ 8), (1, u "com/example/keep_budget/keepbudget/planning/Comparison"), (3, .class_ 14), (1, u "java/lang/Object"), (41, u "catalog"), (0, u "Lcom/example/keep_budget/keepbudget/model/Catalog;"), (1, u "fleet"), (10, u "Lcom/example/keep_budget/keepbudget/model/Fleet;"), (6, u "planners"), (0, u "Ljava/util/List;"), (2, u "factors"), (2, u "making"), (0, u "Lcom/example/keep_budget/keepbudget/planning/Comparison$Making;"), (10, u "normalised"), (0, u "[[Lcom/example/keep_budget/keepbudget/planning/Comparison$Sum;"), (2, u "firsts"), (2, u "others"), (0, .methodref 105 106), (0, .class_ 107), (0, .nameAndType 108 109), (0, u "com/example/keep_budget/keepbudget/planning/Planners"), (0, u "plansOn"), (0, u "()Lcom/example/keep_budget/keepbudget/planning/Planners$PlansOn;"), (0, .fieldref 111 112), (0, .class_ 113), (0, .nameAndType 114 115), (0, u "com/example/keep_budget/keepbudget/planning/Planners$PlansOn"), (0, u "FLEET"), (0, u "Lcom/example/keep_budget/keepbudget/planning/Planners$PlansOn;"), (80, .class_ 198), (1, u "com/example/keep_budget/keepbudget/planning/Comparison$Sum"), (3, u "workflows"), (0, u "I"), (11, .class_ 216), (0, u "com/example/keep_budget/keepbudget/planning/Comparison$Mean"), (6, u "Lcom/example/keep_budget/keepbudget/planning/Fraction;"), (9, u "HUNDRED"), (3, .class_ 238), (0, u "com/example/keep_budget/keepbudget/planning/Comparison$Improvement"), (4, .class_ 245), (1, u "com/example/keep_budget/keepbudget/planning/Comparison$Making"), (50, u "MEAN_PLACES"), (2, u "PERCENT_PLACES"), (10, u "requireOnFleet"), (0, u "(Lcom/example/keep_budget/keepbudget/planning/Planners;)Lcom/example/keep_budget/keepbudget/planning/Planners;")] 62

def k7c0 : Code := { maxStack := 3, maxLocals := 1, code := prog_41_method_3_code, exceptionTable := #[], attributes := #[] }
def k7m0 : Method := { name := "requireOnFleet", desc := "(Lcom/example/keep_budget/keepbudget/planning/Planners;)Lcom/example/keep_budget/keepbudget/planning/Planners;", sig := { parameters := [(.object "com/example/keep_budget/keepbudget/planning/Planners")], returnType := some (.object "com/example/keep_budget/keepbudget/planning/Planners") }, accessFlags := 9, code := some k7c0 }
/-- com/example/keep_budget/keepbudget/planning/Comparison -/
def k7 : Class := { plain "com/example/keep_budget/keepbudget/planning/Comparison" (some 0) with
  accessFlags := 33
  interfaces := #[]
  cf := some (fileOf pool7 6 #[.nestMembers #[237, 215, 196, 243]] #[{ accessFlags := 9, nameIndex := 310, descriptorIndex := 311, attributes := #[] }] 33 12 #[] #[{ accessFlags := 25, nameIndex := 296, descriptorIndex := 203, attributes := #[] }, { accessFlags := 25, nameIndex := 299, descriptorIndex := 203, attributes := #[] }, { accessFlags := 26, nameIndex := 233, descriptorIndex := 223, attributes := #[] }, { accessFlags := 18, nameIndex := 56, descriptorIndex := 57, attributes := #[] }, { accessFlags := 18, nameIndex := 59, descriptorIndex := 70, attributes := #[] }, { accessFlags := 18, nameIndex := 77, descriptorIndex := 78, attributes := #[] }, { accessFlags := 18, nameIndex := 81, descriptorIndex := 78, attributes := #[] }, { accessFlags := 18, nameIndex := 84, descriptorIndex := 85, attributes := #[] }, { accessFlags := 18, nameIndex := 96, descriptorIndex := 97, attributes := #[] }, { accessFlags := 18, nameIndex := 100, descriptorIndex := 97, attributes := #[] }, { accessFlags := 18, nameIndex := 103, descriptorIndex := 97, attributes := #[] }, { accessFlags := 2, nameIndex := 202, descriptorIndex := 203, attributes := #[] }])
  fields := #[{ name := "MEAN_PLACES", type := .int, accessFlags := 25, slot := 0, constantValue := 0 }, { name := "PERCENT_PLACES", type := .int, accessFlags := 25, slot := 1, constantValue := 0 }, { name := "HUNDRED", type := (.object "com/example/keep_budget/keepbudget/planning/Fraction"), accessFlags := 26, slot := 2, constantValue := 0 }, { name := "catalog", type := (.object "com/example/keep_budget/keepbudget/model/Catalog"), accessFlags := 18, slot := 0, constantValue := 0 }, { name := "fleet", type := (.object "com/example/keep_budget/keepbudget/model/Fleet"), accessFlags := 18, slot := 1, constantValue := 0 }, { name := "planners", type := (.object "java/util/List"), accessFlags := 18, slot := 2, constantValue := 0 }, { name := "factors", type := (.object "java/util/List"), accessFlags := 18, slot := 3, constantValue := 0 }, { name := "making", type := (.object "com/example/keep_budget/keepbudget/planning/Comparison$Making"), accessFlags := 18, slot := 4, constantValue := 0 }, { name := "normalised", type := (.array (.array (.object "com/example/keep_budget/keepbudget/planning/Comparison$Sum"))), accessFlags := 18, slot := 5, constantValue := 0 }, { name := "firsts", type := (.array (.array (.object "com/example/keep_budget/keepbudget/planning/Comparison$Sum"))), accessFlags := 18, slot := 6, constantValue := 0 }, { name := "others", type := (.array (.array (.object "com/example/keep_budget/keepbudget/planning/Comparison$Sum"))), accessFlags := 18, slot := 7, constantValue := 0 }, { name := "workflows", type := .int, accessFlags := 2, slot := 8, constantValue := 0 }]
  methods := #[k7m0]
  instanceTypes := #[(.object "com/example/keep_budget/keepbudget/model/Catalog"), (.object "com/example/keep_budget/keepbudget/model/Fleet"), (.object "java/util/List"), (.object "java/util/List"), (.object "com/example/keep_budget/keepbudget/planning/Comparison$Making"), (.array (.array (.object "com/example/keep_budget/keepbudget/planning/Comparison$Sum"))), (.array (.array (.object "com/example/keep_budget/keepbudget/planning/Comparison$Sum"))), (.array (.array (.object "com/example/keep_budget/keepbudget/planning/Comparison$Sum"))), .int]
  staticTypes := #[.int, .int, (.object "com/example/keep_budget/keepbudget/planning/Fraction")]
  resolved := Array.replicate 374 none
  statics := none }

def pool8 : Array CpInfo := pool [(2, .class_ 4), (1, u "com/example/keep_budget/keepbudget/planning/Planners"), (17, .class_ 23), (0, u "com/example/keep_budget/keepbudget/planning/Planners$2")] 15

/-- com/example/keep_budget/keepbudget/planning/Planners$2 -/
def k8 : Class := { plain "com/example/keep_budget/keepbudget/planning/Planners$2" (some 6) with
  accessFlags := 16432
  interfaces := #[]
  cf := some (fileOf pool8 22 #[.nestHost 2] #[] 16432 2 #[] #[])
  fields := #[]
  methods := #[]
  instanceTypes := #[(.object "java/lang/String"), .int, .int, (.object "java/lang/String"), (.object "java/lang/String"), (.object "com/example/keep_budget/keepbudget/planning/Planners$PlansOn"), .boolean]
  staticTypes := #[]
  resolved := Array.replicate 39 none
  statics := none }

def pool9 : Array CpInfo := pool [(1, .class_ 2), (0, u "com/example/keep_budget/keepbudget/planning/Planners$PlansOn"), (2, u "TYPE"), (0, u "Lcom/example/keep_budget/keepbudget/planning/Planners$PlansOn;"), (2, u "FLEET"), (2, u "$VALUES"), (0, u "[Lcom/example/keep_budget/keepbudget/planning/Planners$PlansOn;"), (6, .class_ 22), (1, u "java/lang/Enum"), (25, .class_ 49), (0, u "com/example/keep_budget/keepbudget/planning/Planners")] 2

/-- com/example/keep_budget/keepbudget/planning/Planners$PlansOn -/
def k9 : Class := { plain "com/example/keep_budget/keepbudget/planning/Planners$PlansOn" (some 5) with
  accessFlags := 16433
  interfaces := #[]
  cf := some (fileOf pool9 1 #[.nestHost 48] #[] 16433 20 #[] #[{ accessFlags := 16409, nameIndex := 5, descriptorIndex := 6, attributes := #[] }, { accessFlags := 16409, nameIndex := 9, descriptorIndex := 6, attributes := #[] }, { accessFlags := 4122, nameIndex := 12, descriptorIndex := 13, attributes := #[] }])
  fields := #[{ name := "TYPE", type := (.object "com/example/keep_budget/keepbudget/planning/Planners$PlansOn"), accessFlags := 16409, slot := 0, constantValue := 0 }, { name := "FLEET", type := (.object "com/example/keep_budget/keepbudget/planning/Planners$PlansOn"), accessFlags := 16409, slot := 1, constantValue := 0 }, { name := "$VALUES", type := (.array (.object "com/example/keep_budget/keepbudget/planning/Planners$PlansOn")), accessFlags := 4122, slot := 2, constantValue := 0 }]
  methods := #[]
  instanceTypes := #[(.object "java/lang/String"), .int, .int]
  staticTypes := #[(.object "com/example/keep_budget/keepbudget/planning/Planners$PlansOn"), (.object "com/example/keep_budget/keepbudget/planning/Planners$PlansOn"), (.array (.object "com/example/keep_budget/keepbudget/planning/Planners$PlansOn"))]
  resolved := Array.replicate 52 none
  statics := some 1 }

def pool10 : Array CpInfo := pool [(2, .class_ 4), (1, u "com/example/keep_budget/keepbudget/planning/Planners"), (11, .class_ 17), (0, u "com/example/keep_budget/keepbudget/planning/Planners$5")] 16

/-- com/example/keep_budget/keepbudget/planning/Planners$5 -/
def k10 : Class := { plain "com/example/keep_budget/keepbudget/planning/Planners$5" (some 6) with
  accessFlags := 16432
  interfaces := #[]
  cf := some (fileOf pool10 16 #[.nestHost 2] #[] 16432 2 #[] #[])
  fields := #[]
  methods := #[]
  instanceTypes := #[(.object "java/lang/String"), .int, .int, (.object "java/lang/String"), (.object "java/lang/String"), (.object "com/example/keep_budget/keepbudget/planning/Planners$PlansOn"), .boolean]
  staticTypes := #[]
  resolved := Array.replicate 34 none
  statics := none }

def pool11 : Array CpInfo := pool [(2, .class_ 4), (1, u "com/example/keep_budget/keepbudget/planning/Planners"), (14, .class_ 20), (0, u "com/example/keep_budget/keepbudget/planning/Planners$4")] 18

/-- com/example/keep_budget/keepbudget/planning/Planners$4 -/
def k11 : Class := { plain "com/example/keep_budget/keepbudget/planning/Planners$4" (some 6) with
  accessFlags := 16432
  interfaces := #[]
  cf := some (fileOf pool11 19 #[.nestHost 2] #[] 16432 2 #[] #[])
  fields := #[]
  methods := #[]
  instanceTypes := #[(.object "java/lang/String"), .int, .int, (.object "java/lang/String"), (.object "java/lang/String"), (.object "com/example/keep_budget/keepbudget/planning/Planners$PlansOn"), .boolean]
  staticTypes := #[]
  resolved := Array.replicate 39 none
  statics := none }

def pool12 : Array CpInfo := pool [(2, .class_ 4), (1, u "com/example/keep_budget/keepbudget/planning/Planners"), (17, .class_ 23), (0, u "com/example/keep_budget/keepbudget/planning/Planners$3")] 15

/-- com/example/keep_budget/keepbudget/planning/Planners$3 -/
def k12 : Class := { plain "com/example/keep_budget/keepbudget/planning/Planners$3" (some 6) with
  accessFlags := 16432
  interfaces := #[]
  cf := some (fileOf pool12 22 #[.nestHost 2] #[] 16432 2 #[] #[])
  fields := #[]
  methods := #[]
  instanceTypes := #[(.object "java/lang/String"), .int, .int, (.object "java/lang/String"), (.object "java/lang/String"), (.object "com/example/keep_budget/keepbudget/planning/Planners$PlansOn"), .boolean]
  staticTypes := #[]
  resolved := Array.replicate 39 none
  statics := none }

def pool13 : Array CpInfo := pool [(2, .class_ 4), (1, u "com/example/keep_budget/keepbudget/planning/Planners"), (11, .class_ 17), (0, u "com/example/keep_budget/keepbudget/planning/Planners$7")] 16

/-- com/example/keep_budget/keepbudget/planning/Planners$7 -/
def k13 : Class := { plain "com/example/keep_budget/keepbudget/planning/Planners$7" (some 6) with
  accessFlags := 16432
  interfaces := #[]
  cf := some (fileOf pool13 16 #[.nestHost 2] #[] 16432 2 #[] #[])
  fields := #[]
  methods := #[]
  instanceTypes := #[(.object "java/lang/String"), .int, .int, (.object "java/lang/String"), (.object "java/lang/String"), (.object "com/example/keep_budget/keepbudget/planning/Planners$PlansOn"), .boolean]
  staticTypes := #[]
  resolved := Array.replicate 34 none
  statics := none }

def pool14 : Array CpInfo := pool [(2, .class_ 4), (1, u "com/example/keep_budget/keepbudget/planning/Planners"), (20, .class_ 26), (0, u "com/example/keep_budget/keepbudget/planning/Planners$6")] 18

/-- com/example/keep_budget/keepbudget/planning/Planners$6 -/
def k14 : Class := { plain "com/example/keep_budget/keepbudget/planning/Planners$6" (some 6) with
  accessFlags := 16432
  interfaces := #[]
  cf := some (fileOf pool14 25 #[.nestHost 2] #[] 16432 2 #[] #[])
  fields := #[]
  methods := #[]
  instanceTypes := #[(.object "java/lang/String"), .int, .int, (.object "java/lang/String"), (.object "java/lang/String"), (.object "com/example/keep_budget/keepbudget/planning/Planners$PlansOn"), .boolean]
  staticTypes := #[]
  resolved := Array.replicate 45 none
  statics := none }

def pool15 : Array CpInfo := pool [(1, u "java/lang/Cloneable"), (0, .class_ 1), (0, u "java/lang/Object"), (0, .class_ 3)] 3

/-- java/lang/Cloneable -/
def k15 : Class := { plain "java/lang/Cloneable" (some 0) with
  accessFlags := 1537
  interfaces := #[]
  cf := some (fileOf pool15 2 #[] #[] 1537 4 #[] #[])
  fields := #[]
  methods := #[]
  instanceTypes := #[]
  staticTypes := #[]
  resolved := Array.replicate 8 none
  statics := none }

/-- the primitive byte -/
def k16 : Class := { plain "byte" none with kind := .primitive 'B', accessFlags := 0x411 }
/-- [B -/
def k17 : Class := { plain "[B" (some 0) with kind := .array 16 .byte, interfaces := #[15, 4], accessFlags := 1041 }

/-- the primitive int -/
def k18 : Class := { plain "int" none with kind := .primitive 'I', accessFlags := 0x411 }
/-- [I -/
def k19 : Class := { plain "[I" (some 0) with kind := .array 18 .int, interfaces := #[15, 4], accessFlags := 1041 }

def heap : Heap := #[{ cls := 6, slots := #[.null, .ref 2, .ref 6, .ref 5, .ref 4, .ref 8, .ref 7, .null], vm := .statics 6 },
  { cls := 9, slots := #[.null, .ref 3, .null], vm := .statics 9 },
  { cls := 8, slots := #[.null, .int 0, .int 0, .null, .null, .ref 3, .int 0], vm := .none },
  { cls := 9, slots := #[.null, .int 0, .int 0], vm := .none },
  { cls := 10, slots := #[.null, .int 0, .int 0, .null, .null, .ref 3, .int 0], vm := .none },
  { cls := 11, slots := #[.null, .int 0, .int 0, .null, .null, .ref 3, .int 0], vm := .none },
  { cls := 12, slots := #[.null, .int 0, .int 0, .null, .null, .ref 3, .int 0], vm := .none },
  { cls := 13, slots := #[.null, .int 0, .int 0, .null, .null, .ref 3, .int 0], vm := .none },
  { cls := 14, slots := #[.null, .int 0, .int 0, .null, .null, .ref 3, .int 0], vm := .none }]
def classes : Array Class := #[k0, k1, k2, k3, k4, k5, k6, k7, k8, k9, k10, k11, k12, k13, k14, k15, k16, k17, k18, k19]
def interned : List (Array UInt16 × Addr) := []
def slotsUsed : Nat := 56
def theMethod : MethodId := ⟨1, 2⟩
def args0 : Array Value := #[.int 5]
def aboutOver (below : List Frame) : State where
  vm := { classes := classes, interned := interned.toArray }
  heap := heap
  slotsUsed := slotsUsed
  threads := #[{ frames := .invoking theMethod args0 :: below }]
def below0 : List Frame := [.native { method := ⟨0, 0⟩, args := #[] }]
def about1 : State := aboutOver below0
def p0 : Program := .bare "" "" ""
def e0 : Env := launch0.env 0 0 0
theorem w_frames : about1.frames = Frame.invoking theMethod args0 :: below0 := rfl
set_option maxRecDepth 65536 in
theorem w_args : argsFit about1.vm theMethod args0 = true := by decide +kernel
set_option maxRecDepth 65536 in
theorem w_heap : heapFits about1 = true := by decide +kernel
set_option maxRecDepth 65536 in
theorem w_runnable : about1.curStatus? = some .runnable := by decide +kernel
set_option maxRecDepth 65536 in
theorem w_alone : about1.alone = true := by decide +kernel
set_option maxRecDepth 65536 in
theorem w_named : about1.methodNamed? x = some theMethod := by decide +kernel
set_option maxRecDepth 65536 in
theorem w_hears : about1.hears theMethod below0 = true := by decide +kernel
set_option maxRecDepth 65536 in
theorem w_ripe : about1.ripe theMethod args0 below0 = true := by decide +kernel
theorem w_running : about1.status = .running := rfl
set_option maxRecDepth 65536 in
theorem w_room : about1.hasRoom e0.platform room_1 = true :=
  launch0.hasRoom_least _ room_1 (by decide +kernel) (by decide +kernel) (by decide +kernel) (by decide +kernel) (by decide +kernel) (by decide +kernel)
theorem allAtoms_all (ts : List Jvm.Cond) (a : Array Jvm.Value) (st : Jvm.State) : (allAtoms ts).before a st = ts.all (fun c => c.before a st) := by
  induction ts with
  | nil => rfl
  | cons c t ih =>
    show (Jvm.Cond.and c (allAtoms t)).before a st = _
    rw [Jvm.Cond.before_and, ih, List.all_cons]
def words1 : List Jvm.Cond := Jvm.Cond.code x code maxLocals ret :: tables_1
/-- a 'code' word, met by the world's own term for the bytes: nothing is compared byte by byte -/
theorem code_word {y : MethodName} {bytes : ByteArray} {mx : Nat} {rt : Option FieldType} {a : Array Value} {s : State} {m : MethodId} {meth : Method} {c : Code} (h1 : s.methodNamed? y = some m) (h2 : s.vm.method? m = some meth) (h3 : meth.code = some c) (h4 : c.code = bytes)
    (h5 : (c.maxLocals == mx && c.exceptionTable.isEmpty && decide (c.maxStack ≤ mostOperands) && decide (meth.sig.returnType = rt) && !meth.locks && decide (parseMethodDescriptor y.desc = some meth.sig)) = true) : (Jvm.Cond.code y bytes mx rt).before a s = true := by
  simp only [Bool.and_eq_true, beq_iff_eq, Bool.not_eq_true', decide_eq_true_eq] at h5
  obtain ⟨⟨⟨⟨⟨g1, g2⟩, g3⟩, g4⟩, g5⟩, g6⟩ := h5
  simp [Cond.before, Cond.holds, Cond.value, h1, h2, h3, h4, g1, g2, g3, g4, g5, g6]
def isCode : Jvm.Cond → Bool
  | .code _ _ _ _ => true
  | _ => false
theorem all_split {L : List Jvm.Cond} {P : Jvm.Cond → Bool} (h1 : L.all (fun c => isCode c || P c) = true) (h2 : ∀ c ∈ L.filter isCode, P c = true) : L.all P = true := by
  refine List.all_eq_true.mpr fun c hc => ?_
  have h := List.all_eq_true.mp h1 c hc
  rcases Bool.eq_false_or_eq_true (isCode c) with hi | hi
  · exact h2 c (List.mem_filter.mpr ⟨hc, hi⟩)
  · simpa [hi] using h
set_option maxRecDepth 65536 in
theorem w_c0 : (Jvm.Cond.code x code maxLocals ret).before args0 about1 = true := code_word (m := ⟨1, 2⟩) (meth := k1m2) (c := k1c2) (by decide +kernel) rfl rfl rfl (by decide +kernel)
set_option maxRecDepth 65536 in
theorem w_c1 : (Jvm.Cond.code ({ cls := "com/example/keep_budget/keepbudget/planning/ComparisonRequireOnFleetPinLaw", name := "fleetPlanner", desc := "(I)Lcom/example/keep_budget/keepbudget/planning/Planners;" } : Jvm.MethodName) method_2_code (1 : Nat) (Option.some (Jvm.ClassFile.FieldType.object "com/example/keep_budget/keepbudget/planning/Planners"))).before args0 about1 = true := code_word (m := ⟨1, 1⟩) (meth := k1m1) (c := k1c1) (by decide +kernel) rfl rfl rfl (by decide +kernel)
set_option maxRecDepth 65536 in
theorem w_c2 : (Jvm.Cond.code ({ cls := "com/example/keep_budget/keepbudget/planning/Comparison", name := "requireOnFleet", desc := "(Lcom/example/keep_budget/keepbudget/planning/Planners;)Lcom/example/keep_budget/keepbudget/planning/Planners;" } : Jvm.MethodName) prog_41_method_3_code (1 : Nat) (Option.some (Jvm.ClassFile.FieldType.object "com/example/keep_budget/keepbudget/planning/Planners"))).before args0 about1 = true := code_word (m := ⟨7, 0⟩) (meth := k7m0) (c := k7c0) (by decide +kernel) rfl rfl rfl (by decide +kernel)
set_option maxRecDepth 65536 in
theorem w_c3 : (Jvm.Cond.code ({ cls := "com/example/keep_budget/keepbudget/planning/Planners", name := "plansOn", desc := "()Lcom/example/keep_budget/keepbudget/planning/Planners$PlansOn;" } : Jvm.MethodName) prog_82_method_8_code (1 : Nat) (Option.some (Jvm.ClassFile.FieldType.object "com/example/keep_budget/keepbudget/planning/Planners$PlansOn"))).before args0 about1 = true := code_word (m := ⟨6, 0⟩) (meth := k6m0) (c := k6c0) (by decide +kernel) rfl rfl rfl (by decide +kernel)
def codes1 : List Jvm.Cond := [Jvm.Cond.code x code maxLocals ret, Jvm.Cond.code ({ cls := "com/example/keep_budget/keepbudget/planning/ComparisonRequireOnFleetPinLaw", name := "fleetPlanner", desc := "(I)Lcom/example/keep_budget/keepbudget/planning/Planners;" } : Jvm.MethodName) method_2_code (1 : Nat) (Option.some (Jvm.ClassFile.FieldType.object "com/example/keep_budget/keepbudget/planning/Planners")), Jvm.Cond.code ({ cls := "com/example/keep_budget/keepbudget/planning/Comparison", name := "requireOnFleet", desc := "(Lcom/example/keep_budget/keepbudget/planning/Planners;)Lcom/example/keep_budget/keepbudget/planning/Planners;" } : Jvm.MethodName) prog_41_method_3_code (1 : Nat) (Option.some (Jvm.ClassFile.FieldType.object "com/example/keep_budget/keepbudget/planning/Planners")), Jvm.Cond.code ({ cls := "com/example/keep_budget/keepbudget/planning/Planners", name := "plansOn", desc := "()Lcom/example/keep_budget/keepbudget/planning/Planners$PlansOn;" } : Jvm.MethodName) prog_82_method_8_code (1 : Nat) (Option.some (Jvm.ClassFile.FieldType.object "com/example/keep_budget/keepbudget/planning/Planners$PlansOn"))]
set_option maxRecDepth 65536 in
theorem codes_eq : words1.filter isCode = codes1 := rfl
theorem w_codes : ∀ c ∈ words1.filter isCode, c.before args0 about1 = true := by
  rw [codes_eq]
  intro c hc
  simp only [codes1, List.mem_cons, List.not_mem_nil, or_false] at hc
  rcases hc with rfl | rfl | rfl | rfl
  · exact w_c0
  · exact w_c1
  · exact w_c2
  · exact w_c3
set_option maxRecDepth 65536 in
theorem w_t1 : (words1.take 24).all (fun c => isCode c || c.before args0 about1) = true := by decide +kernel
set_option maxRecDepth 65536 in
theorem w_t2 : (words1.drop 24).all (fun c => isCode c || c.before args0 about1) = true := by decide +kernel
theorem w_tables : (allAtoms (Jvm.Cond.code x code maxLocals ret :: tables_1)).before args0 about1 = true := by
  rw [allAtoms_all]
  show words1.all (fun c => c.before args0 about1) = true
  refine all_split ?_ w_codes
  rw [← List.take_append_drop 24 words1, List.all_append, w_t1, w_t2]
  rfl
set_option maxRecDepth 65536 in
theorem w_case : (Jvm.Cond.and given_1 narrow_1).before args0 about1 = true := by decide +kernel
theorem w_applies : (headSpec (Jvm.Cond.code x code maxLocals ret :: tables_1) room_1).applies x e0.platform about1 = true :=
  (Spec.applies_iff w_frames).mpr ⟨w_running, w_runnable, w_alone, w_named, w_hears, w_ripe, w_room, w_tables⟩
theorem atStart : AtStart classFile x code maxLocals ret World_1 tables_1 room_1 Calls_1 rest_1 Pre_1 launch0 p0 e0 about1 theMethod args0 below0 :=
  ⟨lists_1, trivial, launch0.admits_env _ _ _, launch0.least_env, fairChoices_fair.cas, fairChoices_fair.clock, w_frames, w_args, w_heap, w_applies, trivial, trivial, w_case⟩
end start1
theorem witness_1 : WitnessClaimed_1 := ⟨start1.p0, start1.e0, start1.about1, start1.theMethod, start1.args0, start1.below0, start1.atStart⟩
end Jvm.Pilot.@@N@@
