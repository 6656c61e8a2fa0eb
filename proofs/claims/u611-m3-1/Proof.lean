import JvmDerived
import JvmDerived.Pilot.@@N@@Statement
import JvmDerived.Pilot.@@N@@Code
set_option linter.unusedVariables false
set_option linter.unusedSimpArgs false
namespace Jvm.Pilot.@@N@@
open Jvm Jvm.ClassFile Sem Op Lib Jvm.Free Jvm.Stand Jvm.LawKit Jvm.RoadKit Bundle Jvm.Pilot.@@N@@.Jvm.D
theorem own_adv {tb : Tables} {e : Env} {below : List Frame} {A B : State} {P : State → Outcome → Prop} (h : ∀ t, Steps tb e below B t → Steps tb e below A t) (k : ∃ s₂ o, Steps tb e below B s₂ ∧ P s₂ o) : ∃ s₂ o, Steps tb e below A s₂ ∧ P s₂ o := by
  obtain ⟨a, b, c, d⟩ := k
  exact ⟨a, b, h a c, d⟩
theorem own_feqi {args : Array Value} {s : State} {t : Term} {C n d : String} {k : Int32} {x : Addr} (ht : t.eval args s none [] s = some (.ref x)) (h : (Cond.eq (.field t C n d) (.int k)).value args s none s [] = some true) : Fld s s.heap x C n d (.int k) := by
  refine Fld.start ?_
  have hf := fld_at (C := C) (n := n) (dd := d) ht
  obtain ⟨x1, y1, e1, e2, k1, k2⟩ := cmp_v (Or.inl h)
  have e3 : y1 = .int k := Option.some.inj (e2.symm.trans (Term.int_eval k))
  subst e3
  obtain ⟨z, rfl⟩ := k2
  simp [Cond.value, e1, e2] at h
  rw [← hf, e1, h]
theorem own_feqr {args : Array Value} {s : State} {t u : Term} {C n d : String} {x y : Addr} (ht : t.eval args s none [] s = some (.ref x)) (hu : u.eval args s none [] s = some (.ref y)) (h : (Cond.eq (.field t C n d) u).value args s none s [] = some true) : Fld s s.heap x C n d (.ref y) := by
  refine Fld.start ?_
  have hf := fld_at (C := C) (n := n) (dd := d) ht
  obtain ⟨x1, y1, e1, e2, k1, k2⟩ := cmp_v (Or.inl h)
  have e3 : y1 = .ref y := Option.some.inj (e2.symm.trans hu)
  subst e3
  have r := k2.2
  rcases ref_cases r with rfl | ⟨z, rfl⟩
  · simp [Cond.value, e1, e2] at h
  · simp [Cond.value, e1, e2] at h
    rw [← hf, e1, h]
theorem own_pn_com_example_forbear_forbear_Outcome : plainName "com/example/forbear/forbear/Outcome" = true := by first | (simp [plainName, overriddenIn]; done) | decide +kernel
theorem own_ef_rm1 (m : MethodId) (x0 : Addr) : entryFrame m #[(.ref x0)] 1 = mkF m 0 #[.val (.ref x0)] [] := by first | (simp [entryFrame, mkF, argsToLocals, Value.category, maxLocals]; done) | rfl
theorem own_d1_0 : decode prog_7_method_5_code 0 = .ok (.aload_n 0, 1) := by decide +kernel
theorem own_d1_1 : decode prog_7_method_5_code 1 = .ok (.getstatic 3, 3) := by decide +kernel
theorem own_d1_4 : decode prog_7_method_5_code 4 = .ok (.if_acmp .eq 7, 3) := by decide +kernel
theorem own_d1_11 : decode prog_7_method_5_code 11 = .ok (.iconst 0, 1) := by decide +kernel
theorem own_d1_12 : decode prog_7_method_5_code 12 = .ok (.ireturn, 1) := by decide +kernel
theorem own_d1_7 : decode prog_7_method_5_code 7 = .ok (.iconst 1, 1) := by decide +kernel
theorem own_d1_8 : decode prog_7_method_5_code 8 = .ok (.goto 4, 3) := by decide +kernel
theorem own_pn_com_example_forbear_forbear_OutcomeIsRefusalPinLaw : plainName "com/example/forbear/forbear/OutcomeIsRefusalPinLaw" = true := by first | (simp [plainName, overriddenIn]; done) | decide +kernel
theorem own_ef_rm0 (m : MethodId) (x0 : Int32) : entryFrame m #[(.int x0)] maxLocals = mkF m 0 #[.val (.int x0), .unset, .unset, .unset] [] := by first | (simp [entryFrame, mkF, argsToLocals, Value.category, maxLocals]; done) | rfl
theorem own_pd___Z : parseMethodDescriptor "()Z" = some ⟨[], some .boolean⟩ := by decide +kernel
def own_Qrm1 (Z : State) (a1 w_SUCCESS : Addr) (k : Int32) (h0 : Heap) (n0 : Nat) (v : Option Value) (h : Heap) (L : List Loc) : Prop := v = some (.int k) ∧ Fr n0 L ∧ h = h0
set_option maxRecDepth 65536 in
set_option maxHeartbeats 40000000 in
theorem rm1 (l : Launch) (Z : State) (a0 : Array Value) (hw : ∀ d ∈ tables_1, d.before a0 Z = true) (ws : List Jvm.Cond) (a1 w_SUCCESS : Addr) (k : Int32) (h0 : Heap) (n0 : Nat) (Z0 : n0 ≤ h0.size) (S_SUCCESS : Sta Z h0 "com/example/forbear/forbear/Outcome" "SUCCESS" "Lcom/example/forbear/forbear/Outcome;" (.ref w_SUCCESS)) (hk : (a1 = w_SUCCESS ∧ k = 0) ∨ (¬ (a1 = w_SUCCESS) ∧ k = 1)) :
    MetFree l (⟨"com/example/forbear/forbear/Outcome", "isRefusal", "()Z"⟩ : MethodName) (head1 (Jvm.Cond.code (⟨"com/example/forbear/forbear/Outcome", "isRefusal", "()Z"⟩ : MethodName) prog_7_method_5_code 1 (some .boolean) :: ws) ({ frames := 0, cells := 0, slots := 0, locals := 0 } : Room)) (fun a U => a = #[(.ref a1)] ∧ Z.Warmed39 U.vm ∧ U.heap = h0) (fun _ _ _ _ _ => True) (fun _ U o U' => ∃ v L, o = .returned v ∧ own_Qrm1 Z a1 w_SUCCESS k h0 n0 v U'.heap L ∧ FrameEnd U o U' L ({ frames := 0, cells := 0, slots := 0, locals := 0 } : Room).cells ({ frames := 0, cells := 0, slots := 0, locals := 0 } : Room).slots) := by
  refine MetFree.of_bodySF (plainFor_of_name own_pn_com_example_forbear_forbear_Outcome) hisR ?_
  intro p e s m args below meth c s₁ Bd hml0 hP hK
  obtain ⟨rfl, hZ, hh⟩ := hP
  have hx := Bd.exec
  have hby := Bd.bytes
  have hml : c.maxLocals = 1 := hml0
  have hown : s.vm.findClass "com/example/forbear/forbear/Outcome" = some m.cls := findClass_of_methodNamed Bd.named
  have hnm := (name_of_methodNamed Bd.named Bd.method).1
  have X0 : Stand p l e ({ frames := 0, cells := 0, slots := 0, locals := 0 } : Room) s m #[(.ref a1)] below meth c s₁ [] 0 0 := Stand.of_body Bd
  have e0 : s₁.heap = h0 := by rw [← hh, Bd.state]; rfl
  have N0 := Fr.nil n0
  refine own_adv (B := s₁.setTop (mkF m 0 #[.val (.ref a1)] [])) (fun t k => castTop (own_ef_rm1 m a1) k) ?_
  rcases hk with ⟨hk, rfl⟩ | ⟨hk, rfl⟩
  · skip
    refine own_adv (B := s₁.setTop (mkF m 1 #[.val (.ref a1)] [(.ref a1)])) (fun t k => XS.aloadN X0.here hx rfl (hb hby own_d1_0) rfl rfl k) ?_
    obtain ⟨T10, X10, e10, st10⟩ := getS2 X0 hx hZ hown (host := "") (Or.inl (hw _ (List.mem_of_getElem? (i := 8) rfl))) Via.refl e0 S_SUCCESS (g := (mkF m 1 #[.val (.ref a1)] [(.ref a1)])) rfl (hb hby own_d1_1)
    refine own_adv (B := T10.setTop (mkF m 4 #[.val (.ref a1)] [(.ref w_SUCCESS), (.ref a1)])) st10 ?_
    refine own_adv (B := T10.setTop (mkF m 11 #[.val (.ref a1)] [])) (fun t k => Jvm.RoadKit.acmp (g := (mkF m 4 #[.val (.ref a1)] [(.ref w_SUCCESS), (.ref a1)])) X10 hx rfl rfl rfl (pc0 := 4) (pc' := 11) (same := true) rfl (hb hby own_d1_4) rfl (decide_eq_true (congrArg Value.ref hk)) (by decide) (by decide) k) ?_
    refine own_adv (B := T10.setTop (mkF m 12 #[.val (.ref a1)] [(.int (0 : Int32))])) (fun t k => XS.iconst X10.here hx rfl (hb hby own_d1_11) k) ?_
    obtain ⟨fs, hr, hrun, hended, hW, hsame⟩ := X10.leave (v := some (.int (0 : Int32))) (fun h => by rw [Bd.returns] at h; cases h)
    refine ⟨_, _, retN X10 hx (t := .boolean) Bd.returns (by simp) (hb hby own_d1_12) hr, hrun, hended, _, _, rfl, ?_, ⟨_, rfl⟩, hW, hsame.mono (by decide) (by decide)⟩
    exact ⟨rfl, N0, e10⟩
  · skip
    refine own_adv (B := s₁.setTop (mkF m 1 #[.val (.ref a1)] [(.ref a1)])) (fun t k => XS.aloadN X0.here hx rfl (hb hby own_d1_0) rfl rfl k) ?_
    obtain ⟨T11, X11, e11, st11⟩ := getS2 X0 hx hZ hown (host := "") (Or.inl (hw _ (List.mem_of_getElem? (i := 8) rfl))) Via.refl e0 S_SUCCESS (g := (mkF m 1 #[.val (.ref a1)] [(.ref a1)])) rfl (hb hby own_d1_1)
    refine own_adv (B := T11.setTop (mkF m 4 #[.val (.ref a1)] [(.ref w_SUCCESS), (.ref a1)])) st11 ?_
    refine own_adv (B := T11.setTop (mkF m 7 #[.val (.ref a1)] [])) (fun t k => Jvm.RoadKit.acmp (g := (mkF m 4 #[.val (.ref a1)] [(.ref w_SUCCESS), (.ref a1)])) X11 hx rfl rfl rfl (pc0 := 4) (pc' := 7) (same := false) rfl (hb hby own_d1_4) rfl (decide_eq_false fun q => hk (Value.ref.inj q)) (by decide) (by decide) k) ?_
    refine own_adv (B := T11.setTop (mkF m 8 #[.val (.ref a1)] [(.int (1 : Int32))])) (fun t k => XS.iconst X11.here hx rfl (hb hby own_d1_7) k) ?_
    refine own_adv (B := T11.setTop (mkF m 12 #[.val (.ref a1)] [(.int (1 : Int32))])) (fun t k => XS.goto X11.here hx rfl (pc0 := 8) (pc' := 12) rfl (hb hby own_d1_8) (by decide) (by decide) k) ?_
    obtain ⟨fs, hr, hrun, hended, hW, hsame⟩ := X11.leave (v := some (.int (1 : Int32))) (fun h => by rw [Bd.returns] at h; cases h)
    refine ⟨_, _, retN X11 hx (t := .boolean) Bd.returns (by simp) (hb hby own_d1_12) hr, hrun, hended, _, _, rfl, ?_, ⟨_, rfl⟩, hW, hsame.mono (by decide) (by decide)⟩
    exact ⟨rfl, N0, e11⟩
def own_Qrm0 (Z : State) (p1 : Int32) (w_SUCCESS w_RATE_LIMITED w_SERVER_ERROR w_TIMEOUT : Addr) (h0 : Heap) (n0 : Nat) (v : Option Value) (h : Heap) (L : List Loc) : Prop := v = some (.int 1) ∧ Fr n0 L
set_option maxRecDepth 65536 in
set_option maxHeartbeats 40000000 in
theorem rm0 (l : Launch) (Z : State) (a0 : Array Value) (hw : ∀ d ∈ tables_1, d.before a0 Z = true) (ws : List Jvm.Cond) (p1 : Int32) (w_SUCCESS w_RATE_LIMITED w_SERVER_ERROR w_TIMEOUT : Addr) (h0 : Heap) (n0 : Nat) (Z0 : n0 ≤ h0.size) (S_SUCCESS : Sta Z h0 "com/example/forbear/forbear/Outcome" "SUCCESS" "Lcom/example/forbear/forbear/Outcome;" (.ref w_SUCCESS)) (S_RATE_LIMITED : Sta Z h0 "com/example/forbear/forbear/Outcome" "RATE_LIMITED" "Lcom/example/forbear/forbear/Outcome;" (.ref w_RATE_LIMITED)) (S_SERVER_ERROR : Sta Z h0 "com/example/forbear/forbear/Outcome" "SERVER_ERROR" "Lcom/example/forbear/forbear/Outcome;" (.ref w_SERVER_ERROR)) (S_TIMEOUT : Sta Z h0 "com/example/forbear/forbear/Outcome" "TIMEOUT" "Lcom/example/forbear/forbear/Outcome;" (.ref w_TIMEOUT)) (E_SUCCESS : Exa Z h0 w_SUCCESS "com/example/forbear/forbear/Outcome") (E_RATE_LIMITED : Exa Z h0 w_RATE_LIMITED "com/example/forbear/forbear/Outcome") (E_SERVER_ERROR : Exa Z h0 w_SERVER_ERROR "com/example/forbear/forbear/Outcome") (E_TIMEOUT : Exa Z h0 w_TIMEOUT "com/example/forbear/forbear/Outcome") (ne_RATE_LIMITED : ¬ (w_RATE_LIMITED = w_SUCCESS)) (ne_SERVER_ERROR : ¬ (w_SERVER_ERROR = w_SUCCESS)) (ne_TIMEOUT : ¬ (w_TIMEOUT = w_SUCCESS)) :
    MetFree l x (head1 (Jvm.Cond.code x code maxLocals ret :: ws) room_1) (fun a U => a = #[(.int p1)] ∧ Z.Warmed39 U.vm ∧ U.heap = h0) (fun _ _ _ _ _ => True) (fun _ U o U' => ∃ v L, o = .returned v ∧ own_Qrm0 Z p1 w_SUCCESS w_RATE_LIMITED w_SERVER_ERROR w_TIMEOUT h0 n0 v U'.heap L ∧ FrameEnd U o U' L room_1.cells room_1.slots) := by
  refine MetFree.of_bodySF (plainFor_of_name own_pn_com_example_forbear_forbear_OutcomeIsRefusalPinLaw) hisR ?_
  intro p e s m args below meth c s₁ Bd hml0 hP hK
  obtain ⟨rfl, hZ, hh⟩ := hP
  have hx := Bd.exec
  have hby := Bd.bytes
  have hml : c.maxLocals = 4 := hml0
  have hown : s.vm.findClass "com/example/forbear/forbear/OutcomeIsRefusalPinLaw" = some m.cls := findClass_of_methodNamed Bd.named
  have hnm := (name_of_methodNamed Bd.named Bd.method).1
  have X0 : Stand p l e room_1 s m #[(.int p1)] below meth c s₁ [] 0 0 := Stand.of_body Bd
  have e0 : s₁.heap = h0 := by rw [← hh, Bd.state]; rfl
  have N0 := Fr.nil n0
  refine own_adv (B := s₁.setTop (mkF m 0 #[.val (.int p1), .unset, .unset, .unset] [])) (fun t k => castTop (own_ef_rm0 m p1) k) ?_
  refine own_adv (B := s₁.setTop (mkF m 1 #[.val (.int p1), .unset, .unset, .unset] [(.int p1)])) (fun t k => XS.iloadN X0.here hx rfl (hb hby at_0) rfl k) ?_
  refine own_adv (B := s₁.setTop (mkF m 2 #[.val (.int p1), .unset, .unset, .unset] [(.int (3 : Int32)), (.int p1)])) (fun t k => XS.iconst X0.here hx rfl (hb hby at_1) k) ?_
  refine own_adv (B := s₁.setTop (mkF m 3 #[.val (.int p1), .unset, .unset, .unset] [(.int (p1 &&& (3 : Int32)))])) (fun t k => XS.iand X0.here hx rfl (hb hby at_2) rfl k) ?_
  refine own_adv (B := s₁.setTop (mkF m 4 #[.val (.int p1), .val (.int (p1 &&& (3 : Int32))), .unset, .unset] [])) (fun t k => XS.istoreN X0.here hx rfl (hb hby at_3) rfl (l' := #[.val (.int p1), .val (.int (p1 &&& (3 : Int32))), .unset, .unset]) rfl k) ?_
  refine own_adv (B := s₁.setTop (mkF m 5 #[.val (.int p1), .val (.int (p1 &&& (3 : Int32))), .unset, .unset] [(.int (p1 &&& (3 : Int32)))])) (fun t k => XS.iloadN X0.here hx rfl (hb hby at_4) rfl k) ?_
  by_cases c0 : (p1 &&& (3 : Int32)) = (0 : Int32)
  · skip
    refine own_adv (B := s₁.setTop (mkF m 8 #[.val (.int p1), .val (.int (p1 &&& (3 : Int32))), .unset, .unset] [])) (fun t k => XS.ifNo X0.here hx rfl (hb hby at_5) rfl ((if0 _ _).trans (teq c0).2) k) ?_
    obtain ⟨T10, X10, e10, st10⟩ := getS2 X0 hx hZ hown (host := "") (Or.inl (hw _ (List.mem_of_getElem? (i := 0) rfl))) Via.refl e0 S_SUCCESS (g := (mkF m 8 #[.val (.int p1), .val (.int (p1 &&& (3 : Int32))), .unset, .unset] [])) rfl (hb hby at_8)
    refine own_adv (B := T10.setTop (mkF m 11 #[.val (.int p1), .val (.int (p1 &&& (3 : Int32))), .unset, .unset] [(.ref w_SUCCESS)])) st10 ?_
    refine own_adv (B := T10.setTop (mkF m 12 #[.val (.int p1), .val (.int (p1 &&& (3 : Int32))), .val (.ref w_SUCCESS), .unset] [])) (fun t k => XS.astoreN X10.here hx rfl (hb hby at_11) rfl rfl (l' := #[.val (.int p1), .val (.int (p1 &&& (3 : Int32))), .val (.ref w_SUCCESS), .unset]) rfl k) ?_
    refine own_adv (B := T10.setTop (mkF m 13 #[.val (.int p1), .val (.int (p1 &&& (3 : Int32))), .val (.ref w_SUCCESS), .unset] [(.int (0 : Int32))])) (fun t k => XS.iconst X10.here hx rfl (hb hby at_12) k) ?_
    refine own_adv (B := T10.setTop (mkF m 14 #[.val (.int p1), .val (.int (p1 &&& (3 : Int32))), .val (.ref w_SUCCESS), .val (.int (0 : Int32))] [])) (fun t k => XS.istoreN X10.here hx rfl (hb hby at_13) rfl (l' := #[.val (.int p1), .val (.int (p1 &&& (3 : Int32))), .val (.ref w_SUCCESS), .val (.int (0 : Int32))]) rfl k) ?_
    refine own_adv (B := T10.setTop (mkF m 51 #[.val (.int p1), .val (.int (p1 &&& (3 : Int32))), .val (.ref w_SUCCESS), .val (.int (0 : Int32))] [])) (fun t k => XS.goto X10.here hx rfl (pc0 := 14) (pc' := 51) rfl (hb hby at_14) (by decide) (by decide) k) ?_
    refine own_adv (B := T10.setTop (mkF m 52 #[.val (.int p1), .val (.int (p1 &&& (3 : Int32))), .val (.ref w_SUCCESS), .val (.int (0 : Int32))] [(.ref w_SUCCESS)])) (fun t k => XS.aloadN X10.here hx rfl (hb hby at_51) rfl rfl k) ?_
    obtain ⟨cq11, kq11, q11a, q11b, q11c⟩ := isOf hZ e10 E_SUCCESS
    obtain ⟨_, _, ⟨T11, L11, k11, n11⟩, -, X11, ⟨Lc11, hQ11, l11, y11, z11⟩, st11⟩ := X10.virtualBack hx (y := (⟨"com/example/forbear/forbear/Outcome", "isRefusal", "()Z"⟩ : MethodName)) (z := (⟨"com/example/forbear/forbear/Outcome", "isRefusal", "()Z"⟩ : MethodName)) hown (mvT hZ (hw _ (List.mem_of_getElem? (i := 3) rfl))) (mvT hZ (hw _ (List.mem_of_getElem? (i := 4) rfl))) (notFace_of_selects (args := #[]) (mvT hZ (hw _ (List.mem_of_getElem? (i := 6) rfl)))) (mvT hZ (hw _ (List.mem_of_getElem? (i := 6) rfl))) (mvT hZ (hw _ (List.mem_of_getElem? (i := 5) rfl))) (by decide) (backOf (W := 0) (rm1 l Z a0 hw [] w_SUCCESS w_SUCCESS (0 : Int32) h0 n0 Z0 S_SUCCESS (Or.inl ⟨rfl, rfl⟩)) hZ (hw _ (List.mem_of_getElem? (i := 7) rfl)) (hw _ (List.mem_of_getElem? (i := 1) rfl)) (by decide) (by decide)) q11a q11c (g := (mkF m 52 #[.val (.int p1), .val (.int (p1 &&& (3 : Int32))), .val (.ref w_SUCCESS), .val (.int (0 : Int32))] [(.ref w_SUCCESS)])) rfl (by rw [hml]; rfl) (Steps.refl _) (argsL := []) (rest := []) (lenOf own_pd___Z rfl) rfl (by show 2 * 0 + _ ≤ _; exact Nat.le_of_eq rfl) (hb hby at_52) (fun _ _ => ⟨rfl, e10, (by decide : 0 + 0 ≤ _), (by decide : 0 + 0 ≤ _)⟩)
    dsimp only [Pt.U, Pt.locs, Pt.cells, Pt.slots] at X11 l11 y11 z11 st11 hQ11
    subst l11 y11 z11
    obtain ⟨rfl, N11q, e11⟩ := hQ11
    have N11 := Fr.app N0 N11q
    refine own_adv (B := T11.setTop (mkF m 55 #[.val (.int p1), .val (.int (p1 &&& (3 : Int32))), .val (.ref w_SUCCESS), .val (.int (0 : Int32))] [(.int (0 : Int32))])) (fun t k => st11.trans k) ?_
    refine own_adv (B := T11.setTop (mkF m 56 #[.val (.int p1), .val (.int (p1 &&& (3 : Int32))), .val (.ref w_SUCCESS), .val (.int (0 : Int32))] [(.int (0 : Int32)), (.int (0 : Int32))])) (fun t k => XS.iloadN X11.here hx rfl (hb hby at_55) rfl k) ?_
    refine own_adv (B := T11.setTop (mkF m 59 #[.val (.int p1), .val (.int (p1 &&& (3 : Int32))), .val (.ref w_SUCCESS), .val (.int (0 : Int32))] [])) (fun t k => XS.icmpNo X11.here hx rfl (hb hby at_56) rfl (teq (rfl : (0 : Int32) = (0 : Int32))).2 k) ?_
    refine own_adv (B := T11.setTop (mkF m 60 #[.val (.int p1), .val (.int (p1 &&& (3 : Int32))), .val (.ref w_SUCCESS), .val (.int (0 : Int32))] [(.int (1 : Int32))])) (fun t k => XS.iconst X11.here hx rfl (hb hby at_59) k) ?_
    refine own_adv (B := T11.setTop (mkF m 64 #[.val (.int p1), .val (.int (p1 &&& (3 : Int32))), .val (.ref w_SUCCESS), .val (.int (0 : Int32))] [(.int (1 : Int32))])) (fun t k => XS.goto X11.here hx rfl (pc0 := 60) (pc' := 64) rfl (hb hby at_60) (by decide) (by decide) k) ?_
    obtain ⟨fs, hr, hrun, hended, hW, hsame⟩ := X11.leave (v := some (.int (1 : Int32))) (fun h => by rw [Bd.returns] at h; cases h)
    refine ⟨_, _, retN X11 hx (t := .boolean) Bd.returns (by simp) (hb hby at_64) hr, hrun, hended, _, _, rfl, ?_, ⟨_, rfl⟩, hW, hsame.mono (by decide) (by decide)⟩
    exact ⟨rfl, N11⟩
  refine own_adv (B := s₁.setTop (mkF m 17 #[.val (.int p1), .val (.int (p1 &&& (3 : Int32))), .unset, .unset] [])) (fun t k => XS.ifYes X0.here hx rfl (pc0 := 5) (pc' := 17) rfl (hb hby at_5) rfl ((if0 _ _).trans (feq c0).2) (by decide) (by decide) k) ?_
  refine own_adv (B := s₁.setTop (mkF m 18 #[.val (.int p1), .val (.int (p1 &&& (3 : Int32))), .unset, .unset] [(.int (p1 &&& (3 : Int32)))])) (fun t k => XS.iloadN X0.here hx rfl (hb hby at_17) rfl k) ?_
  refine own_adv (B := s₁.setTop (mkF m 19 #[.val (.int p1), .val (.int (p1 &&& (3 : Int32))), .unset, .unset] [(.int (1 : Int32)), (.int (p1 &&& (3 : Int32)))])) (fun t k => XS.iconst X0.here hx rfl (hb hby at_18) k) ?_
  by_cases c1 : (p1 &&& (3 : Int32)) = (1 : Int32)
  · skip
    refine own_adv (B := s₁.setTop (mkF m 22 #[.val (.int p1), .val (.int (p1 &&& (3 : Int32))), .unset, .unset] [])) (fun t k => XS.icmpNo X0.here hx rfl (hb hby at_19) rfl (teq c1).2 k) ?_
    obtain ⟨T12, X12, e12, st12⟩ := getS2 X0 hx hZ hown (host := "") (Or.inl (hw _ (List.mem_of_getElem? (i := 13) rfl))) Via.refl e0 S_RATE_LIMITED (g := (mkF m 22 #[.val (.int p1), .val (.int (p1 &&& (3 : Int32))), .unset, .unset] [])) rfl (hb hby at_22)
    refine own_adv (B := T12.setTop (mkF m 25 #[.val (.int p1), .val (.int (p1 &&& (3 : Int32))), .unset, .unset] [(.ref w_RATE_LIMITED)])) st12 ?_
    refine own_adv (B := T12.setTop (mkF m 26 #[.val (.int p1), .val (.int (p1 &&& (3 : Int32))), .val (.ref w_RATE_LIMITED), .unset] [])) (fun t k => XS.astoreN X12.here hx rfl (hb hby at_25) rfl rfl (l' := #[.val (.int p1), .val (.int (p1 &&& (3 : Int32))), .val (.ref w_RATE_LIMITED), .unset]) rfl k) ?_
    refine own_adv (B := T12.setTop (mkF m 27 #[.val (.int p1), .val (.int (p1 &&& (3 : Int32))), .val (.ref w_RATE_LIMITED), .unset] [(.int (1 : Int32))])) (fun t k => XS.iconst X12.here hx rfl (hb hby at_26) k) ?_
    refine own_adv (B := T12.setTop (mkF m 28 #[.val (.int p1), .val (.int (p1 &&& (3 : Int32))), .val (.ref w_RATE_LIMITED), .val (.int (1 : Int32))] [])) (fun t k => XS.istoreN X12.here hx rfl (hb hby at_27) rfl (l' := #[.val (.int p1), .val (.int (p1 &&& (3 : Int32))), .val (.ref w_RATE_LIMITED), .val (.int (1 : Int32))]) rfl k) ?_
    refine own_adv (B := T12.setTop (mkF m 51 #[.val (.int p1), .val (.int (p1 &&& (3 : Int32))), .val (.ref w_RATE_LIMITED), .val (.int (1 : Int32))] [])) (fun t k => XS.goto X12.here hx rfl (pc0 := 28) (pc' := 51) rfl (hb hby at_28) (by decide) (by decide) k) ?_
    refine own_adv (B := T12.setTop (mkF m 52 #[.val (.int p1), .val (.int (p1 &&& (3 : Int32))), .val (.ref w_RATE_LIMITED), .val (.int (1 : Int32))] [(.ref w_RATE_LIMITED)])) (fun t k => XS.aloadN X12.here hx rfl (hb hby at_51) rfl rfl k) ?_
    obtain ⟨cq13, kq13, q13a, q13b, q13c⟩ := isOf hZ e12 E_RATE_LIMITED
    obtain ⟨_, _, ⟨T13, L13, k13, n13⟩, -, X13, ⟨Lc13, hQ13, l13, y13, z13⟩, st13⟩ := X12.virtualBack hx (y := (⟨"com/example/forbear/forbear/Outcome", "isRefusal", "()Z"⟩ : MethodName)) (z := (⟨"com/example/forbear/forbear/Outcome", "isRefusal", "()Z"⟩ : MethodName)) hown (mvT hZ (hw _ (List.mem_of_getElem? (i := 3) rfl))) (mvT hZ (hw _ (List.mem_of_getElem? (i := 4) rfl))) (notFace_of_selects (args := #[]) (mvT hZ (hw _ (List.mem_of_getElem? (i := 6) rfl)))) (mvT hZ (hw _ (List.mem_of_getElem? (i := 6) rfl))) (mvT hZ (hw _ (List.mem_of_getElem? (i := 5) rfl))) (by decide) (backOf (W := 0) (rm1 l Z a0 hw [] w_RATE_LIMITED w_SUCCESS (1 : Int32) h0 n0 Z0 S_SUCCESS (Or.inr ⟨ne_RATE_LIMITED, rfl⟩)) hZ (hw _ (List.mem_of_getElem? (i := 7) rfl)) (hw _ (List.mem_of_getElem? (i := 1) rfl)) (by decide) (by decide)) q13a q13c (g := (mkF m 52 #[.val (.int p1), .val (.int (p1 &&& (3 : Int32))), .val (.ref w_RATE_LIMITED), .val (.int (1 : Int32))] [(.ref w_RATE_LIMITED)])) rfl (by rw [hml]; rfl) (Steps.refl _) (argsL := []) (rest := []) (lenOf own_pd___Z rfl) rfl (by show 2 * 0 + _ ≤ _; exact Nat.le_of_eq rfl) (hb hby at_52) (fun _ _ => ⟨rfl, e12, (by decide : 0 + 0 ≤ _), (by decide : 0 + 0 ≤ _)⟩)
    dsimp only [Pt.U, Pt.locs, Pt.cells, Pt.slots] at X13 l13 y13 z13 st13 hQ13
    subst l13 y13 z13
    obtain ⟨rfl, N13q, e13⟩ := hQ13
    have N13 := Fr.app N0 N13q
    refine own_adv (B := T13.setTop (mkF m 55 #[.val (.int p1), .val (.int (p1 &&& (3 : Int32))), .val (.ref w_RATE_LIMITED), .val (.int (1 : Int32))] [(.int (1 : Int32))])) (fun t k => st13.trans k) ?_
    refine own_adv (B := T13.setTop (mkF m 56 #[.val (.int p1), .val (.int (p1 &&& (3 : Int32))), .val (.ref w_RATE_LIMITED), .val (.int (1 : Int32))] [(.int (1 : Int32)), (.int (1 : Int32))])) (fun t k => XS.iloadN X13.here hx rfl (hb hby at_55) rfl k) ?_
    refine own_adv (B := T13.setTop (mkF m 59 #[.val (.int p1), .val (.int (p1 &&& (3 : Int32))), .val (.ref w_RATE_LIMITED), .val (.int (1 : Int32))] [])) (fun t k => XS.icmpNo X13.here hx rfl (hb hby at_56) rfl (teq (rfl : (1 : Int32) = (1 : Int32))).2 k) ?_
    refine own_adv (B := T13.setTop (mkF m 60 #[.val (.int p1), .val (.int (p1 &&& (3 : Int32))), .val (.ref w_RATE_LIMITED), .val (.int (1 : Int32))] [(.int (1 : Int32))])) (fun t k => XS.iconst X13.here hx rfl (hb hby at_59) k) ?_
    refine own_adv (B := T13.setTop (mkF m 64 #[.val (.int p1), .val (.int (p1 &&& (3 : Int32))), .val (.ref w_RATE_LIMITED), .val (.int (1 : Int32))] [(.int (1 : Int32))])) (fun t k => XS.goto X13.here hx rfl (pc0 := 60) (pc' := 64) rfl (hb hby at_60) (by decide) (by decide) k) ?_
    obtain ⟨fs, hr, hrun, hended, hW, hsame⟩ := X13.leave (v := some (.int (1 : Int32))) (fun h => by rw [Bd.returns] at h; cases h)
    refine ⟨_, _, retN X13 hx (t := .boolean) Bd.returns (by simp) (hb hby at_64) hr, hrun, hended, _, _, rfl, ?_, ⟨_, rfl⟩, hW, hsame.mono (by decide) (by decide)⟩
    exact ⟨rfl, N13⟩
  refine own_adv (B := s₁.setTop (mkF m 31 #[.val (.int p1), .val (.int (p1 &&& (3 : Int32))), .unset, .unset] [])) (fun t k => XS.icmpYes X0.here hx rfl (pc0 := 19) (pc' := 31) rfl (hb hby at_19) rfl (feq c1).2 (by decide) (by decide) k) ?_
  refine own_adv (B := s₁.setTop (mkF m 32 #[.val (.int p1), .val (.int (p1 &&& (3 : Int32))), .unset, .unset] [(.int (p1 &&& (3 : Int32)))])) (fun t k => XS.iloadN X0.here hx rfl (hb hby at_31) rfl k) ?_
  refine own_adv (B := s₁.setTop (mkF m 33 #[.val (.int p1), .val (.int (p1 &&& (3 : Int32))), .unset, .unset] [(.int (2 : Int32)), (.int (p1 &&& (3 : Int32)))])) (fun t k => XS.iconst X0.here hx rfl (hb hby at_32) k) ?_
  by_cases c2 : (p1 &&& (3 : Int32)) = (2 : Int32)
  · skip
    refine own_adv (B := s₁.setTop (mkF m 36 #[.val (.int p1), .val (.int (p1 &&& (3 : Int32))), .unset, .unset] [])) (fun t k => XS.icmpNo X0.here hx rfl (hb hby at_33) rfl (teq c2).2 k) ?_
    obtain ⟨T14, X14, e14, st14⟩ := getS2 X0 hx hZ hown (host := "") (Or.inl (hw _ (List.mem_of_getElem? (i := 11) rfl))) Via.refl e0 S_SERVER_ERROR (g := (mkF m 36 #[.val (.int p1), .val (.int (p1 &&& (3 : Int32))), .unset, .unset] [])) rfl (hb hby at_36)
    refine own_adv (B := T14.setTop (mkF m 39 #[.val (.int p1), .val (.int (p1 &&& (3 : Int32))), .unset, .unset] [(.ref w_SERVER_ERROR)])) st14 ?_
    refine own_adv (B := T14.setTop (mkF m 40 #[.val (.int p1), .val (.int (p1 &&& (3 : Int32))), .val (.ref w_SERVER_ERROR), .unset] [])) (fun t k => XS.astoreN X14.here hx rfl (hb hby at_39) rfl rfl (l' := #[.val (.int p1), .val (.int (p1 &&& (3 : Int32))), .val (.ref w_SERVER_ERROR), .unset]) rfl k) ?_
    refine own_adv (B := T14.setTop (mkF m 41 #[.val (.int p1), .val (.int (p1 &&& (3 : Int32))), .val (.ref w_SERVER_ERROR), .unset] [(.int (1 : Int32))])) (fun t k => XS.iconst X14.here hx rfl (hb hby at_40) k) ?_
    refine own_adv (B := T14.setTop (mkF m 42 #[.val (.int p1), .val (.int (p1 &&& (3 : Int32))), .val (.ref w_SERVER_ERROR), .val (.int (1 : Int32))] [])) (fun t k => XS.istoreN X14.here hx rfl (hb hby at_41) rfl (l' := #[.val (.int p1), .val (.int (p1 &&& (3 : Int32))), .val (.ref w_SERVER_ERROR), .val (.int (1 : Int32))]) rfl k) ?_
    refine own_adv (B := T14.setTop (mkF m 51 #[.val (.int p1), .val (.int (p1 &&& (3 : Int32))), .val (.ref w_SERVER_ERROR), .val (.int (1 : Int32))] [])) (fun t k => XS.goto X14.here hx rfl (pc0 := 42) (pc' := 51) rfl (hb hby at_42) (by decide) (by decide) k) ?_
    refine own_adv (B := T14.setTop (mkF m 52 #[.val (.int p1), .val (.int (p1 &&& (3 : Int32))), .val (.ref w_SERVER_ERROR), .val (.int (1 : Int32))] [(.ref w_SERVER_ERROR)])) (fun t k => XS.aloadN X14.here hx rfl (hb hby at_51) rfl rfl k) ?_
    obtain ⟨cq15, kq15, q15a, q15b, q15c⟩ := isOf hZ e14 E_SERVER_ERROR
    obtain ⟨_, _, ⟨T15, L15, k15, n15⟩, -, X15, ⟨Lc15, hQ15, l15, y15, z15⟩, st15⟩ := X14.virtualBack hx (y := (⟨"com/example/forbear/forbear/Outcome", "isRefusal", "()Z"⟩ : MethodName)) (z := (⟨"com/example/forbear/forbear/Outcome", "isRefusal", "()Z"⟩ : MethodName)) hown (mvT hZ (hw _ (List.mem_of_getElem? (i := 3) rfl))) (mvT hZ (hw _ (List.mem_of_getElem? (i := 4) rfl))) (notFace_of_selects (args := #[]) (mvT hZ (hw _ (List.mem_of_getElem? (i := 6) rfl)))) (mvT hZ (hw _ (List.mem_of_getElem? (i := 6) rfl))) (mvT hZ (hw _ (List.mem_of_getElem? (i := 5) rfl))) (by decide) (backOf (W := 0) (rm1 l Z a0 hw [] w_SERVER_ERROR w_SUCCESS (1 : Int32) h0 n0 Z0 S_SUCCESS (Or.inr ⟨ne_SERVER_ERROR, rfl⟩)) hZ (hw _ (List.mem_of_getElem? (i := 7) rfl)) (hw _ (List.mem_of_getElem? (i := 1) rfl)) (by decide) (by decide)) q15a q15c (g := (mkF m 52 #[.val (.int p1), .val (.int (p1 &&& (3 : Int32))), .val (.ref w_SERVER_ERROR), .val (.int (1 : Int32))] [(.ref w_SERVER_ERROR)])) rfl (by rw [hml]; rfl) (Steps.refl _) (argsL := []) (rest := []) (lenOf own_pd___Z rfl) rfl (by show 2 * 0 + _ ≤ _; exact Nat.le_of_eq rfl) (hb hby at_52) (fun _ _ => ⟨rfl, e14, (by decide : 0 + 0 ≤ _), (by decide : 0 + 0 ≤ _)⟩)
    dsimp only [Pt.U, Pt.locs, Pt.cells, Pt.slots] at X15 l15 y15 z15 st15 hQ15
    subst l15 y15 z15
    obtain ⟨rfl, N15q, e15⟩ := hQ15
    have N15 := Fr.app N0 N15q
    refine own_adv (B := T15.setTop (mkF m 55 #[.val (.int p1), .val (.int (p1 &&& (3 : Int32))), .val (.ref w_SERVER_ERROR), .val (.int (1 : Int32))] [(.int (1 : Int32))])) (fun t k => st15.trans k) ?_
    refine own_adv (B := T15.setTop (mkF m 56 #[.val (.int p1), .val (.int (p1 &&& (3 : Int32))), .val (.ref w_SERVER_ERROR), .val (.int (1 : Int32))] [(.int (1 : Int32)), (.int (1 : Int32))])) (fun t k => XS.iloadN X15.here hx rfl (hb hby at_55) rfl k) ?_
    refine own_adv (B := T15.setTop (mkF m 59 #[.val (.int p1), .val (.int (p1 &&& (3 : Int32))), .val (.ref w_SERVER_ERROR), .val (.int (1 : Int32))] [])) (fun t k => XS.icmpNo X15.here hx rfl (hb hby at_56) rfl (teq (rfl : (1 : Int32) = (1 : Int32))).2 k) ?_
    refine own_adv (B := T15.setTop (mkF m 60 #[.val (.int p1), .val (.int (p1 &&& (3 : Int32))), .val (.ref w_SERVER_ERROR), .val (.int (1 : Int32))] [(.int (1 : Int32))])) (fun t k => XS.iconst X15.here hx rfl (hb hby at_59) k) ?_
    refine own_adv (B := T15.setTop (mkF m 64 #[.val (.int p1), .val (.int (p1 &&& (3 : Int32))), .val (.ref w_SERVER_ERROR), .val (.int (1 : Int32))] [(.int (1 : Int32))])) (fun t k => XS.goto X15.here hx rfl (pc0 := 60) (pc' := 64) rfl (hb hby at_60) (by decide) (by decide) k) ?_
    obtain ⟨fs, hr, hrun, hended, hW, hsame⟩ := X15.leave (v := some (.int (1 : Int32))) (fun h => by rw [Bd.returns] at h; cases h)
    refine ⟨_, _, retN X15 hx (t := .boolean) Bd.returns (by simp) (hb hby at_64) hr, hrun, hended, _, _, rfl, ?_, ⟨_, rfl⟩, hW, hsame.mono (by decide) (by decide)⟩
    exact ⟨rfl, N15⟩
  refine own_adv (B := s₁.setTop (mkF m 45 #[.val (.int p1), .val (.int (p1 &&& (3 : Int32))), .unset, .unset] [])) (fun t k => XS.icmpYes X0.here hx rfl (pc0 := 33) (pc' := 45) rfl (hb hby at_33) rfl (feq c2).2 (by decide) (by decide) k) ?_
  obtain ⟨T16, X16, e16, st16⟩ := getS2 X0 hx hZ hown (host := "") (Or.inl (hw _ (List.mem_of_getElem? (i := 9) rfl))) Via.refl e0 S_TIMEOUT (g := (mkF m 45 #[.val (.int p1), .val (.int (p1 &&& (3 : Int32))), .unset, .unset] [])) rfl (hb hby at_45)
  refine own_adv (B := T16.setTop (mkF m 48 #[.val (.int p1), .val (.int (p1 &&& (3 : Int32))), .unset, .unset] [(.ref w_TIMEOUT)])) st16 ?_
  refine own_adv (B := T16.setTop (mkF m 49 #[.val (.int p1), .val (.int (p1 &&& (3 : Int32))), .val (.ref w_TIMEOUT), .unset] [])) (fun t k => XS.astoreN X16.here hx rfl (hb hby at_48) rfl rfl (l' := #[.val (.int p1), .val (.int (p1 &&& (3 : Int32))), .val (.ref w_TIMEOUT), .unset]) rfl k) ?_
  refine own_adv (B := T16.setTop (mkF m 50 #[.val (.int p1), .val (.int (p1 &&& (3 : Int32))), .val (.ref w_TIMEOUT), .unset] [(.int (1 : Int32))])) (fun t k => XS.iconst X16.here hx rfl (hb hby at_49) k) ?_
  refine own_adv (B := T16.setTop (mkF m 51 #[.val (.int p1), .val (.int (p1 &&& (3 : Int32))), .val (.ref w_TIMEOUT), .val (.int (1 : Int32))] [])) (fun t k => XS.istoreN X16.here hx rfl (hb hby at_50) rfl (l' := #[.val (.int p1), .val (.int (p1 &&& (3 : Int32))), .val (.ref w_TIMEOUT), .val (.int (1 : Int32))]) rfl k) ?_
  refine own_adv (B := T16.setTop (mkF m 52 #[.val (.int p1), .val (.int (p1 &&& (3 : Int32))), .val (.ref w_TIMEOUT), .val (.int (1 : Int32))] [(.ref w_TIMEOUT)])) (fun t k => XS.aloadN X16.here hx rfl (hb hby at_51) rfl rfl k) ?_
  obtain ⟨cq17, kq17, q17a, q17b, q17c⟩ := isOf hZ e16 E_TIMEOUT
  obtain ⟨_, _, ⟨T17, L17, k17, n17⟩, -, X17, ⟨Lc17, hQ17, l17, y17, z17⟩, st17⟩ := X16.virtualBack hx (y := (⟨"com/example/forbear/forbear/Outcome", "isRefusal", "()Z"⟩ : MethodName)) (z := (⟨"com/example/forbear/forbear/Outcome", "isRefusal", "()Z"⟩ : MethodName)) hown (mvT hZ (hw _ (List.mem_of_getElem? (i := 3) rfl))) (mvT hZ (hw _ (List.mem_of_getElem? (i := 4) rfl))) (notFace_of_selects (args := #[]) (mvT hZ (hw _ (List.mem_of_getElem? (i := 6) rfl)))) (mvT hZ (hw _ (List.mem_of_getElem? (i := 6) rfl))) (mvT hZ (hw _ (List.mem_of_getElem? (i := 5) rfl))) (by decide) (backOf (W := 0) (rm1 l Z a0 hw [] w_TIMEOUT w_SUCCESS (1 : Int32) h0 n0 Z0 S_SUCCESS (Or.inr ⟨ne_TIMEOUT, rfl⟩)) hZ (hw _ (List.mem_of_getElem? (i := 7) rfl)) (hw _ (List.mem_of_getElem? (i := 1) rfl)) (by decide) (by decide)) q17a q17c (g := (mkF m 52 #[.val (.int p1), .val (.int (p1 &&& (3 : Int32))), .val (.ref w_TIMEOUT), .val (.int (1 : Int32))] [(.ref w_TIMEOUT)])) rfl (by rw [hml]; rfl) (Steps.refl _) (argsL := []) (rest := []) (lenOf own_pd___Z rfl) rfl (by show 2 * 0 + _ ≤ _; exact Nat.le_of_eq rfl) (hb hby at_52) (fun _ _ => ⟨rfl, e16, (by decide : 0 + 0 ≤ _), (by decide : 0 + 0 ≤ _)⟩)
  dsimp only [Pt.U, Pt.locs, Pt.cells, Pt.slots] at X17 l17 y17 z17 st17 hQ17
  subst l17 y17 z17
  obtain ⟨rfl, N17q, e17⟩ := hQ17
  have N17 := Fr.app N0 N17q
  refine own_adv (B := T17.setTop (mkF m 55 #[.val (.int p1), .val (.int (p1 &&& (3 : Int32))), .val (.ref w_TIMEOUT), .val (.int (1 : Int32))] [(.int (1 : Int32))])) (fun t k => st17.trans k) ?_
  refine own_adv (B := T17.setTop (mkF m 56 #[.val (.int p1), .val (.int (p1 &&& (3 : Int32))), .val (.ref w_TIMEOUT), .val (.int (1 : Int32))] [(.int (1 : Int32)), (.int (1 : Int32))])) (fun t k => XS.iloadN X17.here hx rfl (hb hby at_55) rfl k) ?_
  refine own_adv (B := T17.setTop (mkF m 59 #[.val (.int p1), .val (.int (p1 &&& (3 : Int32))), .val (.ref w_TIMEOUT), .val (.int (1 : Int32))] [])) (fun t k => XS.icmpNo X17.here hx rfl (hb hby at_56) rfl (teq (rfl : (1 : Int32) = (1 : Int32))).2 k) ?_
  refine own_adv (B := T17.setTop (mkF m 60 #[.val (.int p1), .val (.int (p1 &&& (3 : Int32))), .val (.ref w_TIMEOUT), .val (.int (1 : Int32))] [(.int (1 : Int32))])) (fun t k => XS.iconst X17.here hx rfl (hb hby at_59) k) ?_
  refine own_adv (B := T17.setTop (mkF m 64 #[.val (.int p1), .val (.int (p1 &&& (3 : Int32))), .val (.ref w_TIMEOUT), .val (.int (1 : Int32))] [(.int (1 : Int32))])) (fun t k => XS.goto X17.here hx rfl (pc0 := 60) (pc' := 64) rfl (hb hby at_60) (by decide) (by decide) k) ?_
  obtain ⟨fs, hr, hrun, hended, hW, hsame⟩ := X17.leave (v := some (.int (1 : Int32))) (fun h => by rw [Bd.returns] at h; cases h)
  refine ⟨_, _, retN X17 hx (t := .boolean) Bd.returns (by simp) (hb hby at_64) hr, hrun, hended, _, _, rfl, ?_, ⟨_, rfl⟩, hW, hsame.mono (by decide) (by decide)⟩
  exact ⟨rfl, N17⟩
set_option maxRecDepth 65536 in
set_option maxHeartbeats 40000000 in
theorem comes_1 {Post : Tables → Env → Array Value → State → Outcome → State → Prop} (hpost : ∀ tb e args s v u, (limb_1_1.after args s (.returned v) u = true ∧ limb_1_2.after args s (.returned v) u = true ∧ True) → FrameEnd s (.returned v) u (Jvm.fieldLocs frame_1_writes args s ++ Jvm.arrayLocs frame_1_arrays args s ++ Jvm.staticLocs frame_1_statics s) 0 0 → Post tb e args s (.returned v) u) :
    ArmFor flags0 classFile x code maxLocals ret World_1 tables_1 room_1 Calls_1 rest_1 Pre_1 Post := by
  intro l hfl _ _ p e ha hc hk s m args below hf hA hF happ hP
  obtain ⟨hcalls, hrest, hpre⟩ := hP
  obtain ⟨-, -, -, hnamed, -, -, -, hat⟩ := (Spec.applies_iff hf).mp happ
  obtain ⟨hg, hn⟩ := and_e (Cond.before_iff.mp (show (Jvm.Cond.and given_1 narrow_1).before args s = true from hpre))
  obtain ⟨gc, g0⟩ := and_e hg
  obtain ⟨w0, rfl⟩ : ∃ w0 : Value, args = #[w0] := by
    have hs : args.size = 1 := by simpa [Cond.value, given_1] using gc
    obtain ⟨L⟩ := args
    match L, hs with
    | [w0], _ => exact ⟨w0, rfl⟩
  have hw := fun d (hd : d ∈ tables_1) => atoms_spec (ws := Jvm.Cond.code x code maxLocals ret :: tables_1) hat d (List.mem_cons_of_mem _ hd)
  obtain ⟨i0, ei0⟩ := is_v g0
  obtain rfl : w0 = (.int i0) := Option.some.inj ei0
  obtain ⟨c0, n0⟩ := and_e hn
  obtain ⟨c1, n1⟩ := and_e n0
  obtain ⟨c2, n2⟩ := and_e n1
  obtain ⟨c3, n3⟩ := and_e n2
  obtain ⟨c4, n4⟩ := and_e n3
  obtain ⟨c5, n5⟩ := and_e n4
  obtain ⟨c6, n6⟩ := and_e n5
  obtain ⟨w_SUCCESS, v_SUCCESS⟩ := exa_v c0
  have E_SUCCESS := Exa.start v_SUCCESS c0
  have S_SUCCESS := Sta.start v_SUCCESS (Or.inr ⟨(hw _ (List.mem_of_getElem? (i := 1) rfl)), (hw _ (List.mem_of_getElem? (i := 2) rfl))⟩)
  obtain ⟨w_TIMEOUT, v_TIMEOUT⟩ := exa_v c1
  have E_TIMEOUT := Exa.start v_TIMEOUT c1
  have S_TIMEOUT := Sta.start v_TIMEOUT (Or.inr ⟨(hw _ (List.mem_of_getElem? (i := 1) rfl)), (hw _ (List.mem_of_getElem? (i := 10) rfl))⟩)
  obtain ⟨w_SERVER_ERROR, v_SERVER_ERROR⟩ := exa_v c4
  have E_SERVER_ERROR := Exa.start v_SERVER_ERROR c4
  have S_SERVER_ERROR := Sta.start v_SERVER_ERROR (Or.inr ⟨(hw _ (List.mem_of_getElem? (i := 1) rfl)), (hw _ (List.mem_of_getElem? (i := 12) rfl))⟩)
  obtain ⟨w_RATE_LIMITED, v_RATE_LIMITED⟩ := exa_v c6
  have E_RATE_LIMITED := Exa.start v_RATE_LIMITED c6
  have S_RATE_LIMITED := Sta.start v_RATE_LIMITED (Or.inr ⟨(hw _ (List.mem_of_getElem? (i := 1) rfl)), (hw _ (List.mem_of_getElem? (i := 14) rfl))⟩)
  have F_ordinal_TIMEOUT := own_feqi v_TIMEOUT c2
  have F_ordinal_SUCCESS := own_feqi v_SUCCESS c3
  have F_ordinal_SERVER_ERROR := own_feqi v_SERVER_ERROR c5
  have F_ordinal_RATE_LIMITED := own_feqi v_RATE_LIMITED n6
  have ne_RATE_LIMITED : ¬ (w_RATE_LIMITED = w_SUCCESS) := Fld.ne F_ordinal_RATE_LIMITED F_ordinal_SUCCESS (by simp)
  have ne_SERVER_ERROR : ¬ (w_SERVER_ERROR = w_SUCCESS) := Fld.ne F_ordinal_SERVER_ERROR F_ordinal_SUCCESS (by simp)
  have ne_TIMEOUT : ¬ (w_TIMEOUT = w_SUCCESS) := Fld.ne F_ordinal_TIMEOUT F_ordinal_SUCCESS (by simp)
  obtain ⟨n, o, h1, h2, h3, _, L, rfl, ⟨rfl, N⟩, hq⟩ := rm0 l s _ hw tables_1 i0 w_SUCCESS w_RATE_LIMITED w_SERVER_ERROR w_TIMEOUT s.heap s.heap.size (Nat.le_refl _) S_SUCCESS S_RATE_LIMITED S_SERVER_ERROR S_TIMEOUT E_SUCCESS E_RATE_LIMITED E_SERVER_ERROR E_TIMEOUT ne_RATE_LIMITED ne_SERVER_ERROR ne_TIMEOUT p e ha hc hk s m _ below hf ((Spec.applies_iff_loose hf).mp happ).1 ⟨rfl, State.Warmed39.refl s, rfl⟩ trivial
  exact ⟨n, _, h1, h2, h3, hpost _ _ _ _ _ _ ⟨Cond.after_iff.mpr rfl, Cond.after_iff.mpr (eq_i res_at (Term.int_eval (1)) rfl), trivial⟩ ⟨hq.1, hq.2.1, (hq.2.2.sift fun y hy => Or.inr (N y hy)).mono (by decide) (by decide)⟩⟩
theorem main_1_1 : Claimed_1_1 := comes_1 fun _ _ _ _ _ _ h hF => ⟨h.1, hF⟩
theorem main_1_2 : Claimed_1_2 := comes_1 fun _ _ _ _ _ _ h hF => ⟨h.2.1, hF⟩
end Jvm.Pilot.@@N@@
namespace Jvm.Pilot.@@N@@
open Jvm Jvm.ClassFile Sem Op Lib Jvm.Free Jvm.Stand Jvm.Pilot.@@N@@.Jvm.D
/-! MADE BY PROGRAM (witnessworld.py) out of the Statement's table words and the real class files: 12 classes; the members and pool entries that the words name. The judged class is class 1, her method 1. -/
namespace start1
open Jvm.ClassFile
def u (s : String) : CpInfo := .utf8 (stringToUtf16 s)
/-- a pool by its gaps: so many unusable entries, then the entry; so many at the end -/
def gap : Nat → List CpInfo → List CpInfo
  | 0, r => r
  | n + 1, r => .unusable :: gap n r
def poolList (es : List (Nat × CpInfo)) (last : Nat) : List CpInfo := es.foldr (fun e r => gap e.1 (e.2 :: r)) (gap last [])
def pool (es : List (Nat × CpInfo)) (last : Nat) : Array CpInfo := ⟨poolList es last⟩
def fileOf (pool : Array CpInfo) (this : Nat) (attrs : Array Attribute := #[]) (ms : Array MethodInfo := #[]) (fl : Nat := 33) (sup : Nat := 0) (ifs : Array Nat := #[]) (fds : Array FieldInfo := #[]) : ClassFile where
  minorVersion := 0
  majorVersion := 65
  constantPool := pool
  accessFlags := fl
  thisClass := this
  superClass := sup
  interfaces := ifs
  fields := fds
  methods := ms
  attributes := attrs
def plain (name : String) (sup : Option ClassId) : Class where
  name := name
  kind := .ordinary
  loader := none
  accessFlags := 33
  super := sup
  interfaces := #[]
  cf := none
  fields := #[]
  methods := #[]
  instanceTypes := #[]
  staticTypes := #[]
  resolved := #[]
  callSites := []
  init := .initialized
  statics := none
  mirror := none

def pool0 : Array CpInfo := pool [(5, u "<init>"), (0, u "()V"), (1, .class_ 10), (1, u "java/lang/Object")] 113

def k0m0 : Method := { name := "<init>", desc := "()V", sig := { parameters := [], returnType := none }, accessFlags := 1, code := none }
/-- java/lang/Object -/
def k0 : Class := { plain "java/lang/Object" none with
  accessFlags := 33
  interfaces := #[]
  cf := some (fileOf pool0 8 #[] #[{ accessFlags := 1, nameIndex := 5, descriptorIndex := 6, attributes := #[] }] 33 0 #[] #[])
  fields := #[]
  methods := #[k0m0]
  instanceTypes := #[]
  staticTypes := #[]
  resolved := Array.replicate 124 none
  statics := none }

def pool1 : Array CpInfo := pool [(2, .class_ 4), (1, u "java/lang/Object"), (0, u "<init>"), (0, u "()V"), (0, .fieldref 8 9), (0, .class_ 10), (0, .nameAndType 11 12), (0, u "com/example/forbear/forbear/Outcome"), (0, u "SUCCESS"), (0, u "Lcom/example/forbear/forbear/Outcome;"), (0, .fieldref 8 14), (0, .nameAndType 15 12), (0, u "RATE_LIMITED"), (0, .fieldref 8 17), (0, .nameAndType 18 12), (0, u "SERVER_ERROR"), (0, .fieldref 8 20), (0, .nameAndType 21 12), (0, u "TIMEOUT"), (0, .methodref 8 23), (0, .nameAndType 24 25), (0, u "isRefusal"), (0, u "()Z"), (0, .class_ 27), (0, u "com/example/forbear/forbear/OutcomeIsRefusalPinLaw"), (2, u "law"), (0, u "(I)Z")] 3

def k1m0 : Method := { name := "<init>", desc := "()V", sig := { parameters := [], returnType := none }, accessFlags := 1, code := none }
def k1c1 : Code := { maxStack := 2, maxLocals := 4, code := code, exceptionTable := #[], attributes := #[] }
def k1m1 : Method := { name := "law", desc := "(I)Z", sig := { parameters := [.int], returnType := some .boolean }, accessFlags := 9, code := some k1c1 }
/-- com/example/forbear/forbear/OutcomeIsRefusalPinLaw -/
def k1 : Class := { plain "com/example/forbear/forbear/OutcomeIsRefusalPinLaw" (some 0) with
  accessFlags := 49
  interfaces := #[]
  cf := some (fileOf pool1 26 #[] #[{ accessFlags := 1, nameIndex := 5, descriptorIndex := 6, attributes := #[] }, { accessFlags := 9, nameIndex := 30, descriptorIndex := 31, attributes := #[] }] 49 2 #[] #[])
  fields := #[]
  methods := #[k1m0, k1m1]
  instanceTypes := #[]
  staticTypes := #[]
  resolved := Array.replicate 35 none
  statics := none }

def pool2 : Array CpInfo := pool [(1, .class_ 2), (0, u "java/lang/constant/Constable"), (0, .class_ 4), (0, u "java/lang/Object")] 6

/-- java/lang/constant/Constable -/
def k2 : Class := { plain "java/lang/constant/Constable" (some 0) with
  accessFlags := 1537
  interfaces := #[]
  cf := some (fileOf pool2 1 #[] #[] 1537 3 #[] #[])
  fields := #[]
  methods := #[]
  instanceTypes := #[]
  staticTypes := #[]
  resolved := Array.replicate 11 none
  statics := none }

def pool3 : Array CpInfo := pool [(1, .class_ 2), (0, u "java/lang/Comparable"), (0, .class_ 4), (0, u "java/lang/Object")] 7

/-- java/lang/Comparable -/
def k3 : Class := { plain "java/lang/Comparable" (some 0) with
  accessFlags := 1537
  interfaces := #[]
  cf := some (fileOf pool3 1 #[] #[] 1537 3 #[] #[])
  fields := #[]
  methods := #[]
  instanceTypes := #[]
  staticTypes := #[]
  resolved := Array.replicate 12 none
  statics := none }

def pool4 : Array CpInfo := pool [(1, .class_ 2), (0, u "java/io/Serializable"), (0, .class_ 4), (0, u "java/lang/Object")] 2

/-- java/io/Serializable -/
def k4 : Class := { plain "java/io/Serializable" (some 0) with
  accessFlags := 1537
  interfaces := #[]
  cf := some (fileOf pool4 1 #[] #[] 1537 3 #[] #[])
  fields := #[]
  methods := #[]
  instanceTypes := #[]
  staticTypes := #[]
  resolved := Array.replicate 7 none
  statics := none }

def pool5 : Array CpInfo := pool [(2, .class_ 4), (1, u "java/lang/Enum"), (0, u "name"), (0, u "Ljava/lang/String;"), (2, u "ordinal"), (0, u "I"), (1, .class_ 14), (1, u "java/lang/Object"), (4, u "hash"), (86, .class_ 108), (1, u "java/lang/Enum$EnumDesc"), (2, .class_ 112), (0, u "java/lang/constant/Constable"), (0, .class_ 114), (0, u "java/lang/Comparable"), (0, .class_ 116), (0, u "java/io/Serializable")] 87

/-- java/lang/Enum -/
def k5 : Class := { plain "java/lang/Enum" (some 0) with
  accessFlags := 1057
  interfaces := #[2, 3, 4]
  cf := some (fileOf pool5 2 #[.nestMembers #[106]] #[] 1057 12 #[111, 113, 115] #[{ accessFlags := 18, nameIndex := 5, descriptorIndex := 6, attributes := #[] }, { accessFlags := 18, nameIndex := 9, descriptorIndex := 10, attributes := #[] }, { accessFlags := 2, nameIndex := 19, descriptorIndex := 10, attributes := #[] }])
  fields := #[{ name := "name", type := (.object "java/lang/String"), accessFlags := 18, slot := 0, constantValue := 0 }, { name := "ordinal", type := .int, accessFlags := 18, slot := 1, constantValue := 0 }, { name := "hash", type := .int, accessFlags := 2, slot := 2, constantValue := 0 }]
  methods := #[]
  instanceTypes := #[(.object "java/lang/String"), .int, .int]
  staticTypes := #[]
  resolved := Array.replicate 204 none
  statics := none }

def pool6 : Array CpInfo := pool [(1, .class_ 2), (0, u "com/example/forbear/forbear/Outcome"), (0, .fieldref 1 4), (0, .nameAndType 5 6), (0, u "SUCCESS"), (0, u "Lcom/example/forbear/forbear/Outcome;"), (2, u "RATE_LIMITED"), (2, u "SERVER_ERROR"), (2, u "TIMEOUT"), (2, u "$VALUES"), (0, u "[Lcom/example/forbear/forbear/Outcome;"), (6, .class_ 28), (1, u "java/lang/Enum"), (15, u "TOO_MANY_REQUESTS"), (0, u "I"), (12, u "isRefusal"), (0, u "()Z")] 4

def k6c0 : Code := { maxStack := 2, maxLocals := 1, code := prog_7_method_5_code, exceptionTable := #[], attributes := #[] }
def k6m0 : Method := { name := "isRefusal", desc := "()Z", sig := { parameters := [], returnType := some .boolean }, accessFlags := 0, code := some k6c0 }
/-- com/example/forbear/forbear/Outcome -/
def k6 : Class := { plain "com/example/forbear/forbear/Outcome" (some 5) with
  accessFlags := 16433
  interfaces := #[]
  cf := some (fileOf pool6 1 #[] #[{ accessFlags := 0, nameIndex := 58, descriptorIndex := 59, attributes := #[] }] 16433 26 #[] #[{ accessFlags := 16409, nameIndex := 5, descriptorIndex := 6, attributes := #[] }, { accessFlags := 16409, nameIndex := 9, descriptorIndex := 6, attributes := #[] }, { accessFlags := 16409, nameIndex := 12, descriptorIndex := 6, attributes := #[] }, { accessFlags := 16409, nameIndex := 15, descriptorIndex := 6, attributes := #[] }, { accessFlags := 26, nameIndex := 44, descriptorIndex := 45, attributes := #[] }, { accessFlags := 4122, nameIndex := 18, descriptorIndex := 19, attributes := #[] }])
  fields := #[{ name := "SUCCESS", type := (.object "com/example/forbear/forbear/Outcome"), accessFlags := 16409, slot := 0, constantValue := 0 }, { name := "RATE_LIMITED", type := (.object "com/example/forbear/forbear/Outcome"), accessFlags := 16409, slot := 1, constantValue := 0 }, { name := "SERVER_ERROR", type := (.object "com/example/forbear/forbear/Outcome"), accessFlags := 16409, slot := 2, constantValue := 0 }, { name := "TIMEOUT", type := (.object "com/example/forbear/forbear/Outcome"), accessFlags := 16409, slot := 3, constantValue := 0 }, { name := "TOO_MANY_REQUESTS", type := .int, accessFlags := 26, slot := 4, constantValue := 0 }, { name := "$VALUES", type := (.array (.object "com/example/forbear/forbear/Outcome")), accessFlags := 4122, slot := 5, constantValue := 0 }]
  methods := #[k6m0]
  instanceTypes := #[(.object "java/lang/String"), .int, .int]
  staticTypes := #[(.object "com/example/forbear/forbear/Outcome"), (.object "com/example/forbear/forbear/Outcome"), (.object "com/example/forbear/forbear/Outcome"), (.object "com/example/forbear/forbear/Outcome"), .int, (.array (.object "com/example/forbear/forbear/Outcome"))]
  resolved := Array.replicate 64 none
  statics := some 0 }

def pool7 : Array CpInfo := pool [(1, u "java/lang/Cloneable"), (0, .class_ 1), (0, u "java/lang/Object"), (0, .class_ 3)] 3

/-- java/lang/Cloneable -/
def k7 : Class := { plain "java/lang/Cloneable" (some 0) with
  accessFlags := 1537
  interfaces := #[]
  cf := some (fileOf pool7 2 #[] #[] 1537 4 #[] #[])
  fields := #[]
  methods := #[]
  instanceTypes := #[]
  staticTypes := #[]
  resolved := Array.replicate 8 none
  statics := none }

/-- the primitive byte -/
def k8 : Class := { plain "byte" none with kind := .primitive 'B', accessFlags := 0x411 }
/-- [B -/
def k9 : Class := { plain "[B" (some 0) with kind := .array 8 .byte, interfaces := #[7, 4], accessFlags := 1041 }

/-- the primitive int -/
def k10 : Class := { plain "int" none with kind := .primitive 'I', accessFlags := 0x411 }
/-- [I -/
def k11 : Class := { plain "[I" (some 0) with kind := .array 10 .int, interfaces := #[7, 4], accessFlags := 1041 }

def heap : Heap := #[{ cls := 6, slots := #[.ref 1, .ref 4, .ref 3, .ref 2, .int 0, .null], vm := .statics 6 },
  { cls := 6, slots := #[.null, .int 0, .int 0], vm := .none },
  { cls := 6, slots := #[.null, .int 3, .int 0], vm := .none },
  { cls := 6, slots := #[.null, .int 2, .int 0], vm := .none },
  { cls := 6, slots := #[.null, .int 1, .int 0], vm := .none }]
def classes : Array Class := #[k0, k1, k2, k3, k4, k5, k6, k7, k8, k9, k10, k11]
def interned : List (Array UInt16 × Addr) := []
def slotsUsed : Nat := 18
def theMethod : MethodId := ⟨1, 1⟩
def args0 : Array Value := #[.int 5]
def aboutOver (below : List Frame) : State where
  vm := { classes := classes, interned := interned.toArray }
  heap := heap
  slotsUsed := slotsUsed
  threads := #[{ frames := .invoking theMethod args0 :: below }]
def below0 : List Frame := [.native { method := ⟨0, 0⟩, args := #[] }]
def about1 : State := aboutOver below0
def p0 : Program := .bare "" "" ""
def e0 : Env := launch0.env 0 0 0
theorem w_frames : about1.frames = Frame.invoking theMethod args0 :: below0 := rfl
set_option maxRecDepth 65536 in
theorem w_args : argsFit about1.vm theMethod args0 = true := by decide +kernel
set_option maxRecDepth 65536 in
theorem w_heap : heapFits about1 = true := by decide +kernel
set_option maxRecDepth 65536 in
theorem w_runnable : about1.curStatus? = some .runnable := by decide +kernel
set_option maxRecDepth 65536 in
theorem w_alone : about1.alone = true := by decide +kernel
set_option maxRecDepth 65536 in
theorem w_named : about1.methodNamed? x = some theMethod := by decide +kernel
set_option maxRecDepth 65536 in
theorem w_hears : about1.hears theMethod below0 = true := by decide +kernel
set_option maxRecDepth 65536 in
theorem w_ripe : about1.ripe theMethod args0 below0 = true := by decide +kernel
theorem w_running : about1.status = .running := rfl
set_option maxRecDepth 65536 in
theorem w_room : about1.hasRoom e0.platform room_1 = true :=
  launch0.hasRoom_least _ room_1 (by decide +kernel) (by decide +kernel) (by decide +kernel) (by decide +kernel) (by decide +kernel) (by decide +kernel)
theorem allAtoms_all (ts : List Jvm.Cond) (a : Array Jvm.Value) (st : Jvm.State) : (allAtoms ts).before a st = ts.all (fun c => c.before a st) := by
  induction ts with
  | nil => rfl
  | cons c t ih =>
    show (Jvm.Cond.and c (allAtoms t)).before a st = _
    rw [Jvm.Cond.before_and, ih, List.all_cons]
def words1 : List Jvm.Cond := Jvm.Cond.code x code maxLocals ret :: tables_1
/-- a 'code' word, met by the world's own term for the bytes: nothing is compared byte by byte -/
theorem code_word {y : MethodName} {bytes : ByteArray} {mx : Nat} {rt : Option FieldType} {a : Array Value} {s : State} {m : MethodId} {meth : Method} {c : Code} (h1 : s.methodNamed? y = some m) (h2 : s.vm.method? m = some meth) (h3 : meth.code = some c) (h4 : c.code = bytes)
    (h5 : (c.maxLocals == mx && c.exceptionTable.isEmpty && decide (c.maxStack ≤ mostOperands) && decide (meth.sig.returnType = rt) && !meth.locks && decide (parseMethodDescriptor y.desc = some meth.sig)) = true) : (Jvm.Cond.code y bytes mx rt).before a s = true := by
  simp only [Bool.and_eq_true, beq_iff_eq, Bool.not_eq_true', decide_eq_true_eq] at h5
  obtain ⟨⟨⟨⟨⟨g1, g2⟩, g3⟩, g4⟩, g5⟩, g6⟩ := h5
  simp [Cond.before, Cond.holds, Cond.value, h1, h2, h3, h4, g1, g2, g3, g4, g5, g6]
def isCode : Jvm.Cond → Bool
  | .code _ _ _ _ => true
  | _ => false
theorem all_split {L : List Jvm.Cond} {P : Jvm.Cond → Bool} (h1 : L.all (fun c => isCode c || P c) = true) (h2 : ∀ c ∈ L.filter isCode, P c = true) : L.all P = true := by
  refine List.all_eq_true.mpr fun c hc => ?_
  have h := List.all_eq_true.mp h1 c hc
  rcases Bool.eq_false_or_eq_true (isCode c) with hi | hi
  · exact h2 c (List.mem_filter.mpr ⟨hc, hi⟩)
  · simpa [hi] using h
set_option maxRecDepth 65536 in
theorem w_c0 : (Jvm.Cond.code x code maxLocals ret).before args0 about1 = true := code_word (m := ⟨1, 1⟩) (meth := k1m1) (c := k1c1) (by decide +kernel) rfl rfl rfl (by decide +kernel)
set_option maxRecDepth 65536 in
theorem w_c1 : (Jvm.Cond.code ({ cls := "com/example/forbear/forbear/Outcome", name := "isRefusal", desc := "()Z" } : Jvm.MethodName) prog_7_method_5_code (1 : Nat) (Option.some Jvm.ClassFile.FieldType.boolean)).before args0 about1 = true := code_word (m := ⟨6, 0⟩) (meth := k6m0) (c := k6c0) (by decide +kernel) rfl rfl rfl (by decide +kernel)
def codes1 : List Jvm.Cond := [Jvm.Cond.code x code maxLocals ret, Jvm.Cond.code ({ cls := "com/example/forbear/forbear/Outcome", name := "isRefusal", desc := "()Z" } : Jvm.MethodName) prog_7_method_5_code (1 : Nat) (Option.some Jvm.ClassFile.FieldType.boolean)]
set_option maxRecDepth 65536 in
theorem codes_eq : words1.filter isCode = codes1 := rfl
theorem w_codes : ∀ c ∈ words1.filter isCode, c.before args0 about1 = true := by
  rw [codes_eq]
  intro c hc
  simp only [codes1, List.mem_cons, List.not_mem_nil, or_false] at hc
  rcases hc with rfl | rfl
  · exact w_c0
  · exact w_c1
set_option maxRecDepth 65536 in
theorem w_t1 : words1.all (fun c => isCode c || c.before args0 about1) = true := by decide +kernel
theorem w_tables : (allAtoms (Jvm.Cond.code x code maxLocals ret :: tables_1)).before args0 about1 = true := by
  rw [allAtoms_all]
  show words1.all (fun c => c.before args0 about1) = true
  refine all_split ?_ w_codes
  rw [w_t1]
set_option maxRecDepth 65536 in
theorem w_case : (Jvm.Cond.and given_1 narrow_1).before args0 about1 = true := by decide +kernel
theorem w_applies : (headSpec (Jvm.Cond.code x code maxLocals ret :: tables_1) room_1).applies x e0.platform about1 = true :=
  (Spec.applies_iff w_frames).mpr ⟨w_running, w_runnable, w_alone, w_named, w_hears, w_ripe, w_room, w_tables⟩
theorem atStart : AtStart classFile x code maxLocals ret World_1 tables_1 room_1 Calls_1 rest_1 Pre_1 launch0 p0 e0 about1 theMethod args0 below0 :=
  ⟨lists_1, trivial, launch0.admits_env _ _ _, launch0.least_env, fairChoices_fair.cas, fairChoices_fair.clock, w_frames, w_args, w_heap, w_applies, trivial, trivial, w_case⟩
end start1
theorem witness_1 : WitnessClaimed_1 := ⟨start1.p0, start1.e0, start1.about1, start1.theMethod, start1.args0, start1.below0, start1.atStart⟩
end Jvm.Pilot.@@N@@
