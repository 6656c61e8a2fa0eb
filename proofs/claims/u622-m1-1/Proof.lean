import JvmDerived
import JvmDerived.Pilot.@@N@@Statement
import JvmDerived.Pilot.@@N@@Code
set_option linter.unusedVariables false
set_option linter.unusedSimpArgs false
namespace Jvm.Pilot.@@N@@
open Jvm Jvm.ClassFile Sem Op Lib Jvm.Free Jvm.Stand Jvm.LawKit Jvm.RoadKit Bundle Jvm.Pilot.@@N@@.Jvm.D
theorem own_adv {tb : Tables} {e : Env} {below : List Frame} {A B : State} {P : State → Outcome → Prop} (h : ∀ t, Steps tb e below B t → Steps tb e below A t) (k : ∃ s₂ o, Steps tb e below B s₂ ∧ P s₂ o) : ∃ s₂ o, Steps tb e below A s₂ ∧ P s₂ o := by
  obtain ⟨a, b, c, d⟩ := k
  exact ⟨a, b, h a c, d⟩
theorem own_feqi {args : Array Value} {s : State} {t : Term} {C n d : String} {k : Int32} {x : Addr} (ht : t.eval args s none [] s = some (.ref x)) (h : (Cond.eq (.field t C n d) (.int k)).value args s none s [] = some true) : Fld s s.heap x C n d (.int k) := by
  refine Fld.start ?_
  have hf := fld_at (C := C) (n := n) (dd := d) ht
  obtain ⟨x1, y1, e1, e2, k1, k2⟩ := cmp_v (Or.inl h)
  have e3 : y1 = .int k := Option.some.inj (e2.symm.trans (Term.int_eval k))
  subst e3
  obtain ⟨z, rfl⟩ := k2
  simp [Cond.value, e1, e2] at h
  rw [← hf, e1, h]
theorem own_feqr {args : Array Value} {s : State} {t u : Term} {C n d : String} {x y : Addr} (ht : t.eval args s none [] s = some (.ref x)) (hu : u.eval args s none [] s = some (.ref y)) (h : (Cond.eq (.field t C n d) u).value args s none s [] = some true) : Fld s s.heap x C n d (.ref y) := by
  refine Fld.start ?_
  have hf := fld_at (C := C) (n := n) (dd := d) ht
  obtain ⟨x1, y1, e1, e2, k1, k2⟩ := cmp_v (Or.inl h)
  have e3 : y1 = .ref y := Option.some.inj (e2.symm.trans hu)
  subst e3
  have r := k2.2
  rcases ref_cases r with rfl | ⟨z, rfl⟩
  · simp [Cond.value, e1, e2] at h
  · simp [Cond.value, e1, e2] at h
    rw [← hf, e1, h]
theorem own_pn_com_example_kharman_kharman_DeliveryStatus : plainName "com/example/kharman/kharman/DeliveryStatus" = true := by first | (simp [plainName, overriddenIn]; done) | decide +kernel
theorem own_ef_rm1 (m : MethodId) (x0 : Int32) (x1 : Int32) : entryFrame m #[(.int x0), (.int x1)] 3 = mkF m 0 #[.val (.int x0), .val (.int x1), .unset] [] := by first | (simp [entryFrame, mkF, argsToLocals, Value.category, maxLocals]; done) | rfl
theorem own_d1_0 : decode prog_12_method_5_code 0 = .ok (.iload_n 0, 1) := by decide +kernel
theorem own_d1_1 : decode prog_12_method_5_code 1 = .ok (.ifCond .eq 14, 3) := by decide +kernel
theorem own_d1_4 : decode prog_12_method_5_code 4 = .ok (.iload_n 1, 1) := by decide +kernel
theorem own_d1_5 : decode prog_12_method_5_code 5 = .ok (.ifCond .eq 10, 3) := by decide +kernel
theorem own_d1_8 : decode prog_12_method_5_code 8 = .ok (.getstatic 7, 3) := by decide +kernel
theorem own_d1_11 : decode prog_12_method_5_code 11 = .ok (.astore_n 2, 1) := by decide +kernel
theorem own_d1_12 : decode prog_12_method_5_code 12 = .ok (.goto 29, 3) := by decide +kernel
theorem own_d1_41 : decode prog_12_method_5_code 41 = .ok (.aload_n 2, 1) := by decide +kernel
theorem own_d1_42 : decode prog_12_method_5_code 42 = .ok (.areturn, 1) := by decide +kernel
theorem own_d1_15 : decode prog_12_method_5_code 15 = .ok (.iload_n 1, 1) := by decide +kernel
theorem own_d1_16 : decode prog_12_method_5_code 16 = .ok (.ifCond .eq 10, 3) := by decide +kernel
theorem own_d1_19 : decode prog_12_method_5_code 19 = .ok (.getstatic 10, 3) := by decide +kernel
theorem own_d1_22 : decode prog_12_method_5_code 22 = .ok (.astore_n 2, 1) := by decide +kernel
theorem own_d1_23 : decode prog_12_method_5_code 23 = .ok (.goto 18, 3) := by decide +kernel
theorem own_d1_26 : decode prog_12_method_5_code 26 = .ok (.iload_n 0, 1) := by decide +kernel
theorem own_d1_27 : decode prog_12_method_5_code 27 = .ok (.ifCond .eq 10, 3) := by decide +kernel
theorem own_d1_30 : decode prog_12_method_5_code 30 = .ok (.getstatic 13, 3) := by decide +kernel
theorem own_d1_33 : decode prog_12_method_5_code 33 = .ok (.astore_n 2, 1) := by decide +kernel
theorem own_d1_34 : decode prog_12_method_5_code 34 = .ok (.goto 7, 3) := by decide +kernel
theorem own_d1_37 : decode prog_12_method_5_code 37 = .ok (.getstatic 16, 3) := by decide +kernel
theorem own_d1_40 : decode prog_12_method_5_code 40 = .ok (.astore_n 2, 1) := by decide +kernel
theorem own_pn_com_example_kharman_kharman_DeliveryStatusSettledPinLaw : plainName "com/example/kharman/kharman/DeliveryStatusSettledPinLaw" = true := by first | (simp [plainName, overriddenIn]; done) | decide +kernel
theorem own_ef_rm0 (m : MethodId) (x0 : Int32) (x1 : Int32) : entryFrame m #[(.int x0), (.int x1)] maxLocals = mkF m 0 #[.val (.int x0), .val (.int x1), .unset, .unset, .unset, .unset, .unset, .unset, .unset] [] := by first | (simp [entryFrame, mkF, argsToLocals, Value.category, maxLocals]; done) | rfl
theorem own_pd__ZZ_Lcom_example_kharman_kharman_DeliveryStatus_ : parseMethodDescriptor "(ZZ)Lcom/example/kharman/kharman/DeliveryStatus;" = some ⟨[.boolean, .boolean], some (.object "com/example/kharman/kharman/DeliveryStatus")⟩ := by decide +kernel
def own_Qrm1 (Z : State) (p1 p2 : Int32) (w_DELIVERED w_SELLER_DEFAULT w_BUYER_DEFAULT w_BOTH_DEFAULT r : Addr) (h0 : Heap) (n0 : Nat) (v : Option Value) (h : Heap) (L : List Loc) : Prop := v = some (.ref r) ∧ Fr n0 L ∧ h = h0
set_option maxRecDepth 65536 in
set_option maxHeartbeats 40000000 in
theorem rm1 (l : Launch) (Z : State) (a0 : Array Value) (hw : ∀ d ∈ tables_1, d.before a0 Z = true) (ws : List Jvm.Cond) (p1 p2 : Int32) (w_DELIVERED w_SELLER_DEFAULT w_BUYER_DEFAULT w_BOTH_DEFAULT r : Addr) (h0 : Heap) (n0 : Nat) (Z0 : n0 ≤ h0.size) (S_DELIVERED : Sta Z h0 "com/example/kharman/kharman/DeliveryStatus" "DELIVERED" "Lcom/example/kharman/kharman/DeliveryStatus;" (.ref w_DELIVERED)) (S_SELLER_DEFAULT : Sta Z h0 "com/example/kharman/kharman/DeliveryStatus" "SELLER_DEFAULT" "Lcom/example/kharman/kharman/DeliveryStatus;" (.ref w_SELLER_DEFAULT)) (S_BUYER_DEFAULT : Sta Z h0 "com/example/kharman/kharman/DeliveryStatus" "BUYER_DEFAULT" "Lcom/example/kharman/kharman/DeliveryStatus;" (.ref w_BUYER_DEFAULT)) (S_BOTH_DEFAULT : Sta Z h0 "com/example/kharman/kharman/DeliveryStatus" "BOTH_DEFAULT" "Lcom/example/kharman/kharman/DeliveryStatus;" (.ref w_BOTH_DEFAULT)) (hk : (p1 = (1 : Int32) ∧ p2 = (1 : Int32) ∧ r = w_DELIVERED) ∨ (p1 = (0 : Int32) ∧ p2 = (1 : Int32) ∧ r = w_SELLER_DEFAULT) ∨ (p1 = (1 : Int32) ∧ p2 = (0 : Int32) ∧ r = w_BUYER_DEFAULT) ∨ (p1 = (0 : Int32) ∧ p2 = (0 : Int32) ∧ r = w_BOTH_DEFAULT)) :
    MetFree l (⟨"com/example/kharman/kharman/DeliveryStatus", "settled", "(ZZ)Lcom/example/kharman/kharman/DeliveryStatus;"⟩ : MethodName) (head1 (Jvm.Cond.code (⟨"com/example/kharman/kharman/DeliveryStatus", "settled", "(ZZ)Lcom/example/kharman/kharman/DeliveryStatus;"⟩ : MethodName) prog_12_method_5_code 3 (some (.object "com/example/kharman/kharman/DeliveryStatus")) :: ws) ({ frames := 0, cells := 0, slots := 0, locals := 0 } : Room)) (fun a U => a = #[(.int p1), (.int p2)] ∧ Z.Warmed39 U.vm ∧ U.heap = h0) (fun _ _ _ _ _ => True) (fun _ U o U' => ∃ v L, o = .returned v ∧ own_Qrm1 Z p1 p2 w_DELIVERED w_SELLER_DEFAULT w_BUYER_DEFAULT w_BOTH_DEFAULT r h0 n0 v U'.heap L ∧ FrameEnd U o U' L ({ frames := 0, cells := 0, slots := 0, locals := 0 } : Room).cells ({ frames := 0, cells := 0, slots := 0, locals := 0 } : Room).slots) := by
  refine MetFree.of_bodySF (plainFor_of_name own_pn_com_example_kharman_kharman_DeliveryStatus) hisR ?_
  intro p e s m args below meth c s₁ Bd hml0 hP hK
  obtain ⟨rfl, hZ, hh⟩ := hP
  have hx := Bd.exec
  have hby := Bd.bytes
  have hml : c.maxLocals = 3 := hml0
  have hown : s.vm.findClass "com/example/kharman/kharman/DeliveryStatus" = some m.cls := findClass_of_methodNamed Bd.named
  have hnm := (name_of_methodNamed Bd.named Bd.method).1
  have X0 : Stand p l e ({ frames := 0, cells := 0, slots := 0, locals := 0 } : Room) s m #[(.int p1), (.int p2)] below meth c s₁ [] 0 0 := Stand.of_body Bd
  have e0 : s₁.heap = h0 := by rw [← hh, Bd.state]; rfl
  have N0 := Fr.nil n0
  refine own_adv (B := s₁.setTop (mkF m 0 #[.val (.int p1), .val (.int p2), .unset] [])) (fun t k => castTop (own_ef_rm1 m p1 p2) k) ?_
  rcases hk with ⟨ha, hb1, hr1⟩ | ⟨ha, hb1, hr1⟩ | ⟨ha, hb1, hr1⟩ | ⟨ha, hb1, hr1⟩
  · skip
    refine own_adv (B := s₁.setTop (mkF m 1 #[.val (.int p1), .val (.int p2), .unset] [(.int p1)])) (fun t k => XS.iloadN X0.here hx rfl (hb hby own_d1_0) rfl k) ?_
    refine own_adv (B := s₁.setTop (mkF m 4 #[.val (.int p1), .val (.int p2), .unset] [])) (fun t k => XS.ifNo X0.here hx rfl (hb hby own_d1_1) rfl ((if0 _ _).trans (feq (by rw [ha]; decide)).1) k) ?_
    refine own_adv (B := s₁.setTop (mkF m 5 #[.val (.int p1), .val (.int p2), .unset] [(.int p2)])) (fun t k => XS.iloadN X0.here hx rfl (hb hby own_d1_4) rfl k) ?_
    refine own_adv (B := s₁.setTop (mkF m 8 #[.val (.int p1), .val (.int p2), .unset] [])) (fun t k => XS.ifNo X0.here hx rfl (hb hby own_d1_5) rfl ((if0 _ _).trans (feq (by rw [hb1]; decide)).1) k) ?_
    obtain ⟨T10, X10, e10, st10⟩ := getS2 X0 hx hZ hown (host := "") (Or.inl (hw _ (List.mem_of_getElem? (i := 16) rfl))) Via.refl e0 S_DELIVERED (g := (mkF m 8 #[.val (.int p1), .val (.int p2), .unset] [])) rfl (hb hby own_d1_8)
    refine own_adv (B := T10.setTop (mkF m 11 #[.val (.int p1), .val (.int p2), .unset] [(.ref w_DELIVERED)])) st10 ?_
    refine own_adv (B := T10.setTop (mkF m 12 #[.val (.int p1), .val (.int p2), .val (.ref w_DELIVERED)] [])) (fun t k => XS.astoreN X10.here hx rfl (hb hby own_d1_11) rfl rfl (l' := #[.val (.int p1), .val (.int p2), .val (.ref w_DELIVERED)]) rfl k) ?_
    refine own_adv (B := T10.setTop (mkF m 41 #[.val (.int p1), .val (.int p2), .val (.ref w_DELIVERED)] [])) (fun t k => XS.goto X10.here hx rfl (pc0 := 12) (pc' := 41) rfl (hb hby own_d1_12) (by decide) (by decide) k) ?_
    refine own_adv (B := T10.setTop (mkF m 42 #[.val (.int p1), .val (.int p2), .val (.ref w_DELIVERED)] [(.ref w_DELIVERED)])) (fun t k => XS.aloadN X10.here hx rfl (hb hby own_d1_41) rfl rfl k) ?_
    obtain ⟨fs, hr, hrun, hended, hW, hsame⟩ := X10.leave (v := some (.ref w_DELIVERED)) (fun h => by rw [Bd.returns] at h; cases h)
    refine ⟨_, _, retOut X10 hx (t := (.object "com/example/kharman/kharman/DeliveryStatus")) (i := .areturn) Bd.returns rfl (Or.inr (Or.inr (Or.inr (Or.inr ⟨rfl, rfl, rfl⟩)))) (hb hby own_d1_42) hr, hrun, hended, _, _, rfl, ?_, ⟨_, rfl⟩, hW, hsame.mono (by decide) (by decide)⟩
    exact ⟨by rw [hr1], N0, e10⟩
  · skip
    refine own_adv (B := s₁.setTop (mkF m 1 #[.val (.int p1), .val (.int p2), .unset] [(.int p1)])) (fun t k => XS.iloadN X0.here hx rfl (hb hby own_d1_0) rfl k) ?_
    refine own_adv (B := s₁.setTop (mkF m 15 #[.val (.int p1), .val (.int p2), .unset] [])) (fun t k => XS.ifYes X0.here hx rfl (pc0 := 1) (pc' := 15) rfl (hb hby own_d1_1) rfl ((if0 _ _).trans (teq ha).1) (by decide) (by decide) k) ?_
    refine own_adv (B := s₁.setTop (mkF m 16 #[.val (.int p1), .val (.int p2), .unset] [(.int p2)])) (fun t k => XS.iloadN X0.here hx rfl (hb hby own_d1_15) rfl k) ?_
    refine own_adv (B := s₁.setTop (mkF m 19 #[.val (.int p1), .val (.int p2), .unset] [])) (fun t k => XS.ifNo X0.here hx rfl (hb hby own_d1_16) rfl ((if0 _ _).trans (feq (by rw [hb1]; decide)).1) k) ?_
    obtain ⟨T11, X11, e11, st11⟩ := getS2 X0 hx hZ hown (host := "") (Or.inl (hw _ (List.mem_of_getElem? (i := 4) rfl))) Via.refl e0 S_SELLER_DEFAULT (g := (mkF m 19 #[.val (.int p1), .val (.int p2), .unset] [])) rfl (hb hby own_d1_19)
    refine own_adv (B := T11.setTop (mkF m 22 #[.val (.int p1), .val (.int p2), .unset] [(.ref w_SELLER_DEFAULT)])) st11 ?_
    refine own_adv (B := T11.setTop (mkF m 23 #[.val (.int p1), .val (.int p2), .val (.ref w_SELLER_DEFAULT)] [])) (fun t k => XS.astoreN X11.here hx rfl (hb hby own_d1_22) rfl rfl (l' := #[.val (.int p1), .val (.int p2), .val (.ref w_SELLER_DEFAULT)]) rfl k) ?_
    refine own_adv (B := T11.setTop (mkF m 41 #[.val (.int p1), .val (.int p2), .val (.ref w_SELLER_DEFAULT)] [])) (fun t k => XS.goto X11.here hx rfl (pc0 := 23) (pc' := 41) rfl (hb hby own_d1_23) (by decide) (by decide) k) ?_
    refine own_adv (B := T11.setTop (mkF m 42 #[.val (.int p1), .val (.int p2), .val (.ref w_SELLER_DEFAULT)] [(.ref w_SELLER_DEFAULT)])) (fun t k => XS.aloadN X11.here hx rfl (hb hby own_d1_41) rfl rfl k) ?_
    obtain ⟨fs, hr, hrun, hended, hW, hsame⟩ := X11.leave (v := some (.ref w_SELLER_DEFAULT)) (fun h => by rw [Bd.returns] at h; cases h)
    refine ⟨_, _, retOut X11 hx (t := (.object "com/example/kharman/kharman/DeliveryStatus")) (i := .areturn) Bd.returns rfl (Or.inr (Or.inr (Or.inr (Or.inr ⟨rfl, rfl, rfl⟩)))) (hb hby own_d1_42) hr, hrun, hended, _, _, rfl, ?_, ⟨_, rfl⟩, hW, hsame.mono (by decide) (by decide)⟩
    exact ⟨by rw [hr1], N0, e11⟩
  · skip
    refine own_adv (B := s₁.setTop (mkF m 1 #[.val (.int p1), .val (.int p2), .unset] [(.int p1)])) (fun t k => XS.iloadN X0.here hx rfl (hb hby own_d1_0) rfl k) ?_
    refine own_adv (B := s₁.setTop (mkF m 4 #[.val (.int p1), .val (.int p2), .unset] [])) (fun t k => XS.ifNo X0.here hx rfl (hb hby own_d1_1) rfl ((if0 _ _).trans (feq (by rw [ha]; decide)).1) k) ?_
    refine own_adv (B := s₁.setTop (mkF m 5 #[.val (.int p1), .val (.int p2), .unset] [(.int p2)])) (fun t k => XS.iloadN X0.here hx rfl (hb hby own_d1_4) rfl k) ?_
    refine own_adv (B := s₁.setTop (mkF m 15 #[.val (.int p1), .val (.int p2), .unset] [])) (fun t k => XS.ifYes X0.here hx rfl (pc0 := 5) (pc' := 15) rfl (hb hby own_d1_5) rfl ((if0 _ _).trans (teq hb1).1) (by decide) (by decide) k) ?_
    refine own_adv (B := s₁.setTop (mkF m 16 #[.val (.int p1), .val (.int p2), .unset] [(.int p2)])) (fun t k => XS.iloadN X0.here hx rfl (hb hby own_d1_15) rfl k) ?_
    refine own_adv (B := s₁.setTop (mkF m 26 #[.val (.int p1), .val (.int p2), .unset] [])) (fun t k => XS.ifYes X0.here hx rfl (pc0 := 16) (pc' := 26) rfl (hb hby own_d1_16) rfl ((if0 _ _).trans (teq hb1).1) (by decide) (by decide) k) ?_
    refine own_adv (B := s₁.setTop (mkF m 27 #[.val (.int p1), .val (.int p2), .unset] [(.int p1)])) (fun t k => XS.iloadN X0.here hx rfl (hb hby own_d1_26) rfl k) ?_
    refine own_adv (B := s₁.setTop (mkF m 30 #[.val (.int p1), .val (.int p2), .unset] [])) (fun t k => XS.ifNo X0.here hx rfl (hb hby own_d1_27) rfl ((if0 _ _).trans (feq (by rw [ha]; decide)).1) k) ?_
    obtain ⟨T12, X12, e12, st12⟩ := getS2 X0 hx hZ hown (host := "") (Or.inl (hw _ (List.mem_of_getElem? (i := 17) rfl))) Via.refl e0 S_BUYER_DEFAULT (g := (mkF m 30 #[.val (.int p1), .val (.int p2), .unset] [])) rfl (hb hby own_d1_30)
    refine own_adv (B := T12.setTop (mkF m 33 #[.val (.int p1), .val (.int p2), .unset] [(.ref w_BUYER_DEFAULT)])) st12 ?_
    refine own_adv (B := T12.setTop (mkF m 34 #[.val (.int p1), .val (.int p2), .val (.ref w_BUYER_DEFAULT)] [])) (fun t k => XS.astoreN X12.here hx rfl (hb hby own_d1_33) rfl rfl (l' := #[.val (.int p1), .val (.int p2), .val (.ref w_BUYER_DEFAULT)]) rfl k) ?_
    refine own_adv (B := T12.setTop (mkF m 41 #[.val (.int p1), .val (.int p2), .val (.ref w_BUYER_DEFAULT)] [])) (fun t k => XS.goto X12.here hx rfl (pc0 := 34) (pc' := 41) rfl (hb hby own_d1_34) (by decide) (by decide) k) ?_
    refine own_adv (B := T12.setTop (mkF m 42 #[.val (.int p1), .val (.int p2), .val (.ref w_BUYER_DEFAULT)] [(.ref w_BUYER_DEFAULT)])) (fun t k => XS.aloadN X12.here hx rfl (hb hby own_d1_41) rfl rfl k) ?_
    obtain ⟨fs, hr, hrun, hended, hW, hsame⟩ := X12.leave (v := some (.ref w_BUYER_DEFAULT)) (fun h => by rw [Bd.returns] at h; cases h)
    refine ⟨_, _, retOut X12 hx (t := (.object "com/example/kharman/kharman/DeliveryStatus")) (i := .areturn) Bd.returns rfl (Or.inr (Or.inr (Or.inr (Or.inr ⟨rfl, rfl, rfl⟩)))) (hb hby own_d1_42) hr, hrun, hended, _, _, rfl, ?_, ⟨_, rfl⟩, hW, hsame.mono (by decide) (by decide)⟩
    exact ⟨by rw [hr1], N0, e12⟩
  · skip
    refine own_adv (B := s₁.setTop (mkF m 1 #[.val (.int p1), .val (.int p2), .unset] [(.int p1)])) (fun t k => XS.iloadN X0.here hx rfl (hb hby own_d1_0) rfl k) ?_
    refine own_adv (B := s₁.setTop (mkF m 15 #[.val (.int p1), .val (.int p2), .unset] [])) (fun t k => XS.ifYes X0.here hx rfl (pc0 := 1) (pc' := 15) rfl (hb hby own_d1_1) rfl ((if0 _ _).trans (teq ha).1) (by decide) (by decide) k) ?_
    refine own_adv (B := s₁.setTop (mkF m 16 #[.val (.int p1), .val (.int p2), .unset] [(.int p2)])) (fun t k => XS.iloadN X0.here hx rfl (hb hby own_d1_15) rfl k) ?_
    refine own_adv (B := s₁.setTop (mkF m 26 #[.val (.int p1), .val (.int p2), .unset] [])) (fun t k => XS.ifYes X0.here hx rfl (pc0 := 16) (pc' := 26) rfl (hb hby own_d1_16) rfl ((if0 _ _).trans (teq hb1).1) (by decide) (by decide) k) ?_
    refine own_adv (B := s₁.setTop (mkF m 27 #[.val (.int p1), .val (.int p2), .unset] [(.int p1)])) (fun t k => XS.iloadN X0.here hx rfl (hb hby own_d1_26) rfl k) ?_
    refine own_adv (B := s₁.setTop (mkF m 37 #[.val (.int p1), .val (.int p2), .unset] [])) (fun t k => XS.ifYes X0.here hx rfl (pc0 := 27) (pc' := 37) rfl (hb hby own_d1_27) rfl ((if0 _ _).trans (teq ha).1) (by decide) (by decide) k) ?_
    obtain ⟨T13, X13, e13, st13⟩ := getS2 X0 hx hZ hown (host := "") (Or.inl (hw _ (List.mem_of_getElem? (i := 15) rfl))) Via.refl e0 S_BOTH_DEFAULT (g := (mkF m 37 #[.val (.int p1), .val (.int p2), .unset] [])) rfl (hb hby own_d1_37)
    refine own_adv (B := T13.setTop (mkF m 40 #[.val (.int p1), .val (.int p2), .unset] [(.ref w_BOTH_DEFAULT)])) st13 ?_
    refine own_adv (B := T13.setTop (mkF m 41 #[.val (.int p1), .val (.int p2), .val (.ref w_BOTH_DEFAULT)] [])) (fun t k => XS.astoreN X13.here hx rfl (hb hby own_d1_40) rfl rfl (l' := #[.val (.int p1), .val (.int p2), .val (.ref w_BOTH_DEFAULT)]) rfl k) ?_
    refine own_adv (B := T13.setTop (mkF m 42 #[.val (.int p1), .val (.int p2), .val (.ref w_BOTH_DEFAULT)] [(.ref w_BOTH_DEFAULT)])) (fun t k => XS.aloadN X13.here hx rfl (hb hby own_d1_41) rfl rfl k) ?_
    obtain ⟨fs, hr, hrun, hended, hW, hsame⟩ := X13.leave (v := some (.ref w_BOTH_DEFAULT)) (fun h => by rw [Bd.returns] at h; cases h)
    refine ⟨_, _, retOut X13 hx (t := (.object "com/example/kharman/kharman/DeliveryStatus")) (i := .areturn) Bd.returns rfl (Or.inr (Or.inr (Or.inr (Or.inr ⟨rfl, rfl, rfl⟩)))) (hb hby own_d1_42) hr, hrun, hended, _, _, rfl, ?_, ⟨_, rfl⟩, hW, hsame.mono (by decide) (by decide)⟩
    exact ⟨by rw [hr1], N0, e13⟩
def own_Qrm0 (Z : State) (p1 p2 : Int32) (w_PENDING w_DELIVERED w_SELLER_DEFAULT w_BUYER_DEFAULT w_BOTH_DEFAULT : Addr) (h0 : Heap) (n0 : Nat) (v : Option Value) (h : Heap) (L : List Loc) : Prop := v = some (.int 1) ∧ Fr n0 L
set_option maxRecDepth 65536 in
set_option maxHeartbeats 40000000 in
theorem rm0 (l : Launch) (Z : State) (a0 : Array Value) (hw : ∀ d ∈ tables_1, d.before a0 Z = true) (ws : List Jvm.Cond) (p1 p2 : Int32) (w_PENDING w_DELIVERED w_SELLER_DEFAULT w_BUYER_DEFAULT w_BOTH_DEFAULT : Addr) (h0 : Heap) (n0 : Nat) (Z0 : n0 ≤ h0.size) (S_PENDING : Sta Z h0 "com/example/kharman/kharman/DeliveryStatus" "PENDING" "Lcom/example/kharman/kharman/DeliveryStatus;" (.ref w_PENDING)) (S_DELIVERED : Sta Z h0 "com/example/kharman/kharman/DeliveryStatus" "DELIVERED" "Lcom/example/kharman/kharman/DeliveryStatus;" (.ref w_DELIVERED)) (S_SELLER_DEFAULT : Sta Z h0 "com/example/kharman/kharman/DeliveryStatus" "SELLER_DEFAULT" "Lcom/example/kharman/kharman/DeliveryStatus;" (.ref w_SELLER_DEFAULT)) (S_BUYER_DEFAULT : Sta Z h0 "com/example/kharman/kharman/DeliveryStatus" "BUYER_DEFAULT" "Lcom/example/kharman/kharman/DeliveryStatus;" (.ref w_BUYER_DEFAULT)) (S_BOTH_DEFAULT : Sta Z h0 "com/example/kharman/kharman/DeliveryStatus" "BOTH_DEFAULT" "Lcom/example/kharman/kharman/DeliveryStatus;" (.ref w_BOTH_DEFAULT)) (F_ordinal_PENDING : Fld Z h0 w_PENDING "java/lang/Enum" "ordinal" "I" (.int 0)) (F_ordinal_DELIVERED : Fld Z h0 w_DELIVERED "java/lang/Enum" "ordinal" "I" (.int 1)) (F_ordinal_SELLER_DEFAULT : Fld Z h0 w_SELLER_DEFAULT "java/lang/Enum" "ordinal" "I" (.int 2)) (F_ordinal_BUYER_DEFAULT : Fld Z h0 w_BUYER_DEFAULT "java/lang/Enum" "ordinal" "I" (.int 3)) (F_ordinal_BOTH_DEFAULT : Fld Z h0 w_BOTH_DEFAULT "java/lang/Enum" "ordinal" "I" (.int 4)) :
    MetFree l x (head1 (Jvm.Cond.code x code maxLocals ret :: ws) room_1) (fun a U => a = #[(.int p1), (.int p2)] ∧ Z.Warmed39 U.vm ∧ U.heap = h0) (fun _ _ _ _ _ => True) (fun _ U o U' => ∃ v L, o = .returned v ∧ own_Qrm0 Z p1 p2 w_PENDING w_DELIVERED w_SELLER_DEFAULT w_BUYER_DEFAULT w_BOTH_DEFAULT h0 n0 v U'.heap L ∧ FrameEnd U o U' L room_1.cells room_1.slots) := by
  refine MetFree.of_bodySF (plainFor_of_name own_pn_com_example_kharman_kharman_DeliveryStatusSettledPinLaw) hisR ?_
  intro p e s m args below meth c s₁ Bd hml0 hP hK
  obtain ⟨rfl, hZ, hh⟩ := hP
  have hx := Bd.exec
  have hby := Bd.bytes
  have hml : c.maxLocals = 9 := hml0
  have hown : s.vm.findClass "com/example/kharman/kharman/DeliveryStatusSettledPinLaw" = some m.cls := findClass_of_methodNamed Bd.named
  have hnm := (name_of_methodNamed Bd.named Bd.method).1
  have X0 : Stand p l e room_1 s m #[(.int p1), (.int p2)] below meth c s₁ [] 0 0 := Stand.of_body Bd
  have e0 : s₁.heap = h0 := by rw [← hh, Bd.state]; rfl
  have N0 := Fr.nil n0
  refine own_adv (B := s₁.setTop (mkF m 0 #[.val (.int p1), .val (.int p2), .unset, .unset, .unset, .unset, .unset, .unset, .unset] [])) (fun t k => castTop (own_ef_rm0 m p1 p2) k) ?_
  refine own_adv (B := s₁.setTop (mkF m 1 #[.val (.int p1), .val (.int p2), .unset, .unset, .unset, .unset, .unset, .unset, .unset] [(.int p1)])) (fun t k => XS.iloadN X0.here hx rfl (hb hby at_0) rfl k) ?_
  refine own_adv (B := s₁.setTop (mkF m 2 #[.val (.int p1), .val (.int p2), .unset, .unset, .unset, .unset, .unset, .unset, .unset] [(.int (1 : Int32)), (.int p1)])) (fun t k => XS.iconst X0.here hx rfl (hb hby at_1) k) ?_
  refine own_adv (B := s₁.setTop (mkF m 3 #[.val (.int p1), .val (.int p2), .unset, .unset, .unset, .unset, .unset, .unset, .unset] [(.int (p1 &&& (1 : Int32)))])) (fun t k => XS.iand X0.here hx rfl (hb hby at_2) rfl k) ?_
  by_cases hs : (p1 &&& (1 : Int32)) = (0 : Int32)
  · skip
    refine own_adv (B := s₁.setTop (mkF m 10 #[.val (.int p1), .val (.int p2), .unset, .unset, .unset, .unset, .unset, .unset, .unset] [])) (fun t k => XS.ifYes X0.here hx rfl (pc0 := 3) (pc' := 10) rfl (hb hby at_3) rfl ((if0 _ _).trans (teq hs).1) (by decide) (by decide) k) ?_
    refine own_adv (B := s₁.setTop (mkF m 11 #[.val (.int p1), .val (.int p2), .unset, .unset, .unset, .unset, .unset, .unset, .unset] [(.int (0 : Int32))])) (fun t k => XS.iconst X0.here hx rfl (hb hby at_10) k) ?_
    refine own_adv (B := s₁.setTop (mkF m 12 #[.val (.int p1), .val (.int p2), .val (.int (0 : Int32)), .unset, .unset, .unset, .unset, .unset, .unset] [])) (fun t k => XS.istoreN X0.here hx rfl (hb hby at_11) rfl (l' := #[.val (.int p1), .val (.int p2), .val (.int (0 : Int32)), .unset, .unset, .unset, .unset, .unset, .unset]) rfl k) ?_
    refine own_adv (B := s₁.setTop (mkF m 13 #[.val (.int p1), .val (.int p2), .val (.int (0 : Int32)), .unset, .unset, .unset, .unset, .unset, .unset] [(.int p2)])) (fun t k => XS.iloadN X0.here hx rfl (hb hby at_12) rfl k) ?_
    refine own_adv (B := s₁.setTop (mkF m 14 #[.val (.int p1), .val (.int p2), .val (.int (0 : Int32)), .unset, .unset, .unset, .unset, .unset, .unset] [(.int (1 : Int32)), (.int p2)])) (fun t k => XS.iconst X0.here hx rfl (hb hby at_13) k) ?_
    refine own_adv (B := s₁.setTop (mkF m 15 #[.val (.int p1), .val (.int p2), .val (.int (0 : Int32)), .unset, .unset, .unset, .unset, .unset, .unset] [(.int (p2 &&& (1 : Int32)))])) (fun t k => XS.iand X0.here hx rfl (hb hby at_14) rfl k) ?_
    by_cases ht : (p2 &&& (1 : Int32)) = (0 : Int32)
    · skip
      refine own_adv (B := s₁.setTop (mkF m 22 #[.val (.int p1), .val (.int p2), .val (.int (0 : Int32)), .unset, .unset, .unset, .unset, .unset, .unset] [])) (fun t k => XS.ifYes X0.here hx rfl (pc0 := 15) (pc' := 22) rfl (hb hby at_15) rfl ((if0 _ _).trans (teq ht).1) (by decide) (by decide) k) ?_
      refine own_adv (B := s₁.setTop (mkF m 23 #[.val (.int p1), .val (.int p2), .val (.int (0 : Int32)), .unset, .unset, .unset, .unset, .unset, .unset] [(.int (0 : Int32))])) (fun t k => XS.iconst X0.here hx rfl (hb hby at_22) k) ?_
      refine own_adv (B := s₁.setTop (mkF m 24 #[.val (.int p1), .val (.int p2), .val (.int (0 : Int32)), .val (.int (0 : Int32)), .unset, .unset, .unset, .unset, .unset] [])) (fun t k => XS.istoreN X0.here hx rfl (hb hby at_23) rfl (l' := #[.val (.int p1), .val (.int p2), .val (.int (0 : Int32)), .val (.int (0 : Int32)), .unset, .unset, .unset, .unset, .unset]) rfl k) ?_
      refine own_adv (B := s₁.setTop (mkF m 25 #[.val (.int p1), .val (.int p2), .val (.int (0 : Int32)), .val (.int (0 : Int32)), .unset, .unset, .unset, .unset, .unset] [(.int (0 : Int32))])) (fun t k => XS.iloadN X0.here hx rfl (hb hby at_24) rfl k) ?_
      refine own_adv (B := s₁.setTop (mkF m 26 #[.val (.int p1), .val (.int p2), .val (.int (0 : Int32)), .val (.int (0 : Int32)), .unset, .unset, .unset, .unset, .unset] [(.int (0 : Int32)), (.int (0 : Int32))])) (fun t k => XS.iloadN X0.here hx rfl (hb hby at_25) rfl k) ?_
      obtain ⟨_, _, ⟨T10, L10, k10, n10⟩, -, X10, ⟨Lc10, hQ10, l10, y10, z10⟩, st10⟩ := Jvm.LawKit.callS X0 hx (y := (⟨"com/example/kharman/kharman/DeliveryStatus", "settled", "(ZZ)Lcom/example/kharman/kharman/DeliveryStatus;"⟩ : MethodName)) hown (mvT hZ (hw _ (List.mem_of_getElem? (i := 0) rfl))) (mvT hZ (hw _ (List.mem_of_getElem? (i := 1) rfl))) (mvT hZ (hw _ (List.mem_of_getElem? (i := 2) rfl))) (mvT hZ (hw _ (List.mem_of_getElem? (i := 3) rfl))) (by decide) (backOf (W := 0) (rm1 l Z a0 hw [] (0 : Int32) (0 : Int32) w_DELIVERED w_SELLER_DEFAULT w_BUYER_DEFAULT w_BOTH_DEFAULT w_BOTH_DEFAULT h0 n0 Z0 S_DELIVERED S_SELLER_DEFAULT S_BUYER_DEFAULT S_BOTH_DEFAULT (Or.inr (Or.inr (Or.inr ⟨rfl, rfl, rfl⟩)))) hZ (hw _ (List.mem_of_getElem? (i := 3) rfl)) (hw _ (List.mem_of_getElem? (i := 2) rfl)) (by decide) (by decide)) (g := (mkF m 26 #[.val (.int p1), .val (.int p2), .val (.int (0 : Int32)), .val (.int (0 : Int32)), .unset, .unset, .unset, .unset, .unset] [(.int (0 : Int32)), (.int (0 : Int32))])) rfl (by rw [hml]; rfl) (argsL := [(.int (0 : Int32)), (.int (0 : Int32))]) (rest := []) (lenOf own_pd__ZZ_Lcom_example_kharman_kharman_DeliveryStatus_ rfl) rfl (by show 2 * 0 + _ ≤ _; exact Nat.le_of_eq rfl) (hb hby at_26) (fun _ _ => ⟨rfl, e0, (by decide : 0 + 0 ≤ _), (by decide : 0 + 0 ≤ _)⟩)
      dsimp only [Pt.U, Pt.locs, Pt.cells, Pt.slots] at X10 l10 y10 z10 st10 hQ10
      subst l10 y10 z10
      obtain ⟨rfl, N10q, e10⟩ := hQ10
      have N10 := Fr.app N0 N10q
      refine own_adv (B := T10.setTop (mkF m 29 #[.val (.int p1), .val (.int p2), .val (.int (0 : Int32)), .val (.int (0 : Int32)), .unset, .unset, .unset, .unset, .unset] [(.ref w_BOTH_DEFAULT)])) (fun t k => st10 t k) ?_
      refine own_adv (B := T10.setTop (mkF m 31 #[.val (.int p1), .val (.int p2), .val (.int (0 : Int32)), .val (.int (0 : Int32)), .val (.ref w_BOTH_DEFAULT), .unset, .unset, .unset, .unset] [])) (fun t k => XS.astore X10.here hx rfl (hb hby at_29) rfl rfl (l' := #[.val (.int p1), .val (.int p2), .val (.int (0 : Int32)), .val (.int (0 : Int32)), .val (.ref w_BOTH_DEFAULT), .unset, .unset, .unset, .unset]) rfl k) ?_
      refine own_adv (B := T10.setTop (mkF m 33 #[.val (.int p1), .val (.int p2), .val (.int (0 : Int32)), .val (.int (0 : Int32)), .val (.ref w_BOTH_DEFAULT), .unset, .unset, .unset, .unset] [(.ref w_BOTH_DEFAULT)])) (fun t k => XS.aload X10.here hx rfl (hb hby at_31) rfl rfl k) ?_
      refine own_adv (B := T10.setTop (mkF m 38 #[.val (.int p1), .val (.int p2), .val (.int (0 : Int32)), .val (.int (0 : Int32)), .val (.ref w_BOTH_DEFAULT), .unset, .unset, .unset, .unset] [])) (fun t k => XS.ifnonnullYes X10.here hx rfl (pc0 := 33) (pc' := 38) rfl (hb hby at_33) rfl (by decide) (by decide) k) ?_
      refine own_adv (B := T10.setTop (mkF m 40 #[.val (.int p1), .val (.int p2), .val (.int (0 : Int32)), .val (.int (0 : Int32)), .val (.ref w_BOTH_DEFAULT), .unset, .unset, .unset, .unset] [(.ref w_BOTH_DEFAULT)])) (fun t k => XS.aload X10.here hx rfl (hb hby at_38) rfl rfl k) ?_
      obtain ⟨T11, X11, e11, st11⟩ := getS2 X10 hx hZ hown (host := "") (Or.inl (hw _ (List.mem_of_getElem? (i := 6) rfl))) Via.refl e10 S_PENDING (g := (mkF m 40 #[.val (.int p1), .val (.int p2), .val (.int (0 : Int32)), .val (.int (0 : Int32)), .val (.ref w_BOTH_DEFAULT), .unset, .unset, .unset, .unset] [(.ref w_BOTH_DEFAULT)])) rfl (hb hby at_40)
      refine own_adv (B := T11.setTop (mkF m 43 #[.val (.int p1), .val (.int p2), .val (.int (0 : Int32)), .val (.int (0 : Int32)), .val (.ref w_BOTH_DEFAULT), .unset, .unset, .unset, .unset] [(.ref w_PENDING), (.ref w_BOTH_DEFAULT)])) st11 ?_
      refine own_adv (B := T11.setTop (mkF m 48 #[.val (.int p1), .val (.int p2), .val (.int (0 : Int32)), .val (.int (0 : Int32)), .val (.ref w_BOTH_DEFAULT), .unset, .unset, .unset, .unset] [])) (fun t k => Jvm.RoadKit.acmp (g := (mkF m 43 #[.val (.int p1), .val (.int p2), .val (.int (0 : Int32)), .val (.int (0 : Int32)), .val (.ref w_BOTH_DEFAULT), .unset, .unset, .unset, .unset] [(.ref w_PENDING), (.ref w_BOTH_DEFAULT)])) X11 hx rfl rfl rfl (pc0 := 43) (pc' := 48) (same := false) rfl (hb hby at_43) rfl (decide_eq_false fun q => (Fld.ne F_ordinal_BOTH_DEFAULT F_ordinal_PENDING (by simp)) (Value.ref.inj q)) (by decide) (by decide) k) ?_
      refine own_adv (B := T11.setTop (mkF m 50 #[.val (.int p1), .val (.int p2), .val (.int (0 : Int32)), .val (.int (0 : Int32)), .val (.ref w_BOTH_DEFAULT), .unset, .unset, .unset, .unset] [(.ref w_BOTH_DEFAULT)])) (fun t k => XS.aload X11.here hx rfl (hb hby at_48) rfl rfl k) ?_
      obtain ⟨T12, X12, e12, st12⟩ := getS2 X11 hx hZ hown (host := "") (Or.inl (hw _ (List.mem_of_getElem? (i := 8) rfl))) Via.refl e11 S_DELIVERED (g := (mkF m 50 #[.val (.int p1), .val (.int p2), .val (.int (0 : Int32)), .val (.int (0 : Int32)), .val (.ref w_BOTH_DEFAULT), .unset, .unset, .unset, .unset] [(.ref w_BOTH_DEFAULT)])) rfl (hb hby at_50)
      refine own_adv (B := T12.setTop (mkF m 53 #[.val (.int p1), .val (.int p2), .val (.int (0 : Int32)), .val (.int (0 : Int32)), .val (.ref w_BOTH_DEFAULT), .unset, .unset, .unset, .unset] [(.ref w_DELIVERED), (.ref w_BOTH_DEFAULT)])) st12 ?_
      refine own_adv (B := T12.setTop (mkF m 60 #[.val (.int p1), .val (.int p2), .val (.int (0 : Int32)), .val (.int (0 : Int32)), .val (.ref w_BOTH_DEFAULT), .unset, .unset, .unset, .unset] [])) (fun t k => Jvm.RoadKit.acmp (g := (mkF m 53 #[.val (.int p1), .val (.int p2), .val (.int (0 : Int32)), .val (.int (0 : Int32)), .val (.ref w_BOTH_DEFAULT), .unset, .unset, .unset, .unset] [(.ref w_DELIVERED), (.ref w_BOTH_DEFAULT)])) X12 hx rfl rfl rfl (pc0 := 53) (pc' := 60) (same := false) rfl (hb hby at_53) rfl (decide_eq_false fun q => (Fld.ne F_ordinal_BOTH_DEFAULT F_ordinal_DELIVERED (by simp)) (Value.ref.inj q)) (by decide) (by decide) k) ?_
      refine own_adv (B := T12.setTop (mkF m 61 #[.val (.int p1), .val (.int p2), .val (.int (0 : Int32)), .val (.int (0 : Int32)), .val (.ref w_BOTH_DEFAULT), .unset, .unset, .unset, .unset] [(.int (0 : Int32))])) (fun t k => XS.iconst X12.here hx rfl (hb hby at_60) k) ?_
      refine own_adv (B := T12.setTop (mkF m 62 #[.val (.int p1), .val (.int p2), .val (.int (0 : Int32)), .val (.int (0 : Int32)), .val (.ref w_BOTH_DEFAULT), .unset, .unset, .unset, .unset] [(.int (0 : Int32)), (.int (0 : Int32))])) (fun t k => XS.iloadN X12.here hx rfl (hb hby at_61) rfl k) ?_
      refine own_adv (B := T12.setTop (mkF m 73 #[.val (.int p1), .val (.int p2), .val (.int (0 : Int32)), .val (.int (0 : Int32)), .val (.ref w_BOTH_DEFAULT), .unset, .unset, .unset, .unset] [(.int (0 : Int32))])) (fun t k => XS.ifYes X12.here hx rfl (pc0 := 62) (pc' := 73) rfl (hb hby at_62) rfl ((if0 _ _).trans (teq (rfl : (0 : Int32) = (0 : Int32))).1) (by decide) (by decide) k) ?_
      refine own_adv (B := T12.setTop (mkF m 74 #[.val (.int p1), .val (.int p2), .val (.int (0 : Int32)), .val (.int (0 : Int32)), .val (.ref w_BOTH_DEFAULT), .unset, .unset, .unset, .unset] [(.int (0 : Int32)), (.int (0 : Int32))])) (fun t k => XS.iconst X12.here hx rfl (hb hby at_73) k) ?_
      refine own_adv (B := T12.setTop (mkF m 77 #[.val (.int p1), .val (.int p2), .val (.int (0 : Int32)), .val (.int (0 : Int32)), .val (.ref w_BOTH_DEFAULT), .unset, .unset, .unset, .unset] [])) (fun t k => XS.icmpNo X12.here hx rfl (hb hby at_74) rfl (teq (rfl : (0 : Int32) = (0 : Int32))).2 k) ?_
      refine own_adv (B := T12.setTop (mkF m 78 #[.val (.int p1), .val (.int p2), .val (.int (0 : Int32)), .val (.int (0 : Int32)), .val (.ref w_BOTH_DEFAULT), .unset, .unset, .unset, .unset] [(.int (1 : Int32))])) (fun t k => XS.iconst X12.here hx rfl (hb hby at_77) k) ?_
      refine own_adv (B := T12.setTop (mkF m 82 #[.val (.int p1), .val (.int p2), .val (.int (0 : Int32)), .val (.int (0 : Int32)), .val (.ref w_BOTH_DEFAULT), .unset, .unset, .unset, .unset] [(.int (1 : Int32))])) (fun t k => XS.goto X12.here hx rfl (pc0 := 78) (pc' := 82) rfl (hb hby at_78) (by decide) (by decide) k) ?_
      refine own_adv (B := T12.setTop (mkF m 84 #[.val (.int p1), .val (.int p2), .val (.int (0 : Int32)), .val (.int (0 : Int32)), .val (.ref w_BOTH_DEFAULT), .val (.int (1 : Int32)), .unset, .unset, .unset] [])) (fun t k => XS.istore X12.here hx rfl (hb hby at_82) rfl (l' := #[.val (.int p1), .val (.int p2), .val (.int (0 : Int32)), .val (.int (0 : Int32)), .val (.ref w_BOTH_DEFAULT), .val (.int (1 : Int32)), .unset, .unset, .unset]) rfl k) ?_
      refine own_adv (B := T12.setTop (mkF m 86 #[.val (.int p1), .val (.int p2), .val (.int (0 : Int32)), .val (.int (0 : Int32)), .val (.ref w_BOTH_DEFAULT), .val (.int (1 : Int32)), .unset, .unset, .unset] [(.ref w_BOTH_DEFAULT)])) (fun t k => XS.aload X12.here hx rfl (hb hby at_84) rfl rfl k) ?_
      obtain ⟨T13, X13, e13, st13⟩ := getS2 X12 hx hZ hown (host := "") (Or.inl (hw _ (List.mem_of_getElem? (i := 10) rfl))) Via.refl e12 S_SELLER_DEFAULT (g := (mkF m 86 #[.val (.int p1), .val (.int p2), .val (.int (0 : Int32)), .val (.int (0 : Int32)), .val (.ref w_BOTH_DEFAULT), .val (.int (1 : Int32)), .unset, .unset, .unset] [(.ref w_BOTH_DEFAULT)])) rfl (hb hby at_86)
      refine own_adv (B := T13.setTop (mkF m 89 #[.val (.int p1), .val (.int p2), .val (.int (0 : Int32)), .val (.int (0 : Int32)), .val (.ref w_BOTH_DEFAULT), .val (.int (1 : Int32)), .unset, .unset, .unset] [(.ref w_SELLER_DEFAULT), (.ref w_BOTH_DEFAULT)])) st13 ?_
      refine own_adv (B := T13.setTop (mkF m 96 #[.val (.int p1), .val (.int p2), .val (.int (0 : Int32)), .val (.int (0 : Int32)), .val (.ref w_BOTH_DEFAULT), .val (.int (1 : Int32)), .unset, .unset, .unset] [])) (fun t k => Jvm.RoadKit.acmp (g := (mkF m 89 #[.val (.int p1), .val (.int p2), .val (.int (0 : Int32)), .val (.int (0 : Int32)), .val (.ref w_BOTH_DEFAULT), .val (.int (1 : Int32)), .unset, .unset, .unset] [(.ref w_SELLER_DEFAULT), (.ref w_BOTH_DEFAULT)])) X13 hx rfl rfl rfl (pc0 := 89) (pc' := 96) (same := false) rfl (hb hby at_89) rfl (decide_eq_false fun q => (Fld.ne F_ordinal_BOTH_DEFAULT F_ordinal_SELLER_DEFAULT (by simp)) (Value.ref.inj q)) (by decide) (by decide) k) ?_
      refine own_adv (B := T13.setTop (mkF m 97 #[.val (.int p1), .val (.int p2), .val (.int (0 : Int32)), .val (.int (0 : Int32)), .val (.ref w_BOTH_DEFAULT), .val (.int (1 : Int32)), .unset, .unset, .unset] [(.int (0 : Int32))])) (fun t k => XS.iconst X13.here hx rfl (hb hby at_96) k) ?_
      refine own_adv (B := T13.setTop (mkF m 98 #[.val (.int p1), .val (.int p2), .val (.int (0 : Int32)), .val (.int (0 : Int32)), .val (.ref w_BOTH_DEFAULT), .val (.int (1 : Int32)), .unset, .unset, .unset] [(.int (0 : Int32)), (.int (0 : Int32))])) (fun t k => XS.iloadN X13.here hx rfl (hb hby at_97) rfl k) ?_
      refine own_adv (B := T13.setTop (mkF m 109 #[.val (.int p1), .val (.int p2), .val (.int (0 : Int32)), .val (.int (0 : Int32)), .val (.ref w_BOTH_DEFAULT), .val (.int (1 : Int32)), .unset, .unset, .unset] [(.int (0 : Int32))])) (fun t k => XS.ifYes X13.here hx rfl (pc0 := 98) (pc' := 109) rfl (hb hby at_98) rfl ((if0 _ _).trans (teq (rfl : (0 : Int32) = (0 : Int32))).1) (by decide) (by decide) k) ?_
      refine own_adv (B := T13.setTop (mkF m 110 #[.val (.int p1), .val (.int p2), .val (.int (0 : Int32)), .val (.int (0 : Int32)), .val (.ref w_BOTH_DEFAULT), .val (.int (1 : Int32)), .unset, .unset, .unset] [(.int (0 : Int32)), (.int (0 : Int32))])) (fun t k => XS.iconst X13.here hx rfl (hb hby at_109) k) ?_
      refine own_adv (B := T13.setTop (mkF m 113 #[.val (.int p1), .val (.int p2), .val (.int (0 : Int32)), .val (.int (0 : Int32)), .val (.ref w_BOTH_DEFAULT), .val (.int (1 : Int32)), .unset, .unset, .unset] [])) (fun t k => XS.icmpNo X13.here hx rfl (hb hby at_110) rfl (teq (rfl : (0 : Int32) = (0 : Int32))).2 k) ?_
      refine own_adv (B := T13.setTop (mkF m 114 #[.val (.int p1), .val (.int p2), .val (.int (0 : Int32)), .val (.int (0 : Int32)), .val (.ref w_BOTH_DEFAULT), .val (.int (1 : Int32)), .unset, .unset, .unset] [(.int (1 : Int32))])) (fun t k => XS.iconst X13.here hx rfl (hb hby at_113) k) ?_
      refine own_adv (B := T13.setTop (mkF m 118 #[.val (.int p1), .val (.int p2), .val (.int (0 : Int32)), .val (.int (0 : Int32)), .val (.ref w_BOTH_DEFAULT), .val (.int (1 : Int32)), .unset, .unset, .unset] [(.int (1 : Int32))])) (fun t k => XS.goto X13.here hx rfl (pc0 := 114) (pc' := 118) rfl (hb hby at_114) (by decide) (by decide) k) ?_
      refine own_adv (B := T13.setTop (mkF m 120 #[.val (.int p1), .val (.int p2), .val (.int (0 : Int32)), .val (.int (0 : Int32)), .val (.ref w_BOTH_DEFAULT), .val (.int (1 : Int32)), .val (.int (1 : Int32)), .unset, .unset] [])) (fun t k => XS.istore X13.here hx rfl (hb hby at_118) rfl (l' := #[.val (.int p1), .val (.int p2), .val (.int (0 : Int32)), .val (.int (0 : Int32)), .val (.ref w_BOTH_DEFAULT), .val (.int (1 : Int32)), .val (.int (1 : Int32)), .unset, .unset]) rfl k) ?_
      refine own_adv (B := T13.setTop (mkF m 122 #[.val (.int p1), .val (.int p2), .val (.int (0 : Int32)), .val (.int (0 : Int32)), .val (.ref w_BOTH_DEFAULT), .val (.int (1 : Int32)), .val (.int (1 : Int32)), .unset, .unset] [(.ref w_BOTH_DEFAULT)])) (fun t k => XS.aload X13.here hx rfl (hb hby at_120) rfl rfl k) ?_
      obtain ⟨T14, X14, e14, st14⟩ := getS2 X13 hx hZ hown (host := "") (Or.inl (hw _ (List.mem_of_getElem? (i := 11) rfl))) Via.refl e13 S_BUYER_DEFAULT (g := (mkF m 122 #[.val (.int p1), .val (.int p2), .val (.int (0 : Int32)), .val (.int (0 : Int32)), .val (.ref w_BOTH_DEFAULT), .val (.int (1 : Int32)), .val (.int (1 : Int32)), .unset, .unset] [(.ref w_BOTH_DEFAULT)])) rfl (hb hby at_122)
      refine own_adv (B := T14.setTop (mkF m 125 #[.val (.int p1), .val (.int p2), .val (.int (0 : Int32)), .val (.int (0 : Int32)), .val (.ref w_BOTH_DEFAULT), .val (.int (1 : Int32)), .val (.int (1 : Int32)), .unset, .unset] [(.ref w_BUYER_DEFAULT), (.ref w_BOTH_DEFAULT)])) st14 ?_
      refine own_adv (B := T14.setTop (mkF m 132 #[.val (.int p1), .val (.int p2), .val (.int (0 : Int32)), .val (.int (0 : Int32)), .val (.ref w_BOTH_DEFAULT), .val (.int (1 : Int32)), .val (.int (1 : Int32)), .unset, .unset] [])) (fun t k => Jvm.RoadKit.acmp (g := (mkF m 125 #[.val (.int p1), .val (.int p2), .val (.int (0 : Int32)), .val (.int (0 : Int32)), .val (.ref w_BOTH_DEFAULT), .val (.int (1 : Int32)), .val (.int (1 : Int32)), .unset, .unset] [(.ref w_BUYER_DEFAULT), (.ref w_BOTH_DEFAULT)])) X14 hx rfl rfl rfl (pc0 := 125) (pc' := 132) (same := false) rfl (hb hby at_125) rfl (decide_eq_false fun q => (Fld.ne F_ordinal_BOTH_DEFAULT F_ordinal_BUYER_DEFAULT (by simp)) (Value.ref.inj q)) (by decide) (by decide) k) ?_
      refine own_adv (B := T14.setTop (mkF m 133 #[.val (.int p1), .val (.int p2), .val (.int (0 : Int32)), .val (.int (0 : Int32)), .val (.ref w_BOTH_DEFAULT), .val (.int (1 : Int32)), .val (.int (1 : Int32)), .unset, .unset] [(.int (0 : Int32))])) (fun t k => XS.iconst X14.here hx rfl (hb hby at_132) k) ?_
      refine own_adv (B := T14.setTop (mkF m 134 #[.val (.int p1), .val (.int p2), .val (.int (0 : Int32)), .val (.int (0 : Int32)), .val (.ref w_BOTH_DEFAULT), .val (.int (1 : Int32)), .val (.int (1 : Int32)), .unset, .unset] [(.int (0 : Int32)), (.int (0 : Int32))])) (fun t k => XS.iloadN X14.here hx rfl (hb hby at_133) rfl k) ?_
      refine own_adv (B := T14.setTop (mkF m 145 #[.val (.int p1), .val (.int p2), .val (.int (0 : Int32)), .val (.int (0 : Int32)), .val (.ref w_BOTH_DEFAULT), .val (.int (1 : Int32)), .val (.int (1 : Int32)), .unset, .unset] [(.int (0 : Int32))])) (fun t k => XS.ifYes X14.here hx rfl (pc0 := 134) (pc' := 145) rfl (hb hby at_134) rfl ((if0 _ _).trans (teq (rfl : (0 : Int32) = (0 : Int32))).1) (by decide) (by decide) k) ?_
      refine own_adv (B := T14.setTop (mkF m 146 #[.val (.int p1), .val (.int p2), .val (.int (0 : Int32)), .val (.int (0 : Int32)), .val (.ref w_BOTH_DEFAULT), .val (.int (1 : Int32)), .val (.int (1 : Int32)), .unset, .unset] [(.int (0 : Int32)), (.int (0 : Int32))])) (fun t k => XS.iconst X14.here hx rfl (hb hby at_145) k) ?_
      refine own_adv (B := T14.setTop (mkF m 149 #[.val (.int p1), .val (.int p2), .val (.int (0 : Int32)), .val (.int (0 : Int32)), .val (.ref w_BOTH_DEFAULT), .val (.int (1 : Int32)), .val (.int (1 : Int32)), .unset, .unset] [])) (fun t k => XS.icmpNo X14.here hx rfl (hb hby at_146) rfl (teq (rfl : (0 : Int32) = (0 : Int32))).2 k) ?_
      refine own_adv (B := T14.setTop (mkF m 150 #[.val (.int p1), .val (.int p2), .val (.int (0 : Int32)), .val (.int (0 : Int32)), .val (.ref w_BOTH_DEFAULT), .val (.int (1 : Int32)), .val (.int (1 : Int32)), .unset, .unset] [(.int (1 : Int32))])) (fun t k => XS.iconst X14.here hx rfl (hb hby at_149) k) ?_
      refine own_adv (B := T14.setTop (mkF m 154 #[.val (.int p1), .val (.int p2), .val (.int (0 : Int32)), .val (.int (0 : Int32)), .val (.ref w_BOTH_DEFAULT), .val (.int (1 : Int32)), .val (.int (1 : Int32)), .unset, .unset] [(.int (1 : Int32))])) (fun t k => XS.goto X14.here hx rfl (pc0 := 150) (pc' := 154) rfl (hb hby at_150) (by decide) (by decide) k) ?_
      refine own_adv (B := T14.setTop (mkF m 156 #[.val (.int p1), .val (.int p2), .val (.int (0 : Int32)), .val (.int (0 : Int32)), .val (.ref w_BOTH_DEFAULT), .val (.int (1 : Int32)), .val (.int (1 : Int32)), .val (.int (1 : Int32)), .unset] [])) (fun t k => XS.istore X14.here hx rfl (hb hby at_154) rfl (l' := #[.val (.int p1), .val (.int p2), .val (.int (0 : Int32)), .val (.int (0 : Int32)), .val (.ref w_BOTH_DEFAULT), .val (.int (1 : Int32)), .val (.int (1 : Int32)), .val (.int (1 : Int32)), .unset]) rfl k) ?_
      refine own_adv (B := T14.setTop (mkF m 158 #[.val (.int p1), .val (.int p2), .val (.int (0 : Int32)), .val (.int (0 : Int32)), .val (.ref w_BOTH_DEFAULT), .val (.int (1 : Int32)), .val (.int (1 : Int32)), .val (.int (1 : Int32)), .unset] [(.ref w_BOTH_DEFAULT)])) (fun t k => XS.aload X14.here hx rfl (hb hby at_156) rfl rfl k) ?_
      obtain ⟨T15, X15, e15, st15⟩ := getS2 X14 hx hZ hown (host := "") (Or.inl (hw _ (List.mem_of_getElem? (i := 13) rfl))) Via.refl e14 S_BOTH_DEFAULT (g := (mkF m 158 #[.val (.int p1), .val (.int p2), .val (.int (0 : Int32)), .val (.int (0 : Int32)), .val (.ref w_BOTH_DEFAULT), .val (.int (1 : Int32)), .val (.int (1 : Int32)), .val (.int (1 : Int32)), .unset] [(.ref w_BOTH_DEFAULT)])) rfl (hb hby at_158)
      refine own_adv (B := T15.setTop (mkF m 161 #[.val (.int p1), .val (.int p2), .val (.int (0 : Int32)), .val (.int (0 : Int32)), .val (.ref w_BOTH_DEFAULT), .val (.int (1 : Int32)), .val (.int (1 : Int32)), .val (.int (1 : Int32)), .unset] [(.ref w_BOTH_DEFAULT), (.ref w_BOTH_DEFAULT)])) st15 ?_
      refine own_adv (B := T15.setTop (mkF m 164 #[.val (.int p1), .val (.int p2), .val (.int (0 : Int32)), .val (.int (0 : Int32)), .val (.ref w_BOTH_DEFAULT), .val (.int (1 : Int32)), .val (.int (1 : Int32)), .val (.int (1 : Int32)), .unset] [])) (fun t k => Jvm.RoadKit.acmp (g := (mkF m 161 #[.val (.int p1), .val (.int p2), .val (.int (0 : Int32)), .val (.int (0 : Int32)), .val (.ref w_BOTH_DEFAULT), .val (.int (1 : Int32)), .val (.int (1 : Int32)), .val (.int (1 : Int32)), .unset] [(.ref w_BOTH_DEFAULT), (.ref w_BOTH_DEFAULT)])) X15 hx rfl rfl rfl (pc0 := 161) (pc' := 164) (same := true) rfl (hb hby at_161) rfl (decide_eq_true rfl) (by decide) (by decide) k) ?_
      refine own_adv (B := T15.setTop (mkF m 165 #[.val (.int p1), .val (.int p2), .val (.int (0 : Int32)), .val (.int (0 : Int32)), .val (.ref w_BOTH_DEFAULT), .val (.int (1 : Int32)), .val (.int (1 : Int32)), .val (.int (1 : Int32)), .unset] [(.int (1 : Int32))])) (fun t k => XS.iconst X15.here hx rfl (hb hby at_164) k) ?_
      refine own_adv (B := T15.setTop (mkF m 169 #[.val (.int p1), .val (.int p2), .val (.int (0 : Int32)), .val (.int (0 : Int32)), .val (.ref w_BOTH_DEFAULT), .val (.int (1 : Int32)), .val (.int (1 : Int32)), .val (.int (1 : Int32)), .unset] [(.int (1 : Int32))])) (fun t k => XS.goto X15.here hx rfl (pc0 := 165) (pc' := 169) rfl (hb hby at_165) (by decide) (by decide) k) ?_
      refine own_adv (B := T15.setTop (mkF m 170 #[.val (.int p1), .val (.int p2), .val (.int (0 : Int32)), .val (.int (0 : Int32)), .val (.ref w_BOTH_DEFAULT), .val (.int (1 : Int32)), .val (.int (1 : Int32)), .val (.int (1 : Int32)), .unset] [(.int (0 : Int32)), (.int (1 : Int32))])) (fun t k => XS.iloadN X15.here hx rfl (hb hby at_169) rfl k) ?_
      refine own_adv (B := T15.setTop (mkF m 173 #[.val (.int p1), .val (.int p2), .val (.int (0 : Int32)), .val (.int (0 : Int32)), .val (.ref w_BOTH_DEFAULT), .val (.int (1 : Int32)), .val (.int (1 : Int32)), .val (.int (1 : Int32)), .unset] [(.int (1 : Int32))])) (fun t k => XS.ifNo X15.here hx rfl (hb hby at_170) rfl ((if0 _ _).trans (teq (rfl : (0 : Int32) = (0 : Int32))).2) k) ?_
      refine own_adv (B := T15.setTop (mkF m 174 #[.val (.int p1), .val (.int p2), .val (.int (0 : Int32)), .val (.int (0 : Int32)), .val (.ref w_BOTH_DEFAULT), .val (.int (1 : Int32)), .val (.int (1 : Int32)), .val (.int (1 : Int32)), .unset] [(.int (0 : Int32)), (.int (1 : Int32))])) (fun t k => XS.iloadN X15.here hx rfl (hb hby at_173) rfl k) ?_
      refine own_adv (B := T15.setTop (mkF m 177 #[.val (.int p1), .val (.int p2), .val (.int (0 : Int32)), .val (.int (0 : Int32)), .val (.ref w_BOTH_DEFAULT), .val (.int (1 : Int32)), .val (.int (1 : Int32)), .val (.int (1 : Int32)), .unset] [(.int (1 : Int32))])) (fun t k => XS.ifNo X15.here hx rfl (hb hby at_174) rfl ((if0 _ _).trans (teq (rfl : (0 : Int32) = (0 : Int32))).2) k) ?_
      refine own_adv (B := T15.setTop (mkF m 178 #[.val (.int p1), .val (.int p2), .val (.int (0 : Int32)), .val (.int (0 : Int32)), .val (.ref w_BOTH_DEFAULT), .val (.int (1 : Int32)), .val (.int (1 : Int32)), .val (.int (1 : Int32)), .unset] [(.int (1 : Int32)), (.int (1 : Int32))])) (fun t k => XS.iconst X15.here hx rfl (hb hby at_177) k) ?_
      refine own_adv (B := T15.setTop (mkF m 182 #[.val (.int p1), .val (.int p2), .val (.int (0 : Int32)), .val (.int (0 : Int32)), .val (.ref w_BOTH_DEFAULT), .val (.int (1 : Int32)), .val (.int (1 : Int32)), .val (.int (1 : Int32)), .unset] [(.int (1 : Int32)), (.int (1 : Int32))])) (fun t k => XS.goto X15.here hx rfl (pc0 := 178) (pc' := 182) rfl (hb hby at_178) (by decide) (by decide) k) ?_
      refine own_adv (B := T15.setTop (mkF m 185 #[.val (.int p1), .val (.int p2), .val (.int (0 : Int32)), .val (.int (0 : Int32)), .val (.ref w_BOTH_DEFAULT), .val (.int (1 : Int32)), .val (.int (1 : Int32)), .val (.int (1 : Int32)), .unset] [])) (fun t k => XS.icmpNo X15.here hx rfl (hb hby at_182) rfl (teq (rfl : (1 : Int32) = (1 : Int32))).2 k) ?_
      refine own_adv (B := T15.setTop (mkF m 186 #[.val (.int p1), .val (.int p2), .val (.int (0 : Int32)), .val (.int (0 : Int32)), .val (.ref w_BOTH_DEFAULT), .val (.int (1 : Int32)), .val (.int (1 : Int32)), .val (.int (1 : Int32)), .unset] [(.int (1 : Int32))])) (fun t k => XS.iconst X15.here hx rfl (hb hby at_185) k) ?_
      refine own_adv (B := T15.setTop (mkF m 190 #[.val (.int p1), .val (.int p2), .val (.int (0 : Int32)), .val (.int (0 : Int32)), .val (.ref w_BOTH_DEFAULT), .val (.int (1 : Int32)), .val (.int (1 : Int32)), .val (.int (1 : Int32)), .unset] [(.int (1 : Int32))])) (fun t k => XS.goto X15.here hx rfl (pc0 := 186) (pc' := 190) rfl (hb hby at_186) (by decide) (by decide) k) ?_
      refine own_adv (B := T15.setTop (mkF m 192 #[.val (.int p1), .val (.int p2), .val (.int (0 : Int32)), .val (.int (0 : Int32)), .val (.ref w_BOTH_DEFAULT), .val (.int (1 : Int32)), .val (.int (1 : Int32)), .val (.int (1 : Int32)), .val (.int (1 : Int32))] [])) (fun t k => XS.istore X15.here hx rfl (hb hby at_190) rfl (l' := #[.val (.int p1), .val (.int p2), .val (.int (0 : Int32)), .val (.int (0 : Int32)), .val (.ref w_BOTH_DEFAULT), .val (.int (1 : Int32)), .val (.int (1 : Int32)), .val (.int (1 : Int32)), .val (.int (1 : Int32))]) rfl k) ?_
      refine own_adv (B := T15.setTop (mkF m 194 #[.val (.int p1), .val (.int p2), .val (.int (0 : Int32)), .val (.int (0 : Int32)), .val (.ref w_BOTH_DEFAULT), .val (.int (1 : Int32)), .val (.int (1 : Int32)), .val (.int (1 : Int32)), .val (.int (1 : Int32))] [(.int (1 : Int32))])) (fun t k => XS.iload X15.here hx rfl (hb hby at_192) rfl k) ?_
      refine own_adv (B := T15.setTop (mkF m 197 #[.val (.int p1), .val (.int p2), .val (.int (0 : Int32)), .val (.int (0 : Int32)), .val (.ref w_BOTH_DEFAULT), .val (.int (1 : Int32)), .val (.int (1 : Int32)), .val (.int (1 : Int32)), .val (.int (1 : Int32))] [])) (fun t k => XS.ifNo X15.here hx rfl (hb hby at_194) rfl ((if0 _ _).trans (feq (by decide)).1) k) ?_
      refine own_adv (B := T15.setTop (mkF m 199 #[.val (.int p1), .val (.int p2), .val (.int (0 : Int32)), .val (.int (0 : Int32)), .val (.ref w_BOTH_DEFAULT), .val (.int (1 : Int32)), .val (.int (1 : Int32)), .val (.int (1 : Int32)), .val (.int (1 : Int32))] [(.int (1 : Int32))])) (fun t k => XS.iload X15.here hx rfl (hb hby at_197) rfl k) ?_
      refine own_adv (B := T15.setTop (mkF m 202 #[.val (.int p1), .val (.int p2), .val (.int (0 : Int32)), .val (.int (0 : Int32)), .val (.ref w_BOTH_DEFAULT), .val (.int (1 : Int32)), .val (.int (1 : Int32)), .val (.int (1 : Int32)), .val (.int (1 : Int32))] [])) (fun t k => XS.ifNo X15.here hx rfl (hb hby at_199) rfl ((if0 _ _).trans (feq (by decide)).1) k) ?_
      refine own_adv (B := T15.setTop (mkF m 204 #[.val (.int p1), .val (.int p2), .val (.int (0 : Int32)), .val (.int (0 : Int32)), .val (.ref w_BOTH_DEFAULT), .val (.int (1 : Int32)), .val (.int (1 : Int32)), .val (.int (1 : Int32)), .val (.int (1 : Int32))] [(.int (1 : Int32))])) (fun t k => XS.iload X15.here hx rfl (hb hby at_202) rfl k) ?_
      refine own_adv (B := T15.setTop (mkF m 207 #[.val (.int p1), .val (.int p2), .val (.int (0 : Int32)), .val (.int (0 : Int32)), .val (.ref w_BOTH_DEFAULT), .val (.int (1 : Int32)), .val (.int (1 : Int32)), .val (.int (1 : Int32)), .val (.int (1 : Int32))] [])) (fun t k => XS.ifNo X15.here hx rfl (hb hby at_204) rfl ((if0 _ _).trans (feq (by decide)).1) k) ?_
      refine own_adv (B := T15.setTop (mkF m 209 #[.val (.int p1), .val (.int p2), .val (.int (0 : Int32)), .val (.int (0 : Int32)), .val (.ref w_BOTH_DEFAULT), .val (.int (1 : Int32)), .val (.int (1 : Int32)), .val (.int (1 : Int32)), .val (.int (1 : Int32))] [(.int (1 : Int32))])) (fun t k => XS.iload X15.here hx rfl (hb hby at_207) rfl k) ?_
      refine own_adv (B := T15.setTop (mkF m 212 #[.val (.int p1), .val (.int p2), .val (.int (0 : Int32)), .val (.int (0 : Int32)), .val (.ref w_BOTH_DEFAULT), .val (.int (1 : Int32)), .val (.int (1 : Int32)), .val (.int (1 : Int32)), .val (.int (1 : Int32))] [])) (fun t k => XS.ifNo X15.here hx rfl (hb hby at_209) rfl ((if0 _ _).trans (feq (by decide)).1) k) ?_
      refine own_adv (B := T15.setTop (mkF m 213 #[.val (.int p1), .val (.int p2), .val (.int (0 : Int32)), .val (.int (0 : Int32)), .val (.ref w_BOTH_DEFAULT), .val (.int (1 : Int32)), .val (.int (1 : Int32)), .val (.int (1 : Int32)), .val (.int (1 : Int32))] [(.int (1 : Int32))])) (fun t k => XS.iconst X15.here hx rfl (hb hby at_212) k) ?_
      refine own_adv (B := T15.setTop (mkF m 217 #[.val (.int p1), .val (.int p2), .val (.int (0 : Int32)), .val (.int (0 : Int32)), .val (.ref w_BOTH_DEFAULT), .val (.int (1 : Int32)), .val (.int (1 : Int32)), .val (.int (1 : Int32)), .val (.int (1 : Int32))] [(.int (1 : Int32))])) (fun t k => XS.goto X15.here hx rfl (pc0 := 213) (pc' := 217) rfl (hb hby at_213) (by decide) (by decide) k) ?_
      obtain ⟨fs, hr, hrun, hended, hW, hsame⟩ := X15.leave (v := some (.int (1 : Int32))) (fun h => by rw [Bd.returns] at h; cases h)
      refine ⟨_, _, retN X15 hx (t := .boolean) Bd.returns (by simp) (hb hby at_217) hr, hrun, hended, _, _, rfl, ?_, ⟨_, rfl⟩, hW, hsame.mono (by decide) (by decide)⟩
      exact ⟨rfl, N10⟩
    refine own_adv (B := s₁.setTop (mkF m 18 #[.val (.int p1), .val (.int p2), .val (.int (0 : Int32)), .unset, .unset, .unset, .unset, .unset, .unset] [])) (fun t k => XS.ifNo X0.here hx rfl (hb hby at_15) rfl ((if0 _ _).trans (feq ht).1) k) ?_
    refine own_adv (B := s₁.setTop (mkF m 19 #[.val (.int p1), .val (.int p2), .val (.int (0 : Int32)), .unset, .unset, .unset, .unset, .unset, .unset] [(.int (1 : Int32))])) (fun t k => XS.iconst X0.here hx rfl (hb hby at_18) k) ?_
    refine own_adv (B := s₁.setTop (mkF m 23 #[.val (.int p1), .val (.int p2), .val (.int (0 : Int32)), .unset, .unset, .unset, .unset, .unset, .unset] [(.int (1 : Int32))])) (fun t k => XS.goto X0.here hx rfl (pc0 := 19) (pc' := 23) rfl (hb hby at_19) (by decide) (by decide) k) ?_
    refine own_adv (B := s₁.setTop (mkF m 24 #[.val (.int p1), .val (.int p2), .val (.int (0 : Int32)), .val (.int (1 : Int32)), .unset, .unset, .unset, .unset, .unset] [])) (fun t k => XS.istoreN X0.here hx rfl (hb hby at_23) rfl (l' := #[.val (.int p1), .val (.int p2), .val (.int (0 : Int32)), .val (.int (1 : Int32)), .unset, .unset, .unset, .unset, .unset]) rfl k) ?_
    refine own_adv (B := s₁.setTop (mkF m 25 #[.val (.int p1), .val (.int p2), .val (.int (0 : Int32)), .val (.int (1 : Int32)), .unset, .unset, .unset, .unset, .unset] [(.int (0 : Int32))])) (fun t k => XS.iloadN X0.here hx rfl (hb hby at_24) rfl k) ?_
    refine own_adv (B := s₁.setTop (mkF m 26 #[.val (.int p1), .val (.int p2), .val (.int (0 : Int32)), .val (.int (1 : Int32)), .unset, .unset, .unset, .unset, .unset] [(.int (1 : Int32)), (.int (0 : Int32))])) (fun t k => XS.iloadN X0.here hx rfl (hb hby at_25) rfl k) ?_
    obtain ⟨_, _, ⟨T16, L16, k16, n16⟩, -, X16, ⟨Lc16, hQ16, l16, y16, z16⟩, st16⟩ := Jvm.LawKit.callS X0 hx (y := (⟨"com/example/kharman/kharman/DeliveryStatus", "settled", "(ZZ)Lcom/example/kharman/kharman/DeliveryStatus;"⟩ : MethodName)) hown (mvT hZ (hw _ (List.mem_of_getElem? (i := 0) rfl))) (mvT hZ (hw _ (List.mem_of_getElem? (i := 1) rfl))) (mvT hZ (hw _ (List.mem_of_getElem? (i := 2) rfl))) (mvT hZ (hw _ (List.mem_of_getElem? (i := 3) rfl))) (by decide) (backOf (W := 0) (rm1 l Z a0 hw [] (0 : Int32) (1 : Int32) w_DELIVERED w_SELLER_DEFAULT w_BUYER_DEFAULT w_BOTH_DEFAULT w_SELLER_DEFAULT h0 n0 Z0 S_DELIVERED S_SELLER_DEFAULT S_BUYER_DEFAULT S_BOTH_DEFAULT (Or.inr (Or.inl ⟨rfl, rfl, rfl⟩))) hZ (hw _ (List.mem_of_getElem? (i := 3) rfl)) (hw _ (List.mem_of_getElem? (i := 2) rfl)) (by decide) (by decide)) (g := (mkF m 26 #[.val (.int p1), .val (.int p2), .val (.int (0 : Int32)), .val (.int (1 : Int32)), .unset, .unset, .unset, .unset, .unset] [(.int (1 : Int32)), (.int (0 : Int32))])) rfl (by rw [hml]; rfl) (argsL := [(.int (0 : Int32)), (.int (1 : Int32))]) (rest := []) (lenOf own_pd__ZZ_Lcom_example_kharman_kharman_DeliveryStatus_ rfl) rfl (by show 2 * 0 + _ ≤ _; exact Nat.le_of_eq rfl) (hb hby at_26) (fun _ _ => ⟨rfl, e0, (by decide : 0 + 0 ≤ _), (by decide : 0 + 0 ≤ _)⟩)
    dsimp only [Pt.U, Pt.locs, Pt.cells, Pt.slots] at X16 l16 y16 z16 st16 hQ16
    subst l16 y16 z16
    obtain ⟨rfl, N16q, e16⟩ := hQ16
    have N16 := Fr.app N0 N16q
    refine own_adv (B := T16.setTop (mkF m 29 #[.val (.int p1), .val (.int p2), .val (.int (0 : Int32)), .val (.int (1 : Int32)), .unset, .unset, .unset, .unset, .unset] [(.ref w_SELLER_DEFAULT)])) (fun t k => st16 t k) ?_
    refine own_adv (B := T16.setTop (mkF m 31 #[.val (.int p1), .val (.int p2), .val (.int (0 : Int32)), .val (.int (1 : Int32)), .val (.ref w_SELLER_DEFAULT), .unset, .unset, .unset, .unset] [])) (fun t k => XS.astore X16.here hx rfl (hb hby at_29) rfl rfl (l' := #[.val (.int p1), .val (.int p2), .val (.int (0 : Int32)), .val (.int (1 : Int32)), .val (.ref w_SELLER_DEFAULT), .unset, .unset, .unset, .unset]) rfl k) ?_
    refine own_adv (B := T16.setTop (mkF m 33 #[.val (.int p1), .val (.int p2), .val (.int (0 : Int32)), .val (.int (1 : Int32)), .val (.ref w_SELLER_DEFAULT), .unset, .unset, .unset, .unset] [(.ref w_SELLER_DEFAULT)])) (fun t k => XS.aload X16.here hx rfl (hb hby at_31) rfl rfl k) ?_
    refine own_adv (B := T16.setTop (mkF m 38 #[.val (.int p1), .val (.int p2), .val (.int (0 : Int32)), .val (.int (1 : Int32)), .val (.ref w_SELLER_DEFAULT), .unset, .unset, .unset, .unset] [])) (fun t k => XS.ifnonnullYes X16.here hx rfl (pc0 := 33) (pc' := 38) rfl (hb hby at_33) rfl (by decide) (by decide) k) ?_
    refine own_adv (B := T16.setTop (mkF m 40 #[.val (.int p1), .val (.int p2), .val (.int (0 : Int32)), .val (.int (1 : Int32)), .val (.ref w_SELLER_DEFAULT), .unset, .unset, .unset, .unset] [(.ref w_SELLER_DEFAULT)])) (fun t k => XS.aload X16.here hx rfl (hb hby at_38) rfl rfl k) ?_
    obtain ⟨T17, X17, e17, st17⟩ := getS2 X16 hx hZ hown (host := "") (Or.inl (hw _ (List.mem_of_getElem? (i := 6) rfl))) Via.refl e16 S_PENDING (g := (mkF m 40 #[.val (.int p1), .val (.int p2), .val (.int (0 : Int32)), .val (.int (1 : Int32)), .val (.ref w_SELLER_DEFAULT), .unset, .unset, .unset, .unset] [(.ref w_SELLER_DEFAULT)])) rfl (hb hby at_40)
    refine own_adv (B := T17.setTop (mkF m 43 #[.val (.int p1), .val (.int p2), .val (.int (0 : Int32)), .val (.int (1 : Int32)), .val (.ref w_SELLER_DEFAULT), .unset, .unset, .unset, .unset] [(.ref w_PENDING), (.ref w_SELLER_DEFAULT)])) st17 ?_
    refine own_adv (B := T17.setTop (mkF m 48 #[.val (.int p1), .val (.int p2), .val (.int (0 : Int32)), .val (.int (1 : Int32)), .val (.ref w_SELLER_DEFAULT), .unset, .unset, .unset, .unset] [])) (fun t k => Jvm.RoadKit.acmp (g := (mkF m 43 #[.val (.int p1), .val (.int p2), .val (.int (0 : Int32)), .val (.int (1 : Int32)), .val (.ref w_SELLER_DEFAULT), .unset, .unset, .unset, .unset] [(.ref w_PENDING), (.ref w_SELLER_DEFAULT)])) X17 hx rfl rfl rfl (pc0 := 43) (pc' := 48) (same := false) rfl (hb hby at_43) rfl (decide_eq_false fun q => (Fld.ne F_ordinal_SELLER_DEFAULT F_ordinal_PENDING (by simp)) (Value.ref.inj q)) (by decide) (by decide) k) ?_
    refine own_adv (B := T17.setTop (mkF m 50 #[.val (.int p1), .val (.int p2), .val (.int (0 : Int32)), .val (.int (1 : Int32)), .val (.ref w_SELLER_DEFAULT), .unset, .unset, .unset, .unset] [(.ref w_SELLER_DEFAULT)])) (fun t k => XS.aload X17.here hx rfl (hb hby at_48) rfl rfl k) ?_
    obtain ⟨T18, X18, e18, st18⟩ := getS2 X17 hx hZ hown (host := "") (Or.inl (hw _ (List.mem_of_getElem? (i := 8) rfl))) Via.refl e17 S_DELIVERED (g := (mkF m 50 #[.val (.int p1), .val (.int p2), .val (.int (0 : Int32)), .val (.int (1 : Int32)), .val (.ref w_SELLER_DEFAULT), .unset, .unset, .unset, .unset] [(.ref w_SELLER_DEFAULT)])) rfl (hb hby at_50)
    refine own_adv (B := T18.setTop (mkF m 53 #[.val (.int p1), .val (.int p2), .val (.int (0 : Int32)), .val (.int (1 : Int32)), .val (.ref w_SELLER_DEFAULT), .unset, .unset, .unset, .unset] [(.ref w_DELIVERED), (.ref w_SELLER_DEFAULT)])) st18 ?_
    refine own_adv (B := T18.setTop (mkF m 60 #[.val (.int p1), .val (.int p2), .val (.int (0 : Int32)), .val (.int (1 : Int32)), .val (.ref w_SELLER_DEFAULT), .unset, .unset, .unset, .unset] [])) (fun t k => Jvm.RoadKit.acmp (g := (mkF m 53 #[.val (.int p1), .val (.int p2), .val (.int (0 : Int32)), .val (.int (1 : Int32)), .val (.ref w_SELLER_DEFAULT), .unset, .unset, .unset, .unset] [(.ref w_DELIVERED), (.ref w_SELLER_DEFAULT)])) X18 hx rfl rfl rfl (pc0 := 53) (pc' := 60) (same := false) rfl (hb hby at_53) rfl (decide_eq_false fun q => (Fld.ne F_ordinal_SELLER_DEFAULT F_ordinal_DELIVERED (by simp)) (Value.ref.inj q)) (by decide) (by decide) k) ?_
    refine own_adv (B := T18.setTop (mkF m 61 #[.val (.int p1), .val (.int p2), .val (.int (0 : Int32)), .val (.int (1 : Int32)), .val (.ref w_SELLER_DEFAULT), .unset, .unset, .unset, .unset] [(.int (0 : Int32))])) (fun t k => XS.iconst X18.here hx rfl (hb hby at_60) k) ?_
    refine own_adv (B := T18.setTop (mkF m 62 #[.val (.int p1), .val (.int p2), .val (.int (0 : Int32)), .val (.int (1 : Int32)), .val (.ref w_SELLER_DEFAULT), .unset, .unset, .unset, .unset] [(.int (0 : Int32)), (.int (0 : Int32))])) (fun t k => XS.iloadN X18.here hx rfl (hb hby at_61) rfl k) ?_
    refine own_adv (B := T18.setTop (mkF m 73 #[.val (.int p1), .val (.int p2), .val (.int (0 : Int32)), .val (.int (1 : Int32)), .val (.ref w_SELLER_DEFAULT), .unset, .unset, .unset, .unset] [(.int (0 : Int32))])) (fun t k => XS.ifYes X18.here hx rfl (pc0 := 62) (pc' := 73) rfl (hb hby at_62) rfl ((if0 _ _).trans (teq (rfl : (0 : Int32) = (0 : Int32))).1) (by decide) (by decide) k) ?_
    refine own_adv (B := T18.setTop (mkF m 74 #[.val (.int p1), .val (.int p2), .val (.int (0 : Int32)), .val (.int (1 : Int32)), .val (.ref w_SELLER_DEFAULT), .unset, .unset, .unset, .unset] [(.int (0 : Int32)), (.int (0 : Int32))])) (fun t k => XS.iconst X18.here hx rfl (hb hby at_73) k) ?_
    refine own_adv (B := T18.setTop (mkF m 77 #[.val (.int p1), .val (.int p2), .val (.int (0 : Int32)), .val (.int (1 : Int32)), .val (.ref w_SELLER_DEFAULT), .unset, .unset, .unset, .unset] [])) (fun t k => XS.icmpNo X18.here hx rfl (hb hby at_74) rfl (teq (rfl : (0 : Int32) = (0 : Int32))).2 k) ?_
    refine own_adv (B := T18.setTop (mkF m 78 #[.val (.int p1), .val (.int p2), .val (.int (0 : Int32)), .val (.int (1 : Int32)), .val (.ref w_SELLER_DEFAULT), .unset, .unset, .unset, .unset] [(.int (1 : Int32))])) (fun t k => XS.iconst X18.here hx rfl (hb hby at_77) k) ?_
    refine own_adv (B := T18.setTop (mkF m 82 #[.val (.int p1), .val (.int p2), .val (.int (0 : Int32)), .val (.int (1 : Int32)), .val (.ref w_SELLER_DEFAULT), .unset, .unset, .unset, .unset] [(.int (1 : Int32))])) (fun t k => XS.goto X18.here hx rfl (pc0 := 78) (pc' := 82) rfl (hb hby at_78) (by decide) (by decide) k) ?_
    refine own_adv (B := T18.setTop (mkF m 84 #[.val (.int p1), .val (.int p2), .val (.int (0 : Int32)), .val (.int (1 : Int32)), .val (.ref w_SELLER_DEFAULT), .val (.int (1 : Int32)), .unset, .unset, .unset] [])) (fun t k => XS.istore X18.here hx rfl (hb hby at_82) rfl (l' := #[.val (.int p1), .val (.int p2), .val (.int (0 : Int32)), .val (.int (1 : Int32)), .val (.ref w_SELLER_DEFAULT), .val (.int (1 : Int32)), .unset, .unset, .unset]) rfl k) ?_
    refine own_adv (B := T18.setTop (mkF m 86 #[.val (.int p1), .val (.int p2), .val (.int (0 : Int32)), .val (.int (1 : Int32)), .val (.ref w_SELLER_DEFAULT), .val (.int (1 : Int32)), .unset, .unset, .unset] [(.ref w_SELLER_DEFAULT)])) (fun t k => XS.aload X18.here hx rfl (hb hby at_84) rfl rfl k) ?_
    obtain ⟨T19, X19, e19, st19⟩ := getS2 X18 hx hZ hown (host := "") (Or.inl (hw _ (List.mem_of_getElem? (i := 10) rfl))) Via.refl e18 S_SELLER_DEFAULT (g := (mkF m 86 #[.val (.int p1), .val (.int p2), .val (.int (0 : Int32)), .val (.int (1 : Int32)), .val (.ref w_SELLER_DEFAULT), .val (.int (1 : Int32)), .unset, .unset, .unset] [(.ref w_SELLER_DEFAULT)])) rfl (hb hby at_86)
    refine own_adv (B := T19.setTop (mkF m 89 #[.val (.int p1), .val (.int p2), .val (.int (0 : Int32)), .val (.int (1 : Int32)), .val (.ref w_SELLER_DEFAULT), .val (.int (1 : Int32)), .unset, .unset, .unset] [(.ref w_SELLER_DEFAULT), (.ref w_SELLER_DEFAULT)])) st19 ?_
    refine own_adv (B := T19.setTop (mkF m 92 #[.val (.int p1), .val (.int p2), .val (.int (0 : Int32)), .val (.int (1 : Int32)), .val (.ref w_SELLER_DEFAULT), .val (.int (1 : Int32)), .unset, .unset, .unset] [])) (fun t k => Jvm.RoadKit.acmp (g := (mkF m 89 #[.val (.int p1), .val (.int p2), .val (.int (0 : Int32)), .val (.int (1 : Int32)), .val (.ref w_SELLER_DEFAULT), .val (.int (1 : Int32)), .unset, .unset, .unset] [(.ref w_SELLER_DEFAULT), (.ref w_SELLER_DEFAULT)])) X19 hx rfl rfl rfl (pc0 := 89) (pc' := 92) (same := true) rfl (hb hby at_89) rfl (decide_eq_true rfl) (by decide) (by decide) k) ?_
    refine own_adv (B := T19.setTop (mkF m 93 #[.val (.int p1), .val (.int p2), .val (.int (0 : Int32)), .val (.int (1 : Int32)), .val (.ref w_SELLER_DEFAULT), .val (.int (1 : Int32)), .unset, .unset, .unset] [(.int (1 : Int32))])) (fun t k => XS.iconst X19.here hx rfl (hb hby at_92) k) ?_
    refine own_adv (B := T19.setTop (mkF m 97 #[.val (.int p1), .val (.int p2), .val (.int (0 : Int32)), .val (.int (1 : Int32)), .val (.ref w_SELLER_DEFAULT), .val (.int (1 : Int32)), .unset, .unset, .unset] [(.int (1 : Int32))])) (fun t k => XS.goto X19.here hx rfl (pc0 := 93) (pc' := 97) rfl (hb hby at_93) (by decide) (by decide) k) ?_
    refine own_adv (B := T19.setTop (mkF m 98 #[.val (.int p1), .val (.int p2), .val (.int (0 : Int32)), .val (.int (1 : Int32)), .val (.ref w_SELLER_DEFAULT), .val (.int (1 : Int32)), .unset, .unset, .unset] [(.int (1 : Int32)), (.int (1 : Int32))])) (fun t k => XS.iloadN X19.here hx rfl (hb hby at_97) rfl k) ?_
    refine own_adv (B := T19.setTop (mkF m 101 #[.val (.int p1), .val (.int p2), .val (.int (0 : Int32)), .val (.int (1 : Int32)), .val (.ref w_SELLER_DEFAULT), .val (.int (1 : Int32)), .unset, .unset, .unset] [(.int (1 : Int32))])) (fun t k => XS.ifNo X19.here hx rfl (hb hby at_98) rfl ((if0 _ _).trans (feq (by decide)).1) k) ?_
    refine own_adv (B := T19.setTop (mkF m 102 #[.val (.int p1), .val (.int p2), .val (.int (0 : Int32)), .val (.int (1 : Int32)), .val (.ref w_SELLER_DEFAULT), .val (.int (1 : Int32)), .unset, .unset, .unset] [(.int (0 : Int32)), (.int (1 : Int32))])) (fun t k => XS.iloadN X19.here hx rfl (hb hby at_101) rfl k) ?_
    refine own_adv (B := T19.setTop (mkF m 105 #[.val (.int p1), .val (.int p2), .val (.int (0 : Int32)), .val (.int (1 : Int32)), .val (.ref w_SELLER_DEFAULT), .val (.int (1 : Int32)), .unset, .unset, .unset] [(.int (1 : Int32))])) (fun t k => XS.ifNo X19.here hx rfl (hb hby at_102) rfl ((if0 _ _).trans (teq (rfl : (0 : Int32) = (0 : Int32))).2) k) ?_
    refine own_adv (B := T19.setTop (mkF m 106 #[.val (.int p1), .val (.int p2), .val (.int (0 : Int32)), .val (.int (1 : Int32)), .val (.ref w_SELLER_DEFAULT), .val (.int (1 : Int32)), .unset, .unset, .unset] [(.int (1 : Int32)), (.int (1 : Int32))])) (fun t k => XS.iconst X19.here hx rfl (hb hby at_105) k) ?_
    refine own_adv (B := T19.setTop (mkF m 110 #[.val (.int p1), .val (.int p2), .val (.int (0 : Int32)), .val (.int (1 : Int32)), .val (.ref w_SELLER_DEFAULT), .val (.int (1 : Int32)), .unset, .unset, .unset] [(.int (1 : Int32)), (.int (1 : Int32))])) (fun t k => XS.goto X19.here hx rfl (pc0 := 106) (pc' := 110) rfl (hb hby at_106) (by decide) (by decide) k) ?_
    refine own_adv (B := T19.setTop (mkF m 113 #[.val (.int p1), .val (.int p2), .val (.int (0 : Int32)), .val (.int (1 : Int32)), .val (.ref w_SELLER_DEFAULT), .val (.int (1 : Int32)), .unset, .unset, .unset] [])) (fun t k => XS.icmpNo X19.here hx rfl (hb hby at_110) rfl (teq (rfl : (1 : Int32) = (1 : Int32))).2 k) ?_
    refine own_adv (B := T19.setTop (mkF m 114 #[.val (.int p1), .val (.int p2), .val (.int (0 : Int32)), .val (.int (1 : Int32)), .val (.ref w_SELLER_DEFAULT), .val (.int (1 : Int32)), .unset, .unset, .unset] [(.int (1 : Int32))])) (fun t k => XS.iconst X19.here hx rfl (hb hby at_113) k) ?_
    refine own_adv (B := T19.setTop (mkF m 118 #[.val (.int p1), .val (.int p2), .val (.int (0 : Int32)), .val (.int (1 : Int32)), .val (.ref w_SELLER_DEFAULT), .val (.int (1 : Int32)), .unset, .unset, .unset] [(.int (1 : Int32))])) (fun t k => XS.goto X19.here hx rfl (pc0 := 114) (pc' := 118) rfl (hb hby at_114) (by decide) (by decide) k) ?_
    refine own_adv (B := T19.setTop (mkF m 120 #[.val (.int p1), .val (.int p2), .val (.int (0 : Int32)), .val (.int (1 : Int32)), .val (.ref w_SELLER_DEFAULT), .val (.int (1 : Int32)), .val (.int (1 : Int32)), .unset, .unset] [])) (fun t k => XS.istore X19.here hx rfl (hb hby at_118) rfl (l' := #[.val (.int p1), .val (.int p2), .val (.int (0 : Int32)), .val (.int (1 : Int32)), .val (.ref w_SELLER_DEFAULT), .val (.int (1 : Int32)), .val (.int (1 : Int32)), .unset, .unset]) rfl k) ?_
    refine own_adv (B := T19.setTop (mkF m 122 #[.val (.int p1), .val (.int p2), .val (.int (0 : Int32)), .val (.int (1 : Int32)), .val (.ref w_SELLER_DEFAULT), .val (.int (1 : Int32)), .val (.int (1 : Int32)), .unset, .unset] [(.ref w_SELLER_DEFAULT)])) (fun t k => XS.aload X19.here hx rfl (hb hby at_120) rfl rfl k) ?_
    obtain ⟨T20, X20, e20, st20⟩ := getS2 X19 hx hZ hown (host := "") (Or.inl (hw _ (List.mem_of_getElem? (i := 11) rfl))) Via.refl e19 S_BUYER_DEFAULT (g := (mkF m 122 #[.val (.int p1), .val (.int p2), .val (.int (0 : Int32)), .val (.int (1 : Int32)), .val (.ref w_SELLER_DEFAULT), .val (.int (1 : Int32)), .val (.int (1 : Int32)), .unset, .unset] [(.ref w_SELLER_DEFAULT)])) rfl (hb hby at_122)
    refine own_adv (B := T20.setTop (mkF m 125 #[.val (.int p1), .val (.int p2), .val (.int (0 : Int32)), .val (.int (1 : Int32)), .val (.ref w_SELLER_DEFAULT), .val (.int (1 : Int32)), .val (.int (1 : Int32)), .unset, .unset] [(.ref w_BUYER_DEFAULT), (.ref w_SELLER_DEFAULT)])) st20 ?_
    refine own_adv (B := T20.setTop (mkF m 132 #[.val (.int p1), .val (.int p2), .val (.int (0 : Int32)), .val (.int (1 : Int32)), .val (.ref w_SELLER_DEFAULT), .val (.int (1 : Int32)), .val (.int (1 : Int32)), .unset, .unset] [])) (fun t k => Jvm.RoadKit.acmp (g := (mkF m 125 #[.val (.int p1), .val (.int p2), .val (.int (0 : Int32)), .val (.int (1 : Int32)), .val (.ref w_SELLER_DEFAULT), .val (.int (1 : Int32)), .val (.int (1 : Int32)), .unset, .unset] [(.ref w_BUYER_DEFAULT), (.ref w_SELLER_DEFAULT)])) X20 hx rfl rfl rfl (pc0 := 125) (pc' := 132) (same := false) rfl (hb hby at_125) rfl (decide_eq_false fun q => (Fld.ne F_ordinal_SELLER_DEFAULT F_ordinal_BUYER_DEFAULT (by simp)) (Value.ref.inj q)) (by decide) (by decide) k) ?_
    refine own_adv (B := T20.setTop (mkF m 133 #[.val (.int p1), .val (.int p2), .val (.int (0 : Int32)), .val (.int (1 : Int32)), .val (.ref w_SELLER_DEFAULT), .val (.int (1 : Int32)), .val (.int (1 : Int32)), .unset, .unset] [(.int (0 : Int32))])) (fun t k => XS.iconst X20.here hx rfl (hb hby at_132) k) ?_
    refine own_adv (B := T20.setTop (mkF m 134 #[.val (.int p1), .val (.int p2), .val (.int (0 : Int32)), .val (.int (1 : Int32)), .val (.ref w_SELLER_DEFAULT), .val (.int (1 : Int32)), .val (.int (1 : Int32)), .unset, .unset] [(.int (0 : Int32)), (.int (0 : Int32))])) (fun t k => XS.iloadN X20.here hx rfl (hb hby at_133) rfl k) ?_
    refine own_adv (B := T20.setTop (mkF m 145 #[.val (.int p1), .val (.int p2), .val (.int (0 : Int32)), .val (.int (1 : Int32)), .val (.ref w_SELLER_DEFAULT), .val (.int (1 : Int32)), .val (.int (1 : Int32)), .unset, .unset] [(.int (0 : Int32))])) (fun t k => XS.ifYes X20.here hx rfl (pc0 := 134) (pc' := 145) rfl (hb hby at_134) rfl ((if0 _ _).trans (teq (rfl : (0 : Int32) = (0 : Int32))).1) (by decide) (by decide) k) ?_
    refine own_adv (B := T20.setTop (mkF m 146 #[.val (.int p1), .val (.int p2), .val (.int (0 : Int32)), .val (.int (1 : Int32)), .val (.ref w_SELLER_DEFAULT), .val (.int (1 : Int32)), .val (.int (1 : Int32)), .unset, .unset] [(.int (0 : Int32)), (.int (0 : Int32))])) (fun t k => XS.iconst X20.here hx rfl (hb hby at_145) k) ?_
    refine own_adv (B := T20.setTop (mkF m 149 #[.val (.int p1), .val (.int p2), .val (.int (0 : Int32)), .val (.int (1 : Int32)), .val (.ref w_SELLER_DEFAULT), .val (.int (1 : Int32)), .val (.int (1 : Int32)), .unset, .unset] [])) (fun t k => XS.icmpNo X20.here hx rfl (hb hby at_146) rfl (teq (rfl : (0 : Int32) = (0 : Int32))).2 k) ?_
    refine own_adv (B := T20.setTop (mkF m 150 #[.val (.int p1), .val (.int p2), .val (.int (0 : Int32)), .val (.int (1 : Int32)), .val (.ref w_SELLER_DEFAULT), .val (.int (1 : Int32)), .val (.int (1 : Int32)), .unset, .unset] [(.int (1 : Int32))])) (fun t k => XS.iconst X20.here hx rfl (hb hby at_149) k) ?_
    refine own_adv (B := T20.setTop (mkF m 154 #[.val (.int p1), .val (.int p2), .val (.int (0 : Int32)), .val (.int (1 : Int32)), .val (.ref w_SELLER_DEFAULT), .val (.int (1 : Int32)), .val (.int (1 : Int32)), .unset, .unset] [(.int (1 : Int32))])) (fun t k => XS.goto X20.here hx rfl (pc0 := 150) (pc' := 154) rfl (hb hby at_150) (by decide) (by decide) k) ?_
    refine own_adv (B := T20.setTop (mkF m 156 #[.val (.int p1), .val (.int p2), .val (.int (0 : Int32)), .val (.int (1 : Int32)), .val (.ref w_SELLER_DEFAULT), .val (.int (1 : Int32)), .val (.int (1 : Int32)), .val (.int (1 : Int32)), .unset] [])) (fun t k => XS.istore X20.here hx rfl (hb hby at_154) rfl (l' := #[.val (.int p1), .val (.int p2), .val (.int (0 : Int32)), .val (.int (1 : Int32)), .val (.ref w_SELLER_DEFAULT), .val (.int (1 : Int32)), .val (.int (1 : Int32)), .val (.int (1 : Int32)), .unset]) rfl k) ?_
    refine own_adv (B := T20.setTop (mkF m 158 #[.val (.int p1), .val (.int p2), .val (.int (0 : Int32)), .val (.int (1 : Int32)), .val (.ref w_SELLER_DEFAULT), .val (.int (1 : Int32)), .val (.int (1 : Int32)), .val (.int (1 : Int32)), .unset] [(.ref w_SELLER_DEFAULT)])) (fun t k => XS.aload X20.here hx rfl (hb hby at_156) rfl rfl k) ?_
    obtain ⟨T21, X21, e21, st21⟩ := getS2 X20 hx hZ hown (host := "") (Or.inl (hw _ (List.mem_of_getElem? (i := 13) rfl))) Via.refl e20 S_BOTH_DEFAULT (g := (mkF m 158 #[.val (.int p1), .val (.int p2), .val (.int (0 : Int32)), .val (.int (1 : Int32)), .val (.ref w_SELLER_DEFAULT), .val (.int (1 : Int32)), .val (.int (1 : Int32)), .val (.int (1 : Int32)), .unset] [(.ref w_SELLER_DEFAULT)])) rfl (hb hby at_158)
    refine own_adv (B := T21.setTop (mkF m 161 #[.val (.int p1), .val (.int p2), .val (.int (0 : Int32)), .val (.int (1 : Int32)), .val (.ref w_SELLER_DEFAULT), .val (.int (1 : Int32)), .val (.int (1 : Int32)), .val (.int (1 : Int32)), .unset] [(.ref w_BOTH_DEFAULT), (.ref w_SELLER_DEFAULT)])) st21 ?_
    refine own_adv (B := T21.setTop (mkF m 168 #[.val (.int p1), .val (.int p2), .val (.int (0 : Int32)), .val (.int (1 : Int32)), .val (.ref w_SELLER_DEFAULT), .val (.int (1 : Int32)), .val (.int (1 : Int32)), .val (.int (1 : Int32)), .unset] [])) (fun t k => Jvm.RoadKit.acmp (g := (mkF m 161 #[.val (.int p1), .val (.int p2), .val (.int (0 : Int32)), .val (.int (1 : Int32)), .val (.ref w_SELLER_DEFAULT), .val (.int (1 : Int32)), .val (.int (1 : Int32)), .val (.int (1 : Int32)), .unset] [(.ref w_BOTH_DEFAULT), (.ref w_SELLER_DEFAULT)])) X21 hx rfl rfl rfl (pc0 := 161) (pc' := 168) (same := false) rfl (hb hby at_161) rfl (decide_eq_false fun q => (Fld.ne F_ordinal_SELLER_DEFAULT F_ordinal_BOTH_DEFAULT (by simp)) (Value.ref.inj q)) (by decide) (by decide) k) ?_
    refine own_adv (B := T21.setTop (mkF m 169 #[.val (.int p1), .val (.int p2), .val (.int (0 : Int32)), .val (.int (1 : Int32)), .val (.ref w_SELLER_DEFAULT), .val (.int (1 : Int32)), .val (.int (1 : Int32)), .val (.int (1 : Int32)), .unset] [(.int (0 : Int32))])) (fun t k => XS.iconst X21.here hx rfl (hb hby at_168) k) ?_
    refine own_adv (B := T21.setTop (mkF m 170 #[.val (.int p1), .val (.int p2), .val (.int (0 : Int32)), .val (.int (1 : Int32)), .val (.ref w_SELLER_DEFAULT), .val (.int (1 : Int32)), .val (.int (1 : Int32)), .val (.int (1 : Int32)), .unset] [(.int (0 : Int32)), (.int (0 : Int32))])) (fun t k => XS.iloadN X21.here hx rfl (hb hby at_169) rfl k) ?_
    refine own_adv (B := T21.setTop (mkF m 173 #[.val (.int p1), .val (.int p2), .val (.int (0 : Int32)), .val (.int (1 : Int32)), .val (.ref w_SELLER_DEFAULT), .val (.int (1 : Int32)), .val (.int (1 : Int32)), .val (.int (1 : Int32)), .unset] [(.int (0 : Int32))])) (fun t k => XS.ifNo X21.here hx rfl (hb hby at_170) rfl ((if0 _ _).trans (teq (rfl : (0 : Int32) = (0 : Int32))).2) k) ?_
    refine own_adv (B := T21.setTop (mkF m 174 #[.val (.int p1), .val (.int p2), .val (.int (0 : Int32)), .val (.int (1 : Int32)), .val (.ref w_SELLER_DEFAULT), .val (.int (1 : Int32)), .val (.int (1 : Int32)), .val (.int (1 : Int32)), .unset] [(.int (1 : Int32)), (.int (0 : Int32))])) (fun t k => XS.iloadN X21.here hx rfl (hb hby at_173) rfl k) ?_
    refine own_adv (B := T21.setTop (mkF m 181 #[.val (.int p1), .val (.int p2), .val (.int (0 : Int32)), .val (.int (1 : Int32)), .val (.ref w_SELLER_DEFAULT), .val (.int (1 : Int32)), .val (.int (1 : Int32)), .val (.int (1 : Int32)), .unset] [(.int (0 : Int32))])) (fun t k => XS.ifYes X21.here hx rfl (pc0 := 174) (pc' := 181) rfl (hb hby at_174) rfl ((if0 _ _).trans (feq (by decide)).2) (by decide) (by decide) k) ?_
    refine own_adv (B := T21.setTop (mkF m 182 #[.val (.int p1), .val (.int p2), .val (.int (0 : Int32)), .val (.int (1 : Int32)), .val (.ref w_SELLER_DEFAULT), .val (.int (1 : Int32)), .val (.int (1 : Int32)), .val (.int (1 : Int32)), .unset] [(.int (0 : Int32)), (.int (0 : Int32))])) (fun t k => XS.iconst X21.here hx rfl (hb hby at_181) k) ?_
    refine own_adv (B := T21.setTop (mkF m 185 #[.val (.int p1), .val (.int p2), .val (.int (0 : Int32)), .val (.int (1 : Int32)), .val (.ref w_SELLER_DEFAULT), .val (.int (1 : Int32)), .val (.int (1 : Int32)), .val (.int (1 : Int32)), .unset] [])) (fun t k => XS.icmpNo X21.here hx rfl (hb hby at_182) rfl (teq (rfl : (0 : Int32) = (0 : Int32))).2 k) ?_
    refine own_adv (B := T21.setTop (mkF m 186 #[.val (.int p1), .val (.int p2), .val (.int (0 : Int32)), .val (.int (1 : Int32)), .val (.ref w_SELLER_DEFAULT), .val (.int (1 : Int32)), .val (.int (1 : Int32)), .val (.int (1 : Int32)), .unset] [(.int (1 : Int32))])) (fun t k => XS.iconst X21.here hx rfl (hb hby at_185) k) ?_
    refine own_adv (B := T21.setTop (mkF m 190 #[.val (.int p1), .val (.int p2), .val (.int (0 : Int32)), .val (.int (1 : Int32)), .val (.ref w_SELLER_DEFAULT), .val (.int (1 : Int32)), .val (.int (1 : Int32)), .val (.int (1 : Int32)), .unset] [(.int (1 : Int32))])) (fun t k => XS.goto X21.here hx rfl (pc0 := 186) (pc' := 190) rfl (hb hby at_186) (by decide) (by decide) k) ?_
    refine own_adv (B := T21.setTop (mkF m 192 #[.val (.int p1), .val (.int p2), .val (.int (0 : Int32)), .val (.int (1 : Int32)), .val (.ref w_SELLER_DEFAULT), .val (.int (1 : Int32)), .val (.int (1 : Int32)), .val (.int (1 : Int32)), .val (.int (1 : Int32))] [])) (fun t k => XS.istore X21.here hx rfl (hb hby at_190) rfl (l' := #[.val (.int p1), .val (.int p2), .val (.int (0 : Int32)), .val (.int (1 : Int32)), .val (.ref w_SELLER_DEFAULT), .val (.int (1 : Int32)), .val (.int (1 : Int32)), .val (.int (1 : Int32)), .val (.int (1 : Int32))]) rfl k) ?_
    refine own_adv (B := T21.setTop (mkF m 194 #[.val (.int p1), .val (.int p2), .val (.int (0 : Int32)), .val (.int (1 : Int32)), .val (.ref w_SELLER_DEFAULT), .val (.int (1 : Int32)), .val (.int (1 : Int32)), .val (.int (1 : Int32)), .val (.int (1 : Int32))] [(.int (1 : Int32))])) (fun t k => XS.iload X21.here hx rfl (hb hby at_192) rfl k) ?_
    refine own_adv (B := T21.setTop (mkF m 197 #[.val (.int p1), .val (.int p2), .val (.int (0 : Int32)), .val (.int (1 : Int32)), .val (.ref w_SELLER_DEFAULT), .val (.int (1 : Int32)), .val (.int (1 : Int32)), .val (.int (1 : Int32)), .val (.int (1 : Int32))] [])) (fun t k => XS.ifNo X21.here hx rfl (hb hby at_194) rfl ((if0 _ _).trans (feq (by decide)).1) k) ?_
    refine own_adv (B := T21.setTop (mkF m 199 #[.val (.int p1), .val (.int p2), .val (.int (0 : Int32)), .val (.int (1 : Int32)), .val (.ref w_SELLER_DEFAULT), .val (.int (1 : Int32)), .val (.int (1 : Int32)), .val (.int (1 : Int32)), .val (.int (1 : Int32))] [(.int (1 : Int32))])) (fun t k => XS.iload X21.here hx rfl (hb hby at_197) rfl k) ?_
    refine own_adv (B := T21.setTop (mkF m 202 #[.val (.int p1), .val (.int p2), .val (.int (0 : Int32)), .val (.int (1 : Int32)), .val (.ref w_SELLER_DEFAULT), .val (.int (1 : Int32)), .val (.int (1 : Int32)), .val (.int (1 : Int32)), .val (.int (1 : Int32))] [])) (fun t k => XS.ifNo X21.here hx rfl (hb hby at_199) rfl ((if0 _ _).trans (feq (by decide)).1) k) ?_
    refine own_adv (B := T21.setTop (mkF m 204 #[.val (.int p1), .val (.int p2), .val (.int (0 : Int32)), .val (.int (1 : Int32)), .val (.ref w_SELLER_DEFAULT), .val (.int (1 : Int32)), .val (.int (1 : Int32)), .val (.int (1 : Int32)), .val (.int (1 : Int32))] [(.int (1 : Int32))])) (fun t k => XS.iload X21.here hx rfl (hb hby at_202) rfl k) ?_
    refine own_adv (B := T21.setTop (mkF m 207 #[.val (.int p1), .val (.int p2), .val (.int (0 : Int32)), .val (.int (1 : Int32)), .val (.ref w_SELLER_DEFAULT), .val (.int (1 : Int32)), .val (.int (1 : Int32)), .val (.int (1 : Int32)), .val (.int (1 : Int32))] [])) (fun t k => XS.ifNo X21.here hx rfl (hb hby at_204) rfl ((if0 _ _).trans (feq (by decide)).1) k) ?_
    refine own_adv (B := T21.setTop (mkF m 209 #[.val (.int p1), .val (.int p2), .val (.int (0 : Int32)), .val (.int (1 : Int32)), .val (.ref w_SELLER_DEFAULT), .val (.int (1 : Int32)), .val (.int (1 : Int32)), .val (.int (1 : Int32)), .val (.int (1 : Int32))] [(.int (1 : Int32))])) (fun t k => XS.iload X21.here hx rfl (hb hby at_207) rfl k) ?_
    refine own_adv (B := T21.setTop (mkF m 212 #[.val (.int p1), .val (.int p2), .val (.int (0 : Int32)), .val (.int (1 : Int32)), .val (.ref w_SELLER_DEFAULT), .val (.int (1 : Int32)), .val (.int (1 : Int32)), .val (.int (1 : Int32)), .val (.int (1 : Int32))] [])) (fun t k => XS.ifNo X21.here hx rfl (hb hby at_209) rfl ((if0 _ _).trans (feq (by decide)).1) k) ?_
    refine own_adv (B := T21.setTop (mkF m 213 #[.val (.int p1), .val (.int p2), .val (.int (0 : Int32)), .val (.int (1 : Int32)), .val (.ref w_SELLER_DEFAULT), .val (.int (1 : Int32)), .val (.int (1 : Int32)), .val (.int (1 : Int32)), .val (.int (1 : Int32))] [(.int (1 : Int32))])) (fun t k => XS.iconst X21.here hx rfl (hb hby at_212) k) ?_
    refine own_adv (B := T21.setTop (mkF m 217 #[.val (.int p1), .val (.int p2), .val (.int (0 : Int32)), .val (.int (1 : Int32)), .val (.ref w_SELLER_DEFAULT), .val (.int (1 : Int32)), .val (.int (1 : Int32)), .val (.int (1 : Int32)), .val (.int (1 : Int32))] [(.int (1 : Int32))])) (fun t k => XS.goto X21.here hx rfl (pc0 := 213) (pc' := 217) rfl (hb hby at_213) (by decide) (by decide) k) ?_
    obtain ⟨fs, hr, hrun, hended, hW, hsame⟩ := X21.leave (v := some (.int (1 : Int32))) (fun h => by rw [Bd.returns] at h; cases h)
    refine ⟨_, _, retN X21 hx (t := .boolean) Bd.returns (by simp) (hb hby at_217) hr, hrun, hended, _, _, rfl, ?_, ⟨_, rfl⟩, hW, hsame.mono (by decide) (by decide)⟩
    exact ⟨rfl, N16⟩
  refine own_adv (B := s₁.setTop (mkF m 6 #[.val (.int p1), .val (.int p2), .unset, .unset, .unset, .unset, .unset, .unset, .unset] [])) (fun t k => XS.ifNo X0.here hx rfl (hb hby at_3) rfl ((if0 _ _).trans (feq hs).1) k) ?_
  refine own_adv (B := s₁.setTop (mkF m 7 #[.val (.int p1), .val (.int p2), .unset, .unset, .unset, .unset, .unset, .unset, .unset] [(.int (1 : Int32))])) (fun t k => XS.iconst X0.here hx rfl (hb hby at_6) k) ?_
  refine own_adv (B := s₁.setTop (mkF m 11 #[.val (.int p1), .val (.int p2), .unset, .unset, .unset, .unset, .unset, .unset, .unset] [(.int (1 : Int32))])) (fun t k => XS.goto X0.here hx rfl (pc0 := 7) (pc' := 11) rfl (hb hby at_7) (by decide) (by decide) k) ?_
  refine own_adv (B := s₁.setTop (mkF m 12 #[.val (.int p1), .val (.int p2), .val (.int (1 : Int32)), .unset, .unset, .unset, .unset, .unset, .unset] [])) (fun t k => XS.istoreN X0.here hx rfl (hb hby at_11) rfl (l' := #[.val (.int p1), .val (.int p2), .val (.int (1 : Int32)), .unset, .unset, .unset, .unset, .unset, .unset]) rfl k) ?_
  refine own_adv (B := s₁.setTop (mkF m 13 #[.val (.int p1), .val (.int p2), .val (.int (1 : Int32)), .unset, .unset, .unset, .unset, .unset, .unset] [(.int p2)])) (fun t k => XS.iloadN X0.here hx rfl (hb hby at_12) rfl k) ?_
  refine own_adv (B := s₁.setTop (mkF m 14 #[.val (.int p1), .val (.int p2), .val (.int (1 : Int32)), .unset, .unset, .unset, .unset, .unset, .unset] [(.int (1 : Int32)), (.int p2)])) (fun t k => XS.iconst X0.here hx rfl (hb hby at_13) k) ?_
  refine own_adv (B := s₁.setTop (mkF m 15 #[.val (.int p1), .val (.int p2), .val (.int (1 : Int32)), .unset, .unset, .unset, .unset, .unset, .unset] [(.int (p2 &&& (1 : Int32)))])) (fun t k => XS.iand X0.here hx rfl (hb hby at_14) rfl k) ?_
  by_cases ht : (p2 &&& (1 : Int32)) = (0 : Int32)
  · skip
    refine own_adv (B := s₁.setTop (mkF m 22 #[.val (.int p1), .val (.int p2), .val (.int (1 : Int32)), .unset, .unset, .unset, .unset, .unset, .unset] [])) (fun t k => XS.ifYes X0.here hx rfl (pc0 := 15) (pc' := 22) rfl (hb hby at_15) rfl ((if0 _ _).trans (teq ht).1) (by decide) (by decide) k) ?_
    refine own_adv (B := s₁.setTop (mkF m 23 #[.val (.int p1), .val (.int p2), .val (.int (1 : Int32)), .unset, .unset, .unset, .unset, .unset, .unset] [(.int (0 : Int32))])) (fun t k => XS.iconst X0.here hx rfl (hb hby at_22) k) ?_
    refine own_adv (B := s₁.setTop (mkF m 24 #[.val (.int p1), .val (.int p2), .val (.int (1 : Int32)), .val (.int (0 : Int32)), .unset, .unset, .unset, .unset, .unset] [])) (fun t k => XS.istoreN X0.here hx rfl (hb hby at_23) rfl (l' := #[.val (.int p1), .val (.int p2), .val (.int (1 : Int32)), .val (.int (0 : Int32)), .unset, .unset, .unset, .unset, .unset]) rfl k) ?_
    refine own_adv (B := s₁.setTop (mkF m 25 #[.val (.int p1), .val (.int p2), .val (.int (1 : Int32)), .val (.int (0 : Int32)), .unset, .unset, .unset, .unset, .unset] [(.int (1 : Int32))])) (fun t k => XS.iloadN X0.here hx rfl (hb hby at_24) rfl k) ?_
    refine own_adv (B := s₁.setTop (mkF m 26 #[.val (.int p1), .val (.int p2), .val (.int (1 : Int32)), .val (.int (0 : Int32)), .unset, .unset, .unset, .unset, .unset] [(.int (0 : Int32)), (.int (1 : Int32))])) (fun t k => XS.iloadN X0.here hx rfl (hb hby at_25) rfl k) ?_
    obtain ⟨_, _, ⟨T22, L22, k22, n22⟩, -, X22, ⟨Lc22, hQ22, l22, y22, z22⟩, st22⟩ := Jvm.LawKit.callS X0 hx (y := (⟨"com/example/kharman/kharman/DeliveryStatus", "settled", "(ZZ)Lcom/example/kharman/kharman/DeliveryStatus;"⟩ : MethodName)) hown (mvT hZ (hw _ (List.mem_of_getElem? (i := 0) rfl))) (mvT hZ (hw _ (List.mem_of_getElem? (i := 1) rfl))) (mvT hZ (hw _ (List.mem_of_getElem? (i := 2) rfl))) (mvT hZ (hw _ (List.mem_of_getElem? (i := 3) rfl))) (by decide) (backOf (W := 0) (rm1 l Z a0 hw [] (1 : Int32) (0 : Int32) w_DELIVERED w_SELLER_DEFAULT w_BUYER_DEFAULT w_BOTH_DEFAULT w_BUYER_DEFAULT h0 n0 Z0 S_DELIVERED S_SELLER_DEFAULT S_BUYER_DEFAULT S_BOTH_DEFAULT (Or.inr (Or.inr (Or.inl ⟨rfl, rfl, rfl⟩)))) hZ (hw _ (List.mem_of_getElem? (i := 3) rfl)) (hw _ (List.mem_of_getElem? (i := 2) rfl)) (by decide) (by decide)) (g := (mkF m 26 #[.val (.int p1), .val (.int p2), .val (.int (1 : Int32)), .val (.int (0 : Int32)), .unset, .unset, .unset, .unset, .unset] [(.int (0 : Int32)), (.int (1 : Int32))])) rfl (by rw [hml]; rfl) (argsL := [(.int (1 : Int32)), (.int (0 : Int32))]) (rest := []) (lenOf own_pd__ZZ_Lcom_example_kharman_kharman_DeliveryStatus_ rfl) rfl (by show 2 * 0 + _ ≤ _; exact Nat.le_of_eq rfl) (hb hby at_26) (fun _ _ => ⟨rfl, e0, (by decide : 0 + 0 ≤ _), (by decide : 0 + 0 ≤ _)⟩)
    dsimp only [Pt.U, Pt.locs, Pt.cells, Pt.slots] at X22 l22 y22 z22 st22 hQ22
    subst l22 y22 z22
    obtain ⟨rfl, N22q, e22⟩ := hQ22
    have N22 := Fr.app N0 N22q
    refine own_adv (B := T22.setTop (mkF m 29 #[.val (.int p1), .val (.int p2), .val (.int (1 : Int32)), .val (.int (0 : Int32)), .unset, .unset, .unset, .unset, .unset] [(.ref w_BUYER_DEFAULT)])) (fun t k => st22 t k) ?_
    refine own_adv (B := T22.setTop (mkF m 31 #[.val (.int p1), .val (.int p2), .val (.int (1 : Int32)), .val (.int (0 : Int32)), .val (.ref w_BUYER_DEFAULT), .unset, .unset, .unset, .unset] [])) (fun t k => XS.astore X22.here hx rfl (hb hby at_29) rfl rfl (l' := #[.val (.int p1), .val (.int p2), .val (.int (1 : Int32)), .val (.int (0 : Int32)), .val (.ref w_BUYER_DEFAULT), .unset, .unset, .unset, .unset]) rfl k) ?_
    refine own_adv (B := T22.setTop (mkF m 33 #[.val (.int p1), .val (.int p2), .val (.int (1 : Int32)), .val (.int (0 : Int32)), .val (.ref w_BUYER_DEFAULT), .unset, .unset, .unset, .unset] [(.ref w_BUYER_DEFAULT)])) (fun t k => XS.aload X22.here hx rfl (hb hby at_31) rfl rfl k) ?_
    refine own_adv (B := T22.setTop (mkF m 38 #[.val (.int p1), .val (.int p2), .val (.int (1 : Int32)), .val (.int (0 : Int32)), .val (.ref w_BUYER_DEFAULT), .unset, .unset, .unset, .unset] [])) (fun t k => XS.ifnonnullYes X22.here hx rfl (pc0 := 33) (pc' := 38) rfl (hb hby at_33) rfl (by decide) (by decide) k) ?_
    refine own_adv (B := T22.setTop (mkF m 40 #[.val (.int p1), .val (.int p2), .val (.int (1 : Int32)), .val (.int (0 : Int32)), .val (.ref w_BUYER_DEFAULT), .unset, .unset, .unset, .unset] [(.ref w_BUYER_DEFAULT)])) (fun t k => XS.aload X22.here hx rfl (hb hby at_38) rfl rfl k) ?_
    obtain ⟨T23, X23, e23, st23⟩ := getS2 X22 hx hZ hown (host := "") (Or.inl (hw _ (List.mem_of_getElem? (i := 6) rfl))) Via.refl e22 S_PENDING (g := (mkF m 40 #[.val (.int p1), .val (.int p2), .val (.int (1 : Int32)), .val (.int (0 : Int32)), .val (.ref w_BUYER_DEFAULT), .unset, .unset, .unset, .unset] [(.ref w_BUYER_DEFAULT)])) rfl (hb hby at_40)
    refine own_adv (B := T23.setTop (mkF m 43 #[.val (.int p1), .val (.int p2), .val (.int (1 : Int32)), .val (.int (0 : Int32)), .val (.ref w_BUYER_DEFAULT), .unset, .unset, .unset, .unset] [(.ref w_PENDING), (.ref w_BUYER_DEFAULT)])) st23 ?_
    refine own_adv (B := T23.setTop (mkF m 48 #[.val (.int p1), .val (.int p2), .val (.int (1 : Int32)), .val (.int (0 : Int32)), .val (.ref w_BUYER_DEFAULT), .unset, .unset, .unset, .unset] [])) (fun t k => Jvm.RoadKit.acmp (g := (mkF m 43 #[.val (.int p1), .val (.int p2), .val (.int (1 : Int32)), .val (.int (0 : Int32)), .val (.ref w_BUYER_DEFAULT), .unset, .unset, .unset, .unset] [(.ref w_PENDING), (.ref w_BUYER_DEFAULT)])) X23 hx rfl rfl rfl (pc0 := 43) (pc' := 48) (same := false) rfl (hb hby at_43) rfl (decide_eq_false fun q => (Fld.ne F_ordinal_BUYER_DEFAULT F_ordinal_PENDING (by simp)) (Value.ref.inj q)) (by decide) (by decide) k) ?_
    refine own_adv (B := T23.setTop (mkF m 50 #[.val (.int p1), .val (.int p2), .val (.int (1 : Int32)), .val (.int (0 : Int32)), .val (.ref w_BUYER_DEFAULT), .unset, .unset, .unset, .unset] [(.ref w_BUYER_DEFAULT)])) (fun t k => XS.aload X23.here hx rfl (hb hby at_48) rfl rfl k) ?_
    obtain ⟨T24, X24, e24, st24⟩ := getS2 X23 hx hZ hown (host := "") (Or.inl (hw _ (List.mem_of_getElem? (i := 8) rfl))) Via.refl e23 S_DELIVERED (g := (mkF m 50 #[.val (.int p1), .val (.int p2), .val (.int (1 : Int32)), .val (.int (0 : Int32)), .val (.ref w_BUYER_DEFAULT), .unset, .unset, .unset, .unset] [(.ref w_BUYER_DEFAULT)])) rfl (hb hby at_50)
    refine own_adv (B := T24.setTop (mkF m 53 #[.val (.int p1), .val (.int p2), .val (.int (1 : Int32)), .val (.int (0 : Int32)), .val (.ref w_BUYER_DEFAULT), .unset, .unset, .unset, .unset] [(.ref w_DELIVERED), (.ref w_BUYER_DEFAULT)])) st24 ?_
    refine own_adv (B := T24.setTop (mkF m 60 #[.val (.int p1), .val (.int p2), .val (.int (1 : Int32)), .val (.int (0 : Int32)), .val (.ref w_BUYER_DEFAULT), .unset, .unset, .unset, .unset] [])) (fun t k => Jvm.RoadKit.acmp (g := (mkF m 53 #[.val (.int p1), .val (.int p2), .val (.int (1 : Int32)), .val (.int (0 : Int32)), .val (.ref w_BUYER_DEFAULT), .unset, .unset, .unset, .unset] [(.ref w_DELIVERED), (.ref w_BUYER_DEFAULT)])) X24 hx rfl rfl rfl (pc0 := 53) (pc' := 60) (same := false) rfl (hb hby at_53) rfl (decide_eq_false fun q => (Fld.ne F_ordinal_BUYER_DEFAULT F_ordinal_DELIVERED (by simp)) (Value.ref.inj q)) (by decide) (by decide) k) ?_
    refine own_adv (B := T24.setTop (mkF m 61 #[.val (.int p1), .val (.int p2), .val (.int (1 : Int32)), .val (.int (0 : Int32)), .val (.ref w_BUYER_DEFAULT), .unset, .unset, .unset, .unset] [(.int (0 : Int32))])) (fun t k => XS.iconst X24.here hx rfl (hb hby at_60) k) ?_
    refine own_adv (B := T24.setTop (mkF m 62 #[.val (.int p1), .val (.int p2), .val (.int (1 : Int32)), .val (.int (0 : Int32)), .val (.ref w_BUYER_DEFAULT), .unset, .unset, .unset, .unset] [(.int (1 : Int32)), (.int (0 : Int32))])) (fun t k => XS.iloadN X24.here hx rfl (hb hby at_61) rfl k) ?_
    refine own_adv (B := T24.setTop (mkF m 65 #[.val (.int p1), .val (.int p2), .val (.int (1 : Int32)), .val (.int (0 : Int32)), .val (.ref w_BUYER_DEFAULT), .unset, .unset, .unset, .unset] [(.int (0 : Int32))])) (fun t k => XS.ifNo X24.here hx rfl (hb hby at_62) rfl ((if0 _ _).trans (feq (by decide)).1) k) ?_
    refine own_adv (B := T24.setTop (mkF m 66 #[.val (.int p1), .val (.int p2), .val (.int (1 : Int32)), .val (.int (0 : Int32)), .val (.ref w_BUYER_DEFAULT), .unset, .unset, .unset, .unset] [(.int (0 : Int32)), (.int (0 : Int32))])) (fun t k => XS.iloadN X24.here hx rfl (hb hby at_65) rfl k) ?_
    refine own_adv (B := T24.setTop (mkF m 73 #[.val (.int p1), .val (.int p2), .val (.int (1 : Int32)), .val (.int (0 : Int32)), .val (.ref w_BUYER_DEFAULT), .unset, .unset, .unset, .unset] [(.int (0 : Int32))])) (fun t k => XS.ifYes X24.here hx rfl (pc0 := 66) (pc' := 73) rfl (hb hby at_66) rfl ((if0 _ _).trans (teq (rfl : (0 : Int32) = (0 : Int32))).1) (by decide) (by decide) k) ?_
    refine own_adv (B := T24.setTop (mkF m 74 #[.val (.int p1), .val (.int p2), .val (.int (1 : Int32)), .val (.int (0 : Int32)), .val (.ref w_BUYER_DEFAULT), .unset, .unset, .unset, .unset] [(.int (0 : Int32)), (.int (0 : Int32))])) (fun t k => XS.iconst X24.here hx rfl (hb hby at_73) k) ?_
    refine own_adv (B := T24.setTop (mkF m 77 #[.val (.int p1), .val (.int p2), .val (.int (1 : Int32)), .val (.int (0 : Int32)), .val (.ref w_BUYER_DEFAULT), .unset, .unset, .unset, .unset] [])) (fun t k => XS.icmpNo X24.here hx rfl (hb hby at_74) rfl (teq (rfl : (0 : Int32) = (0 : Int32))).2 k) ?_
    refine own_adv (B := T24.setTop (mkF m 78 #[.val (.int p1), .val (.int p2), .val (.int (1 : Int32)), .val (.int (0 : Int32)), .val (.ref w_BUYER_DEFAULT), .unset, .unset, .unset, .unset] [(.int (1 : Int32))])) (fun t k => XS.iconst X24.here hx rfl (hb hby at_77) k) ?_
    refine own_adv (B := T24.setTop (mkF m 82 #[.val (.int p1), .val (.int p2), .val (.int (1 : Int32)), .val (.int (0 : Int32)), .val (.ref w_BUYER_DEFAULT), .unset, .unset, .unset, .unset] [(.int (1 : Int32))])) (fun t k => XS.goto X24.here hx rfl (pc0 := 78) (pc' := 82) rfl (hb hby at_78) (by decide) (by decide) k) ?_
    refine own_adv (B := T24.setTop (mkF m 84 #[.val (.int p1), .val (.int p2), .val (.int (1 : Int32)), .val (.int (0 : Int32)), .val (.ref w_BUYER_DEFAULT), .val (.int (1 : Int32)), .unset, .unset, .unset] [])) (fun t k => XS.istore X24.here hx rfl (hb hby at_82) rfl (l' := #[.val (.int p1), .val (.int p2), .val (.int (1 : Int32)), .val (.int (0 : Int32)), .val (.ref w_BUYER_DEFAULT), .val (.int (1 : Int32)), .unset, .unset, .unset]) rfl k) ?_
    refine own_adv (B := T24.setTop (mkF m 86 #[.val (.int p1), .val (.int p2), .val (.int (1 : Int32)), .val (.int (0 : Int32)), .val (.ref w_BUYER_DEFAULT), .val (.int (1 : Int32)), .unset, .unset, .unset] [(.ref w_BUYER_DEFAULT)])) (fun t k => XS.aload X24.here hx rfl (hb hby at_84) rfl rfl k) ?_
    obtain ⟨T25, X25, e25, st25⟩ := getS2 X24 hx hZ hown (host := "") (Or.inl (hw _ (List.mem_of_getElem? (i := 10) rfl))) Via.refl e24 S_SELLER_DEFAULT (g := (mkF m 86 #[.val (.int p1), .val (.int p2), .val (.int (1 : Int32)), .val (.int (0 : Int32)), .val (.ref w_BUYER_DEFAULT), .val (.int (1 : Int32)), .unset, .unset, .unset] [(.ref w_BUYER_DEFAULT)])) rfl (hb hby at_86)
    refine own_adv (B := T25.setTop (mkF m 89 #[.val (.int p1), .val (.int p2), .val (.int (1 : Int32)), .val (.int (0 : Int32)), .val (.ref w_BUYER_DEFAULT), .val (.int (1 : Int32)), .unset, .unset, .unset] [(.ref w_SELLER_DEFAULT), (.ref w_BUYER_DEFAULT)])) st25 ?_
    refine own_adv (B := T25.setTop (mkF m 96 #[.val (.int p1), .val (.int p2), .val (.int (1 : Int32)), .val (.int (0 : Int32)), .val (.ref w_BUYER_DEFAULT), .val (.int (1 : Int32)), .unset, .unset, .unset] [])) (fun t k => Jvm.RoadKit.acmp (g := (mkF m 89 #[.val (.int p1), .val (.int p2), .val (.int (1 : Int32)), .val (.int (0 : Int32)), .val (.ref w_BUYER_DEFAULT), .val (.int (1 : Int32)), .unset, .unset, .unset] [(.ref w_SELLER_DEFAULT), (.ref w_BUYER_DEFAULT)])) X25 hx rfl rfl rfl (pc0 := 89) (pc' := 96) (same := false) rfl (hb hby at_89) rfl (decide_eq_false fun q => (Fld.ne F_ordinal_BUYER_DEFAULT F_ordinal_SELLER_DEFAULT (by simp)) (Value.ref.inj q)) (by decide) (by decide) k) ?_
    refine own_adv (B := T25.setTop (mkF m 97 #[.val (.int p1), .val (.int p2), .val (.int (1 : Int32)), .val (.int (0 : Int32)), .val (.ref w_BUYER_DEFAULT), .val (.int (1 : Int32)), .unset, .unset, .unset] [(.int (0 : Int32))])) (fun t k => XS.iconst X25.here hx rfl (hb hby at_96) k) ?_
    refine own_adv (B := T25.setTop (mkF m 98 #[.val (.int p1), .val (.int p2), .val (.int (1 : Int32)), .val (.int (0 : Int32)), .val (.ref w_BUYER_DEFAULT), .val (.int (1 : Int32)), .unset, .unset, .unset] [(.int (0 : Int32)), (.int (0 : Int32))])) (fun t k => XS.iloadN X25.here hx rfl (hb hby at_97) rfl k) ?_
    refine own_adv (B := T25.setTop (mkF m 109 #[.val (.int p1), .val (.int p2), .val (.int (1 : Int32)), .val (.int (0 : Int32)), .val (.ref w_BUYER_DEFAULT), .val (.int (1 : Int32)), .unset, .unset, .unset] [(.int (0 : Int32))])) (fun t k => XS.ifYes X25.here hx rfl (pc0 := 98) (pc' := 109) rfl (hb hby at_98) rfl ((if0 _ _).trans (teq (rfl : (0 : Int32) = (0 : Int32))).1) (by decide) (by decide) k) ?_
    refine own_adv (B := T25.setTop (mkF m 110 #[.val (.int p1), .val (.int p2), .val (.int (1 : Int32)), .val (.int (0 : Int32)), .val (.ref w_BUYER_DEFAULT), .val (.int (1 : Int32)), .unset, .unset, .unset] [(.int (0 : Int32)), (.int (0 : Int32))])) (fun t k => XS.iconst X25.here hx rfl (hb hby at_109) k) ?_
    refine own_adv (B := T25.setTop (mkF m 113 #[.val (.int p1), .val (.int p2), .val (.int (1 : Int32)), .val (.int (0 : Int32)), .val (.ref w_BUYER_DEFAULT), .val (.int (1 : Int32)), .unset, .unset, .unset] [])) (fun t k => XS.icmpNo X25.here hx rfl (hb hby at_110) rfl (teq (rfl : (0 : Int32) = (0 : Int32))).2 k) ?_
    refine own_adv (B := T25.setTop (mkF m 114 #[.val (.int p1), .val (.int p2), .val (.int (1 : Int32)), .val (.int (0 : Int32)), .val (.ref w_BUYER_DEFAULT), .val (.int (1 : Int32)), .unset, .unset, .unset] [(.int (1 : Int32))])) (fun t k => XS.iconst X25.here hx rfl (hb hby at_113) k) ?_
    refine own_adv (B := T25.setTop (mkF m 118 #[.val (.int p1), .val (.int p2), .val (.int (1 : Int32)), .val (.int (0 : Int32)), .val (.ref w_BUYER_DEFAULT), .val (.int (1 : Int32)), .unset, .unset, .unset] [(.int (1 : Int32))])) (fun t k => XS.goto X25.here hx rfl (pc0 := 114) (pc' := 118) rfl (hb hby at_114) (by decide) (by decide) k) ?_
    refine own_adv (B := T25.setTop (mkF m 120 #[.val (.int p1), .val (.int p2), .val (.int (1 : Int32)), .val (.int (0 : Int32)), .val (.ref w_BUYER_DEFAULT), .val (.int (1 : Int32)), .val (.int (1 : Int32)), .unset, .unset] [])) (fun t k => XS.istore X25.here hx rfl (hb hby at_118) rfl (l' := #[.val (.int p1), .val (.int p2), .val (.int (1 : Int32)), .val (.int (0 : Int32)), .val (.ref w_BUYER_DEFAULT), .val (.int (1 : Int32)), .val (.int (1 : Int32)), .unset, .unset]) rfl k) ?_
    refine own_adv (B := T25.setTop (mkF m 122 #[.val (.int p1), .val (.int p2), .val (.int (1 : Int32)), .val (.int (0 : Int32)), .val (.ref w_BUYER_DEFAULT), .val (.int (1 : Int32)), .val (.int (1 : Int32)), .unset, .unset] [(.ref w_BUYER_DEFAULT)])) (fun t k => XS.aload X25.here hx rfl (hb hby at_120) rfl rfl k) ?_
    obtain ⟨T26, X26, e26, st26⟩ := getS2 X25 hx hZ hown (host := "") (Or.inl (hw _ (List.mem_of_getElem? (i := 11) rfl))) Via.refl e25 S_BUYER_DEFAULT (g := (mkF m 122 #[.val (.int p1), .val (.int p2), .val (.int (1 : Int32)), .val (.int (0 : Int32)), .val (.ref w_BUYER_DEFAULT), .val (.int (1 : Int32)), .val (.int (1 : Int32)), .unset, .unset] [(.ref w_BUYER_DEFAULT)])) rfl (hb hby at_122)
    refine own_adv (B := T26.setTop (mkF m 125 #[.val (.int p1), .val (.int p2), .val (.int (1 : Int32)), .val (.int (0 : Int32)), .val (.ref w_BUYER_DEFAULT), .val (.int (1 : Int32)), .val (.int (1 : Int32)), .unset, .unset] [(.ref w_BUYER_DEFAULT), (.ref w_BUYER_DEFAULT)])) st26 ?_
    refine own_adv (B := T26.setTop (mkF m 128 #[.val (.int p1), .val (.int p2), .val (.int (1 : Int32)), .val (.int (0 : Int32)), .val (.ref w_BUYER_DEFAULT), .val (.int (1 : Int32)), .val (.int (1 : Int32)), .unset, .unset] [])) (fun t k => Jvm.RoadKit.acmp (g := (mkF m 125 #[.val (.int p1), .val (.int p2), .val (.int (1 : Int32)), .val (.int (0 : Int32)), .val (.ref w_BUYER_DEFAULT), .val (.int (1 : Int32)), .val (.int (1 : Int32)), .unset, .unset] [(.ref w_BUYER_DEFAULT), (.ref w_BUYER_DEFAULT)])) X26 hx rfl rfl rfl (pc0 := 125) (pc' := 128) (same := true) rfl (hb hby at_125) rfl (decide_eq_true rfl) (by decide) (by decide) k) ?_
    refine own_adv (B := T26.setTop (mkF m 129 #[.val (.int p1), .val (.int p2), .val (.int (1 : Int32)), .val (.int (0 : Int32)), .val (.ref w_BUYER_DEFAULT), .val (.int (1 : Int32)), .val (.int (1 : Int32)), .unset, .unset] [(.int (1 : Int32))])) (fun t k => XS.iconst X26.here hx rfl (hb hby at_128) k) ?_
    refine own_adv (B := T26.setTop (mkF m 133 #[.val (.int p1), .val (.int p2), .val (.int (1 : Int32)), .val (.int (0 : Int32)), .val (.ref w_BUYER_DEFAULT), .val (.int (1 : Int32)), .val (.int (1 : Int32)), .unset, .unset] [(.int (1 : Int32))])) (fun t k => XS.goto X26.here hx rfl (pc0 := 129) (pc' := 133) rfl (hb hby at_129) (by decide) (by decide) k) ?_
    refine own_adv (B := T26.setTop (mkF m 134 #[.val (.int p1), .val (.int p2), .val (.int (1 : Int32)), .val (.int (0 : Int32)), .val (.ref w_BUYER_DEFAULT), .val (.int (1 : Int32)), .val (.int (1 : Int32)), .unset, .unset] [(.int (1 : Int32)), (.int (1 : Int32))])) (fun t k => XS.iloadN X26.here hx rfl (hb hby at_133) rfl k) ?_
    refine own_adv (B := T26.setTop (mkF m 137 #[.val (.int p1), .val (.int p2), .val (.int (1 : Int32)), .val (.int (0 : Int32)), .val (.ref w_BUYER_DEFAULT), .val (.int (1 : Int32)), .val (.int (1 : Int32)), .unset, .unset] [(.int (1 : Int32))])) (fun t k => XS.ifNo X26.here hx rfl (hb hby at_134) rfl ((if0 _ _).trans (feq (by decide)).1) k) ?_
    refine own_adv (B := T26.setTop (mkF m 138 #[.val (.int p1), .val (.int p2), .val (.int (1 : Int32)), .val (.int (0 : Int32)), .val (.ref w_BUYER_DEFAULT), .val (.int (1 : Int32)), .val (.int (1 : Int32)), .unset, .unset] [(.int (0 : Int32)), (.int (1 : Int32))])) (fun t k => XS.iloadN X26.here hx rfl (hb hby at_137) rfl k) ?_
    refine own_adv (B := T26.setTop (mkF m 141 #[.val (.int p1), .val (.int p2), .val (.int (1 : Int32)), .val (.int (0 : Int32)), .val (.ref w_BUYER_DEFAULT), .val (.int (1 : Int32)), .val (.int (1 : Int32)), .unset, .unset] [(.int (1 : Int32))])) (fun t k => XS.ifNo X26.here hx rfl (hb hby at_138) rfl ((if0 _ _).trans (teq (rfl : (0 : Int32) = (0 : Int32))).2) k) ?_
    refine own_adv (B := T26.setTop (mkF m 142 #[.val (.int p1), .val (.int p2), .val (.int (1 : Int32)), .val (.int (0 : Int32)), .val (.ref w_BUYER_DEFAULT), .val (.int (1 : Int32)), .val (.int (1 : Int32)), .unset, .unset] [(.int (1 : Int32)), (.int (1 : Int32))])) (fun t k => XS.iconst X26.here hx rfl (hb hby at_141) k) ?_
    refine own_adv (B := T26.setTop (mkF m 146 #[.val (.int p1), .val (.int p2), .val (.int (1 : Int32)), .val (.int (0 : Int32)), .val (.ref w_BUYER_DEFAULT), .val (.int (1 : Int32)), .val (.int (1 : Int32)), .unset, .unset] [(.int (1 : Int32)), (.int (1 : Int32))])) (fun t k => XS.goto X26.here hx rfl (pc0 := 142) (pc' := 146) rfl (hb hby at_142) (by decide) (by decide) k) ?_
    refine own_adv (B := T26.setTop (mkF m 149 #[.val (.int p1), .val (.int p2), .val (.int (1 : Int32)), .val (.int (0 : Int32)), .val (.ref w_BUYER_DEFAULT), .val (.int (1 : Int32)), .val (.int (1 : Int32)), .unset, .unset] [])) (fun t k => XS.icmpNo X26.here hx rfl (hb hby at_146) rfl (teq (rfl : (1 : Int32) = (1 : Int32))).2 k) ?_
    refine own_adv (B := T26.setTop (mkF m 150 #[.val (.int p1), .val (.int p2), .val (.int (1 : Int32)), .val (.int (0 : Int32)), .val (.ref w_BUYER_DEFAULT), .val (.int (1 : Int32)), .val (.int (1 : Int32)), .unset, .unset] [(.int (1 : Int32))])) (fun t k => XS.iconst X26.here hx rfl (hb hby at_149) k) ?_
    refine own_adv (B := T26.setTop (mkF m 154 #[.val (.int p1), .val (.int p2), .val (.int (1 : Int32)), .val (.int (0 : Int32)), .val (.ref w_BUYER_DEFAULT), .val (.int (1 : Int32)), .val (.int (1 : Int32)), .unset, .unset] [(.int (1 : Int32))])) (fun t k => XS.goto X26.here hx rfl (pc0 := 150) (pc' := 154) rfl (hb hby at_150) (by decide) (by decide) k) ?_
    refine own_adv (B := T26.setTop (mkF m 156 #[.val (.int p1), .val (.int p2), .val (.int (1 : Int32)), .val (.int (0 : Int32)), .val (.ref w_BUYER_DEFAULT), .val (.int (1 : Int32)), .val (.int (1 : Int32)), .val (.int (1 : Int32)), .unset] [])) (fun t k => XS.istore X26.here hx rfl (hb hby at_154) rfl (l' := #[.val (.int p1), .val (.int p2), .val (.int (1 : Int32)), .val (.int (0 : Int32)), .val (.ref w_BUYER_DEFAULT), .val (.int (1 : Int32)), .val (.int (1 : Int32)), .val (.int (1 : Int32)), .unset]) rfl k) ?_
    refine own_adv (B := T26.setTop (mkF m 158 #[.val (.int p1), .val (.int p2), .val (.int (1 : Int32)), .val (.int (0 : Int32)), .val (.ref w_BUYER_DEFAULT), .val (.int (1 : Int32)), .val (.int (1 : Int32)), .val (.int (1 : Int32)), .unset] [(.ref w_BUYER_DEFAULT)])) (fun t k => XS.aload X26.here hx rfl (hb hby at_156) rfl rfl k) ?_
    obtain ⟨T27, X27, e27, st27⟩ := getS2 X26 hx hZ hown (host := "") (Or.inl (hw _ (List.mem_of_getElem? (i := 13) rfl))) Via.refl e26 S_BOTH_DEFAULT (g := (mkF m 158 #[.val (.int p1), .val (.int p2), .val (.int (1 : Int32)), .val (.int (0 : Int32)), .val (.ref w_BUYER_DEFAULT), .val (.int (1 : Int32)), .val (.int (1 : Int32)), .val (.int (1 : Int32)), .unset] [(.ref w_BUYER_DEFAULT)])) rfl (hb hby at_158)
    refine own_adv (B := T27.setTop (mkF m 161 #[.val (.int p1), .val (.int p2), .val (.int (1 : Int32)), .val (.int (0 : Int32)), .val (.ref w_BUYER_DEFAULT), .val (.int (1 : Int32)), .val (.int (1 : Int32)), .val (.int (1 : Int32)), .unset] [(.ref w_BOTH_DEFAULT), (.ref w_BUYER_DEFAULT)])) st27 ?_
    refine own_adv (B := T27.setTop (mkF m 168 #[.val (.int p1), .val (.int p2), .val (.int (1 : Int32)), .val (.int (0 : Int32)), .val (.ref w_BUYER_DEFAULT), .val (.int (1 : Int32)), .val (.int (1 : Int32)), .val (.int (1 : Int32)), .unset] [])) (fun t k => Jvm.RoadKit.acmp (g := (mkF m 161 #[.val (.int p1), .val (.int p2), .val (.int (1 : Int32)), .val (.int (0 : Int32)), .val (.ref w_BUYER_DEFAULT), .val (.int (1 : Int32)), .val (.int (1 : Int32)), .val (.int (1 : Int32)), .unset] [(.ref w_BOTH_DEFAULT), (.ref w_BUYER_DEFAULT)])) X27 hx rfl rfl rfl (pc0 := 161) (pc' := 168) (same := false) rfl (hb hby at_161) rfl (decide_eq_false fun q => (Fld.ne F_ordinal_BUYER_DEFAULT F_ordinal_BOTH_DEFAULT (by simp)) (Value.ref.inj q)) (by decide) (by decide) k) ?_
    refine own_adv (B := T27.setTop (mkF m 169 #[.val (.int p1), .val (.int p2), .val (.int (1 : Int32)), .val (.int (0 : Int32)), .val (.ref w_BUYER_DEFAULT), .val (.int (1 : Int32)), .val (.int (1 : Int32)), .val (.int (1 : Int32)), .unset] [(.int (0 : Int32))])) (fun t k => XS.iconst X27.here hx rfl (hb hby at_168) k) ?_
    refine own_adv (B := T27.setTop (mkF m 170 #[.val (.int p1), .val (.int p2), .val (.int (1 : Int32)), .val (.int (0 : Int32)), .val (.ref w_BUYER_DEFAULT), .val (.int (1 : Int32)), .val (.int (1 : Int32)), .val (.int (1 : Int32)), .unset] [(.int (1 : Int32)), (.int (0 : Int32))])) (fun t k => XS.iloadN X27.here hx rfl (hb hby at_169) rfl k) ?_
    refine own_adv (B := T27.setTop (mkF m 181 #[.val (.int p1), .val (.int p2), .val (.int (1 : Int32)), .val (.int (0 : Int32)), .val (.ref w_BUYER_DEFAULT), .val (.int (1 : Int32)), .val (.int (1 : Int32)), .val (.int (1 : Int32)), .unset] [(.int (0 : Int32))])) (fun t k => XS.ifYes X27.here hx rfl (pc0 := 170) (pc' := 181) rfl (hb hby at_170) rfl ((if0 _ _).trans (feq (by decide)).2) (by decide) (by decide) k) ?_
    refine own_adv (B := T27.setTop (mkF m 182 #[.val (.int p1), .val (.int p2), .val (.int (1 : Int32)), .val (.int (0 : Int32)), .val (.ref w_BUYER_DEFAULT), .val (.int (1 : Int32)), .val (.int (1 : Int32)), .val (.int (1 : Int32)), .unset] [(.int (0 : Int32)), (.int (0 : Int32))])) (fun t k => XS.iconst X27.here hx rfl (hb hby at_181) k) ?_
    refine own_adv (B := T27.setTop (mkF m 185 #[.val (.int p1), .val (.int p2), .val (.int (1 : Int32)), .val (.int (0 : Int32)), .val (.ref w_BUYER_DEFAULT), .val (.int (1 : Int32)), .val (.int (1 : Int32)), .val (.int (1 : Int32)), .unset] [])) (fun t k => XS.icmpNo X27.here hx rfl (hb hby at_182) rfl (teq (rfl : (0 : Int32) = (0 : Int32))).2 k) ?_
    refine own_adv (B := T27.setTop (mkF m 186 #[.val (.int p1), .val (.int p2), .val (.int (1 : Int32)), .val (.int (0 : Int32)), .val (.ref w_BUYER_DEFAULT), .val (.int (1 : Int32)), .val (.int (1 : Int32)), .val (.int (1 : Int32)), .unset] [(.int (1 : Int32))])) (fun t k => XS.iconst X27.here hx rfl (hb hby at_185) k) ?_
    refine own_adv (B := T27.setTop (mkF m 190 #[.val (.int p1), .val (.int p2), .val (.int (1 : Int32)), .val (.int (0 : Int32)), .val (.ref w_BUYER_DEFAULT), .val (.int (1 : Int32)), .val (.int (1 : Int32)), .val (.int (1 : Int32)), .unset] [(.int (1 : Int32))])) (fun t k => XS.goto X27.here hx rfl (pc0 := 186) (pc' := 190) rfl (hb hby at_186) (by decide) (by decide) k) ?_
    refine own_adv (B := T27.setTop (mkF m 192 #[.val (.int p1), .val (.int p2), .val (.int (1 : Int32)), .val (.int (0 : Int32)), .val (.ref w_BUYER_DEFAULT), .val (.int (1 : Int32)), .val (.int (1 : Int32)), .val (.int (1 : Int32)), .val (.int (1 : Int32))] [])) (fun t k => XS.istore X27.here hx rfl (hb hby at_190) rfl (l' := #[.val (.int p1), .val (.int p2), .val (.int (1 : Int32)), .val (.int (0 : Int32)), .val (.ref w_BUYER_DEFAULT), .val (.int (1 : Int32)), .val (.int (1 : Int32)), .val (.int (1 : Int32)), .val (.int (1 : Int32))]) rfl k) ?_
    refine own_adv (B := T27.setTop (mkF m 194 #[.val (.int p1), .val (.int p2), .val (.int (1 : Int32)), .val (.int (0 : Int32)), .val (.ref w_BUYER_DEFAULT), .val (.int (1 : Int32)), .val (.int (1 : Int32)), .val (.int (1 : Int32)), .val (.int (1 : Int32))] [(.int (1 : Int32))])) (fun t k => XS.iload X27.here hx rfl (hb hby at_192) rfl k) ?_
    refine own_adv (B := T27.setTop (mkF m 197 #[.val (.int p1), .val (.int p2), .val (.int (1 : Int32)), .val (.int (0 : Int32)), .val (.ref w_BUYER_DEFAULT), .val (.int (1 : Int32)), .val (.int (1 : Int32)), .val (.int (1 : Int32)), .val (.int (1 : Int32))] [])) (fun t k => XS.ifNo X27.here hx rfl (hb hby at_194) rfl ((if0 _ _).trans (feq (by decide)).1) k) ?_
    refine own_adv (B := T27.setTop (mkF m 199 #[.val (.int p1), .val (.int p2), .val (.int (1 : Int32)), .val (.int (0 : Int32)), .val (.ref w_BUYER_DEFAULT), .val (.int (1 : Int32)), .val (.int (1 : Int32)), .val (.int (1 : Int32)), .val (.int (1 : Int32))] [(.int (1 : Int32))])) (fun t k => XS.iload X27.here hx rfl (hb hby at_197) rfl k) ?_
    refine own_adv (B := T27.setTop (mkF m 202 #[.val (.int p1), .val (.int p2), .val (.int (1 : Int32)), .val (.int (0 : Int32)), .val (.ref w_BUYER_DEFAULT), .val (.int (1 : Int32)), .val (.int (1 : Int32)), .val (.int (1 : Int32)), .val (.int (1 : Int32))] [])) (fun t k => XS.ifNo X27.here hx rfl (hb hby at_199) rfl ((if0 _ _).trans (feq (by decide)).1) k) ?_
    refine own_adv (B := T27.setTop (mkF m 204 #[.val (.int p1), .val (.int p2), .val (.int (1 : Int32)), .val (.int (0 : Int32)), .val (.ref w_BUYER_DEFAULT), .val (.int (1 : Int32)), .val (.int (1 : Int32)), .val (.int (1 : Int32)), .val (.int (1 : Int32))] [(.int (1 : Int32))])) (fun t k => XS.iload X27.here hx rfl (hb hby at_202) rfl k) ?_
    refine own_adv (B := T27.setTop (mkF m 207 #[.val (.int p1), .val (.int p2), .val (.int (1 : Int32)), .val (.int (0 : Int32)), .val (.ref w_BUYER_DEFAULT), .val (.int (1 : Int32)), .val (.int (1 : Int32)), .val (.int (1 : Int32)), .val (.int (1 : Int32))] [])) (fun t k => XS.ifNo X27.here hx rfl (hb hby at_204) rfl ((if0 _ _).trans (feq (by decide)).1) k) ?_
    refine own_adv (B := T27.setTop (mkF m 209 #[.val (.int p1), .val (.int p2), .val (.int (1 : Int32)), .val (.int (0 : Int32)), .val (.ref w_BUYER_DEFAULT), .val (.int (1 : Int32)), .val (.int (1 : Int32)), .val (.int (1 : Int32)), .val (.int (1 : Int32))] [(.int (1 : Int32))])) (fun t k => XS.iload X27.here hx rfl (hb hby at_207) rfl k) ?_
    refine own_adv (B := T27.setTop (mkF m 212 #[.val (.int p1), .val (.int p2), .val (.int (1 : Int32)), .val (.int (0 : Int32)), .val (.ref w_BUYER_DEFAULT), .val (.int (1 : Int32)), .val (.int (1 : Int32)), .val (.int (1 : Int32)), .val (.int (1 : Int32))] [])) (fun t k => XS.ifNo X27.here hx rfl (hb hby at_209) rfl ((if0 _ _).trans (feq (by decide)).1) k) ?_
    refine own_adv (B := T27.setTop (mkF m 213 #[.val (.int p1), .val (.int p2), .val (.int (1 : Int32)), .val (.int (0 : Int32)), .val (.ref w_BUYER_DEFAULT), .val (.int (1 : Int32)), .val (.int (1 : Int32)), .val (.int (1 : Int32)), .val (.int (1 : Int32))] [(.int (1 : Int32))])) (fun t k => XS.iconst X27.here hx rfl (hb hby at_212) k) ?_
    refine own_adv (B := T27.setTop (mkF m 217 #[.val (.int p1), .val (.int p2), .val (.int (1 : Int32)), .val (.int (0 : Int32)), .val (.ref w_BUYER_DEFAULT), .val (.int (1 : Int32)), .val (.int (1 : Int32)), .val (.int (1 : Int32)), .val (.int (1 : Int32))] [(.int (1 : Int32))])) (fun t k => XS.goto X27.here hx rfl (pc0 := 213) (pc' := 217) rfl (hb hby at_213) (by decide) (by decide) k) ?_
    obtain ⟨fs, hr, hrun, hended, hW, hsame⟩ := X27.leave (v := some (.int (1 : Int32))) (fun h => by rw [Bd.returns] at h; cases h)
    refine ⟨_, _, retN X27 hx (t := .boolean) Bd.returns (by simp) (hb hby at_217) hr, hrun, hended, _, _, rfl, ?_, ⟨_, rfl⟩, hW, hsame.mono (by decide) (by decide)⟩
    exact ⟨rfl, N22⟩
  refine own_adv (B := s₁.setTop (mkF m 18 #[.val (.int p1), .val (.int p2), .val (.int (1 : Int32)), .unset, .unset, .unset, .unset, .unset, .unset] [])) (fun t k => XS.ifNo X0.here hx rfl (hb hby at_15) rfl ((if0 _ _).trans (feq ht).1) k) ?_
  refine own_adv (B := s₁.setTop (mkF m 19 #[.val (.int p1), .val (.int p2), .val (.int (1 : Int32)), .unset, .unset, .unset, .unset, .unset, .unset] [(.int (1 : Int32))])) (fun t k => XS.iconst X0.here hx rfl (hb hby at_18) k) ?_
  refine own_adv (B := s₁.setTop (mkF m 23 #[.val (.int p1), .val (.int p2), .val (.int (1 : Int32)), .unset, .unset, .unset, .unset, .unset, .unset] [(.int (1 : Int32))])) (fun t k => XS.goto X0.here hx rfl (pc0 := 19) (pc' := 23) rfl (hb hby at_19) (by decide) (by decide) k) ?_
  refine own_adv (B := s₁.setTop (mkF m 24 #[.val (.int p1), .val (.int p2), .val (.int (1 : Int32)), .val (.int (1 : Int32)), .unset, .unset, .unset, .unset, .unset] [])) (fun t k => XS.istoreN X0.here hx rfl (hb hby at_23) rfl (l' := #[.val (.int p1), .val (.int p2), .val (.int (1 : Int32)), .val (.int (1 : Int32)), .unset, .unset, .unset, .unset, .unset]) rfl k) ?_
  refine own_adv (B := s₁.setTop (mkF m 25 #[.val (.int p1), .val (.int p2), .val (.int (1 : Int32)), .val (.int (1 : Int32)), .unset, .unset, .unset, .unset, .unset] [(.int (1 : Int32))])) (fun t k => XS.iloadN X0.here hx rfl (hb hby at_24) rfl k) ?_
  refine own_adv (B := s₁.setTop (mkF m 26 #[.val (.int p1), .val (.int p2), .val (.int (1 : Int32)), .val (.int (1 : Int32)), .unset, .unset, .unset, .unset, .unset] [(.int (1 : Int32)), (.int (1 : Int32))])) (fun t k => XS.iloadN X0.here hx rfl (hb hby at_25) rfl k) ?_
  obtain ⟨_, _, ⟨T28, L28, k28, n28⟩, -, X28, ⟨Lc28, hQ28, l28, y28, z28⟩, st28⟩ := Jvm.LawKit.callS X0 hx (y := (⟨"com/example/kharman/kharman/DeliveryStatus", "settled", "(ZZ)Lcom/example/kharman/kharman/DeliveryStatus;"⟩ : MethodName)) hown (mvT hZ (hw _ (List.mem_of_getElem? (i := 0) rfl))) (mvT hZ (hw _ (List.mem_of_getElem? (i := 1) rfl))) (mvT hZ (hw _ (List.mem_of_getElem? (i := 2) rfl))) (mvT hZ (hw _ (List.mem_of_getElem? (i := 3) rfl))) (by decide) (backOf (W := 0) (rm1 l Z a0 hw [] (1 : Int32) (1 : Int32) w_DELIVERED w_SELLER_DEFAULT w_BUYER_DEFAULT w_BOTH_DEFAULT w_DELIVERED h0 n0 Z0 S_DELIVERED S_SELLER_DEFAULT S_BUYER_DEFAULT S_BOTH_DEFAULT (Or.inl ⟨rfl, rfl, rfl⟩)) hZ (hw _ (List.mem_of_getElem? (i := 3) rfl)) (hw _ (List.mem_of_getElem? (i := 2) rfl)) (by decide) (by decide)) (g := (mkF m 26 #[.val (.int p1), .val (.int p2), .val (.int (1 : Int32)), .val (.int (1 : Int32)), .unset, .unset, .unset, .unset, .unset] [(.int (1 : Int32)), (.int (1 : Int32))])) rfl (by rw [hml]; rfl) (argsL := [(.int (1 : Int32)), (.int (1 : Int32))]) (rest := []) (lenOf own_pd__ZZ_Lcom_example_kharman_kharman_DeliveryStatus_ rfl) rfl (by show 2 * 0 + _ ≤ _; exact Nat.le_of_eq rfl) (hb hby at_26) (fun _ _ => ⟨rfl, e0, (by decide : 0 + 0 ≤ _), (by decide : 0 + 0 ≤ _)⟩)
  dsimp only [Pt.U, Pt.locs, Pt.cells, Pt.slots] at X28 l28 y28 z28 st28 hQ28
  subst l28 y28 z28
  obtain ⟨rfl, N28q, e28⟩ := hQ28
  have N28 := Fr.app N0 N28q
  refine own_adv (B := T28.setTop (mkF m 29 #[.val (.int p1), .val (.int p2), .val (.int (1 : Int32)), .val (.int (1 : Int32)), .unset, .unset, .unset, .unset, .unset] [(.ref w_DELIVERED)])) (fun t k => st28 t k) ?_
  refine own_adv (B := T28.setTop (mkF m 31 #[.val (.int p1), .val (.int p2), .val (.int (1 : Int32)), .val (.int (1 : Int32)), .val (.ref w_DELIVERED), .unset, .unset, .unset, .unset] [])) (fun t k => XS.astore X28.here hx rfl (hb hby at_29) rfl rfl (l' := #[.val (.int p1), .val (.int p2), .val (.int (1 : Int32)), .val (.int (1 : Int32)), .val (.ref w_DELIVERED), .unset, .unset, .unset, .unset]) rfl k) ?_
  refine own_adv (B := T28.setTop (mkF m 33 #[.val (.int p1), .val (.int p2), .val (.int (1 : Int32)), .val (.int (1 : Int32)), .val (.ref w_DELIVERED), .unset, .unset, .unset, .unset] [(.ref w_DELIVERED)])) (fun t k => XS.aload X28.here hx rfl (hb hby at_31) rfl rfl k) ?_
  refine own_adv (B := T28.setTop (mkF m 38 #[.val (.int p1), .val (.int p2), .val (.int (1 : Int32)), .val (.int (1 : Int32)), .val (.ref w_DELIVERED), .unset, .unset, .unset, .unset] [])) (fun t k => XS.ifnonnullYes X28.here hx rfl (pc0 := 33) (pc' := 38) rfl (hb hby at_33) rfl (by decide) (by decide) k) ?_
  refine own_adv (B := T28.setTop (mkF m 40 #[.val (.int p1), .val (.int p2), .val (.int (1 : Int32)), .val (.int (1 : Int32)), .val (.ref w_DELIVERED), .unset, .unset, .unset, .unset] [(.ref w_DELIVERED)])) (fun t k => XS.aload X28.here hx rfl (hb hby at_38) rfl rfl k) ?_
  obtain ⟨T29, X29, e29, st29⟩ := getS2 X28 hx hZ hown (host := "") (Or.inl (hw _ (List.mem_of_getElem? (i := 6) rfl))) Via.refl e28 S_PENDING (g := (mkF m 40 #[.val (.int p1), .val (.int p2), .val (.int (1 : Int32)), .val (.int (1 : Int32)), .val (.ref w_DELIVERED), .unset, .unset, .unset, .unset] [(.ref w_DELIVERED)])) rfl (hb hby at_40)
  refine own_adv (B := T29.setTop (mkF m 43 #[.val (.int p1), .val (.int p2), .val (.int (1 : Int32)), .val (.int (1 : Int32)), .val (.ref w_DELIVERED), .unset, .unset, .unset, .unset] [(.ref w_PENDING), (.ref w_DELIVERED)])) st29 ?_
  refine own_adv (B := T29.setTop (mkF m 48 #[.val (.int p1), .val (.int p2), .val (.int (1 : Int32)), .val (.int (1 : Int32)), .val (.ref w_DELIVERED), .unset, .unset, .unset, .unset] [])) (fun t k => Jvm.RoadKit.acmp (g := (mkF m 43 #[.val (.int p1), .val (.int p2), .val (.int (1 : Int32)), .val (.int (1 : Int32)), .val (.ref w_DELIVERED), .unset, .unset, .unset, .unset] [(.ref w_PENDING), (.ref w_DELIVERED)])) X29 hx rfl rfl rfl (pc0 := 43) (pc' := 48) (same := false) rfl (hb hby at_43) rfl (decide_eq_false fun q => (Fld.ne F_ordinal_DELIVERED F_ordinal_PENDING (by simp)) (Value.ref.inj q)) (by decide) (by decide) k) ?_
  refine own_adv (B := T29.setTop (mkF m 50 #[.val (.int p1), .val (.int p2), .val (.int (1 : Int32)), .val (.int (1 : Int32)), .val (.ref w_DELIVERED), .unset, .unset, .unset, .unset] [(.ref w_DELIVERED)])) (fun t k => XS.aload X29.here hx rfl (hb hby at_48) rfl rfl k) ?_
  obtain ⟨T30, X30, e30, st30⟩ := getS2 X29 hx hZ hown (host := "") (Or.inl (hw _ (List.mem_of_getElem? (i := 8) rfl))) Via.refl e29 S_DELIVERED (g := (mkF m 50 #[.val (.int p1), .val (.int p2), .val (.int (1 : Int32)), .val (.int (1 : Int32)), .val (.ref w_DELIVERED), .unset, .unset, .unset, .unset] [(.ref w_DELIVERED)])) rfl (hb hby at_50)
  refine own_adv (B := T30.setTop (mkF m 53 #[.val (.int p1), .val (.int p2), .val (.int (1 : Int32)), .val (.int (1 : Int32)), .val (.ref w_DELIVERED), .unset, .unset, .unset, .unset] [(.ref w_DELIVERED), (.ref w_DELIVERED)])) st30 ?_
  refine own_adv (B := T30.setTop (mkF m 56 #[.val (.int p1), .val (.int p2), .val (.int (1 : Int32)), .val (.int (1 : Int32)), .val (.ref w_DELIVERED), .unset, .unset, .unset, .unset] [])) (fun t k => Jvm.RoadKit.acmp (g := (mkF m 53 #[.val (.int p1), .val (.int p2), .val (.int (1 : Int32)), .val (.int (1 : Int32)), .val (.ref w_DELIVERED), .unset, .unset, .unset, .unset] [(.ref w_DELIVERED), (.ref w_DELIVERED)])) X30 hx rfl rfl rfl (pc0 := 53) (pc' := 56) (same := true) rfl (hb hby at_53) rfl (decide_eq_true rfl) (by decide) (by decide) k) ?_
  refine own_adv (B := T30.setTop (mkF m 57 #[.val (.int p1), .val (.int p2), .val (.int (1 : Int32)), .val (.int (1 : Int32)), .val (.ref w_DELIVERED), .unset, .unset, .unset, .unset] [(.int (1 : Int32))])) (fun t k => XS.iconst X30.here hx rfl (hb hby at_56) k) ?_
  refine own_adv (B := T30.setTop (mkF m 61 #[.val (.int p1), .val (.int p2), .val (.int (1 : Int32)), .val (.int (1 : Int32)), .val (.ref w_DELIVERED), .unset, .unset, .unset, .unset] [(.int (1 : Int32))])) (fun t k => XS.goto X30.here hx rfl (pc0 := 57) (pc' := 61) rfl (hb hby at_57) (by decide) (by decide) k) ?_
  refine own_adv (B := T30.setTop (mkF m 62 #[.val (.int p1), .val (.int p2), .val (.int (1 : Int32)), .val (.int (1 : Int32)), .val (.ref w_DELIVERED), .unset, .unset, .unset, .unset] [(.int (1 : Int32)), (.int (1 : Int32))])) (fun t k => XS.iloadN X30.here hx rfl (hb hby at_61) rfl k) ?_
  refine own_adv (B := T30.setTop (mkF m 65 #[.val (.int p1), .val (.int p2), .val (.int (1 : Int32)), .val (.int (1 : Int32)), .val (.ref w_DELIVERED), .unset, .unset, .unset, .unset] [(.int (1 : Int32))])) (fun t k => XS.ifNo X30.here hx rfl (hb hby at_62) rfl ((if0 _ _).trans (feq (by decide)).1) k) ?_
  refine own_adv (B := T30.setTop (mkF m 66 #[.val (.int p1), .val (.int p2), .val (.int (1 : Int32)), .val (.int (1 : Int32)), .val (.ref w_DELIVERED), .unset, .unset, .unset, .unset] [(.int (1 : Int32)), (.int (1 : Int32))])) (fun t k => XS.iloadN X30.here hx rfl (hb hby at_65) rfl k) ?_
  refine own_adv (B := T30.setTop (mkF m 69 #[.val (.int p1), .val (.int p2), .val (.int (1 : Int32)), .val (.int (1 : Int32)), .val (.ref w_DELIVERED), .unset, .unset, .unset, .unset] [(.int (1 : Int32))])) (fun t k => XS.ifNo X30.here hx rfl (hb hby at_66) rfl ((if0 _ _).trans (feq (by decide)).1) k) ?_
  refine own_adv (B := T30.setTop (mkF m 70 #[.val (.int p1), .val (.int p2), .val (.int (1 : Int32)), .val (.int (1 : Int32)), .val (.ref w_DELIVERED), .unset, .unset, .unset, .unset] [(.int (1 : Int32)), (.int (1 : Int32))])) (fun t k => XS.iconst X30.here hx rfl (hb hby at_69) k) ?_
  refine own_adv (B := T30.setTop (mkF m 74 #[.val (.int p1), .val (.int p2), .val (.int (1 : Int32)), .val (.int (1 : Int32)), .val (.ref w_DELIVERED), .unset, .unset, .unset, .unset] [(.int (1 : Int32)), (.int (1 : Int32))])) (fun t k => XS.goto X30.here hx rfl (pc0 := 70) (pc' := 74) rfl (hb hby at_70) (by decide) (by decide) k) ?_
  refine own_adv (B := T30.setTop (mkF m 77 #[.val (.int p1), .val (.int p2), .val (.int (1 : Int32)), .val (.int (1 : Int32)), .val (.ref w_DELIVERED), .unset, .unset, .unset, .unset] [])) (fun t k => XS.icmpNo X30.here hx rfl (hb hby at_74) rfl (teq (rfl : (1 : Int32) = (1 : Int32))).2 k) ?_
  refine own_adv (B := T30.setTop (mkF m 78 #[.val (.int p1), .val (.int p2), .val (.int (1 : Int32)), .val (.int (1 : Int32)), .val (.ref w_DELIVERED), .unset, .unset, .unset, .unset] [(.int (1 : Int32))])) (fun t k => XS.iconst X30.here hx rfl (hb hby at_77) k) ?_
  refine own_adv (B := T30.setTop (mkF m 82 #[.val (.int p1), .val (.int p2), .val (.int (1 : Int32)), .val (.int (1 : Int32)), .val (.ref w_DELIVERED), .unset, .unset, .unset, .unset] [(.int (1 : Int32))])) (fun t k => XS.goto X30.here hx rfl (pc0 := 78) (pc' := 82) rfl (hb hby at_78) (by decide) (by decide) k) ?_
  refine own_adv (B := T30.setTop (mkF m 84 #[.val (.int p1), .val (.int p2), .val (.int (1 : Int32)), .val (.int (1 : Int32)), .val (.ref w_DELIVERED), .val (.int (1 : Int32)), .unset, .unset, .unset] [])) (fun t k => XS.istore X30.here hx rfl (hb hby at_82) rfl (l' := #[.val (.int p1), .val (.int p2), .val (.int (1 : Int32)), .val (.int (1 : Int32)), .val (.ref w_DELIVERED), .val (.int (1 : Int32)), .unset, .unset, .unset]) rfl k) ?_
  refine own_adv (B := T30.setTop (mkF m 86 #[.val (.int p1), .val (.int p2), .val (.int (1 : Int32)), .val (.int (1 : Int32)), .val (.ref w_DELIVERED), .val (.int (1 : Int32)), .unset, .unset, .unset] [(.ref w_DELIVERED)])) (fun t k => XS.aload X30.here hx rfl (hb hby at_84) rfl rfl k) ?_
  obtain ⟨T31, X31, e31, st31⟩ := getS2 X30 hx hZ hown (host := "") (Or.inl (hw _ (List.mem_of_getElem? (i := 10) rfl))) Via.refl e30 S_SELLER_DEFAULT (g := (mkF m 86 #[.val (.int p1), .val (.int p2), .val (.int (1 : Int32)), .val (.int (1 : Int32)), .val (.ref w_DELIVERED), .val (.int (1 : Int32)), .unset, .unset, .unset] [(.ref w_DELIVERED)])) rfl (hb hby at_86)
  refine own_adv (B := T31.setTop (mkF m 89 #[.val (.int p1), .val (.int p2), .val (.int (1 : Int32)), .val (.int (1 : Int32)), .val (.ref w_DELIVERED), .val (.int (1 : Int32)), .unset, .unset, .unset] [(.ref w_SELLER_DEFAULT), (.ref w_DELIVERED)])) st31 ?_
  refine own_adv (B := T31.setTop (mkF m 96 #[.val (.int p1), .val (.int p2), .val (.int (1 : Int32)), .val (.int (1 : Int32)), .val (.ref w_DELIVERED), .val (.int (1 : Int32)), .unset, .unset, .unset] [])) (fun t k => Jvm.RoadKit.acmp (g := (mkF m 89 #[.val (.int p1), .val (.int p2), .val (.int (1 : Int32)), .val (.int (1 : Int32)), .val (.ref w_DELIVERED), .val (.int (1 : Int32)), .unset, .unset, .unset] [(.ref w_SELLER_DEFAULT), (.ref w_DELIVERED)])) X31 hx rfl rfl rfl (pc0 := 89) (pc' := 96) (same := false) rfl (hb hby at_89) rfl (decide_eq_false fun q => (Fld.ne F_ordinal_DELIVERED F_ordinal_SELLER_DEFAULT (by simp)) (Value.ref.inj q)) (by decide) (by decide) k) ?_
  refine own_adv (B := T31.setTop (mkF m 97 #[.val (.int p1), .val (.int p2), .val (.int (1 : Int32)), .val (.int (1 : Int32)), .val (.ref w_DELIVERED), .val (.int (1 : Int32)), .unset, .unset, .unset] [(.int (0 : Int32))])) (fun t k => XS.iconst X31.here hx rfl (hb hby at_96) k) ?_
  refine own_adv (B := T31.setTop (mkF m 98 #[.val (.int p1), .val (.int p2), .val (.int (1 : Int32)), .val (.int (1 : Int32)), .val (.ref w_DELIVERED), .val (.int (1 : Int32)), .unset, .unset, .unset] [(.int (1 : Int32)), (.int (0 : Int32))])) (fun t k => XS.iloadN X31.here hx rfl (hb hby at_97) rfl k) ?_
  refine own_adv (B := T31.setTop (mkF m 101 #[.val (.int p1), .val (.int p2), .val (.int (1 : Int32)), .val (.int (1 : Int32)), .val (.ref w_DELIVERED), .val (.int (1 : Int32)), .unset, .unset, .unset] [(.int (0 : Int32))])) (fun t k => XS.ifNo X31.here hx rfl (hb hby at_98) rfl ((if0 _ _).trans (feq (by decide)).1) k) ?_
  refine own_adv (B := T31.setTop (mkF m 102 #[.val (.int p1), .val (.int p2), .val (.int (1 : Int32)), .val (.int (1 : Int32)), .val (.ref w_DELIVERED), .val (.int (1 : Int32)), .unset, .unset, .unset] [(.int (1 : Int32)), (.int (0 : Int32))])) (fun t k => XS.iloadN X31.here hx rfl (hb hby at_101) rfl k) ?_
  refine own_adv (B := T31.setTop (mkF m 109 #[.val (.int p1), .val (.int p2), .val (.int (1 : Int32)), .val (.int (1 : Int32)), .val (.ref w_DELIVERED), .val (.int (1 : Int32)), .unset, .unset, .unset] [(.int (0 : Int32))])) (fun t k => XS.ifYes X31.here hx rfl (pc0 := 102) (pc' := 109) rfl (hb hby at_102) rfl ((if0 _ _).trans (feq (by decide)).2) (by decide) (by decide) k) ?_
  refine own_adv (B := T31.setTop (mkF m 110 #[.val (.int p1), .val (.int p2), .val (.int (1 : Int32)), .val (.int (1 : Int32)), .val (.ref w_DELIVERED), .val (.int (1 : Int32)), .unset, .unset, .unset] [(.int (0 : Int32)), (.int (0 : Int32))])) (fun t k => XS.iconst X31.here hx rfl (hb hby at_109) k) ?_
  refine own_adv (B := T31.setTop (mkF m 113 #[.val (.int p1), .val (.int p2), .val (.int (1 : Int32)), .val (.int (1 : Int32)), .val (.ref w_DELIVERED), .val (.int (1 : Int32)), .unset, .unset, .unset] [])) (fun t k => XS.icmpNo X31.here hx rfl (hb hby at_110) rfl (teq (rfl : (0 : Int32) = (0 : Int32))).2 k) ?_
  refine own_adv (B := T31.setTop (mkF m 114 #[.val (.int p1), .val (.int p2), .val (.int (1 : Int32)), .val (.int (1 : Int32)), .val (.ref w_DELIVERED), .val (.int (1 : Int32)), .unset, .unset, .unset] [(.int (1 : Int32))])) (fun t k => XS.iconst X31.here hx rfl (hb hby at_113) k) ?_
  refine own_adv (B := T31.setTop (mkF m 118 #[.val (.int p1), .val (.int p2), .val (.int (1 : Int32)), .val (.int (1 : Int32)), .val (.ref w_DELIVERED), .val (.int (1 : Int32)), .unset, .unset, .unset] [(.int (1 : Int32))])) (fun t k => XS.goto X31.here hx rfl (pc0 := 114) (pc' := 118) rfl (hb hby at_114) (by decide) (by decide) k) ?_
  refine own_adv (B := T31.setTop (mkF m 120 #[.val (.int p1), .val (.int p2), .val (.int (1 : Int32)), .val (.int (1 : Int32)), .val (.ref w_DELIVERED), .val (.int (1 : Int32)), .val (.int (1 : Int32)), .unset, .unset] [])) (fun t k => XS.istore X31.here hx rfl (hb hby at_118) rfl (l' := #[.val (.int p1), .val (.int p2), .val (.int (1 : Int32)), .val (.int (1 : Int32)), .val (.ref w_DELIVERED), .val (.int (1 : Int32)), .val (.int (1 : Int32)), .unset, .unset]) rfl k) ?_
  refine own_adv (B := T31.setTop (mkF m 122 #[.val (.int p1), .val (.int p2), .val (.int (1 : Int32)), .val (.int (1 : Int32)), .val (.ref w_DELIVERED), .val (.int (1 : Int32)), .val (.int (1 : Int32)), .unset, .unset] [(.ref w_DELIVERED)])) (fun t k => XS.aload X31.here hx rfl (hb hby at_120) rfl rfl k) ?_
  obtain ⟨T32, X32, e32, st32⟩ := getS2 X31 hx hZ hown (host := "") (Or.inl (hw _ (List.mem_of_getElem? (i := 11) rfl))) Via.refl e31 S_BUYER_DEFAULT (g := (mkF m 122 #[.val (.int p1), .val (.int p2), .val (.int (1 : Int32)), .val (.int (1 : Int32)), .val (.ref w_DELIVERED), .val (.int (1 : Int32)), .val (.int (1 : Int32)), .unset, .unset] [(.ref w_DELIVERED)])) rfl (hb hby at_122)
  refine own_adv (B := T32.setTop (mkF m 125 #[.val (.int p1), .val (.int p2), .val (.int (1 : Int32)), .val (.int (1 : Int32)), .val (.ref w_DELIVERED), .val (.int (1 : Int32)), .val (.int (1 : Int32)), .unset, .unset] [(.ref w_BUYER_DEFAULT), (.ref w_DELIVERED)])) st32 ?_
  refine own_adv (B := T32.setTop (mkF m 132 #[.val (.int p1), .val (.int p2), .val (.int (1 : Int32)), .val (.int (1 : Int32)), .val (.ref w_DELIVERED), .val (.int (1 : Int32)), .val (.int (1 : Int32)), .unset, .unset] [])) (fun t k => Jvm.RoadKit.acmp (g := (mkF m 125 #[.val (.int p1), .val (.int p2), .val (.int (1 : Int32)), .val (.int (1 : Int32)), .val (.ref w_DELIVERED), .val (.int (1 : Int32)), .val (.int (1 : Int32)), .unset, .unset] [(.ref w_BUYER_DEFAULT), (.ref w_DELIVERED)])) X32 hx rfl rfl rfl (pc0 := 125) (pc' := 132) (same := false) rfl (hb hby at_125) rfl (decide_eq_false fun q => (Fld.ne F_ordinal_DELIVERED F_ordinal_BUYER_DEFAULT (by simp)) (Value.ref.inj q)) (by decide) (by decide) k) ?_
  refine own_adv (B := T32.setTop (mkF m 133 #[.val (.int p1), .val (.int p2), .val (.int (1 : Int32)), .val (.int (1 : Int32)), .val (.ref w_DELIVERED), .val (.int (1 : Int32)), .val (.int (1 : Int32)), .unset, .unset] [(.int (0 : Int32))])) (fun t k => XS.iconst X32.here hx rfl (hb hby at_132) k) ?_
  refine own_adv (B := T32.setTop (mkF m 134 #[.val (.int p1), .val (.int p2), .val (.int (1 : Int32)), .val (.int (1 : Int32)), .val (.ref w_DELIVERED), .val (.int (1 : Int32)), .val (.int (1 : Int32)), .unset, .unset] [(.int (1 : Int32)), (.int (0 : Int32))])) (fun t k => XS.iloadN X32.here hx rfl (hb hby at_133) rfl k) ?_
  refine own_adv (B := T32.setTop (mkF m 137 #[.val (.int p1), .val (.int p2), .val (.int (1 : Int32)), .val (.int (1 : Int32)), .val (.ref w_DELIVERED), .val (.int (1 : Int32)), .val (.int (1 : Int32)), .unset, .unset] [(.int (0 : Int32))])) (fun t k => XS.ifNo X32.here hx rfl (hb hby at_134) rfl ((if0 _ _).trans (feq (by decide)).1) k) ?_
  refine own_adv (B := T32.setTop (mkF m 138 #[.val (.int p1), .val (.int p2), .val (.int (1 : Int32)), .val (.int (1 : Int32)), .val (.ref w_DELIVERED), .val (.int (1 : Int32)), .val (.int (1 : Int32)), .unset, .unset] [(.int (1 : Int32)), (.int (0 : Int32))])) (fun t k => XS.iloadN X32.here hx rfl (hb hby at_137) rfl k) ?_
  refine own_adv (B := T32.setTop (mkF m 145 #[.val (.int p1), .val (.int p2), .val (.int (1 : Int32)), .val (.int (1 : Int32)), .val (.ref w_DELIVERED), .val (.int (1 : Int32)), .val (.int (1 : Int32)), .unset, .unset] [(.int (0 : Int32))])) (fun t k => XS.ifYes X32.here hx rfl (pc0 := 138) (pc' := 145) rfl (hb hby at_138) rfl ((if0 _ _).trans (feq (by decide)).2) (by decide) (by decide) k) ?_
  refine own_adv (B := T32.setTop (mkF m 146 #[.val (.int p1), .val (.int p2), .val (.int (1 : Int32)), .val (.int (1 : Int32)), .val (.ref w_DELIVERED), .val (.int (1 : Int32)), .val (.int (1 : Int32)), .unset, .unset] [(.int (0 : Int32)), (.int (0 : Int32))])) (fun t k => XS.iconst X32.here hx rfl (hb hby at_145) k) ?_
  refine own_adv (B := T32.setTop (mkF m 149 #[.val (.int p1), .val (.int p2), .val (.int (1 : Int32)), .val (.int (1 : Int32)), .val (.ref w_DELIVERED), .val (.int (1 : Int32)), .val (.int (1 : Int32)), .unset, .unset] [])) (fun t k => XS.icmpNo X32.here hx rfl (hb hby at_146) rfl (teq (rfl : (0 : Int32) = (0 : Int32))).2 k) ?_
  refine own_adv (B := T32.setTop (mkF m 150 #[.val (.int p1), .val (.int p2), .val (.int (1 : Int32)), .val (.int (1 : Int32)), .val (.ref w_DELIVERED), .val (.int (1 : Int32)), .val (.int (1 : Int32)), .unset, .unset] [(.int (1 : Int32))])) (fun t k => XS.iconst X32.here hx rfl (hb hby at_149) k) ?_
  refine own_adv (B := T32.setTop (mkF m 154 #[.val (.int p1), .val (.int p2), .val (.int (1 : Int32)), .val (.int (1 : Int32)), .val (.ref w_DELIVERED), .val (.int (1 : Int32)), .val (.int (1 : Int32)), .unset, .unset] [(.int (1 : Int32))])) (fun t k => XS.goto X32.here hx rfl (pc0 := 150) (pc' := 154) rfl (hb hby at_150) (by decide) (by decide) k) ?_
  refine own_adv (B := T32.setTop (mkF m 156 #[.val (.int p1), .val (.int p2), .val (.int (1 : Int32)), .val (.int (1 : Int32)), .val (.ref w_DELIVERED), .val (.int (1 : Int32)), .val (.int (1 : Int32)), .val (.int (1 : Int32)), .unset] [])) (fun t k => XS.istore X32.here hx rfl (hb hby at_154) rfl (l' := #[.val (.int p1), .val (.int p2), .val (.int (1 : Int32)), .val (.int (1 : Int32)), .val (.ref w_DELIVERED), .val (.int (1 : Int32)), .val (.int (1 : Int32)), .val (.int (1 : Int32)), .unset]) rfl k) ?_
  refine own_adv (B := T32.setTop (mkF m 158 #[.val (.int p1), .val (.int p2), .val (.int (1 : Int32)), .val (.int (1 : Int32)), .val (.ref w_DELIVERED), .val (.int (1 : Int32)), .val (.int (1 : Int32)), .val (.int (1 : Int32)), .unset] [(.ref w_DELIVERED)])) (fun t k => XS.aload X32.here hx rfl (hb hby at_156) rfl rfl k) ?_
  obtain ⟨T33, X33, e33, st33⟩ := getS2 X32 hx hZ hown (host := "") (Or.inl (hw _ (List.mem_of_getElem? (i := 13) rfl))) Via.refl e32 S_BOTH_DEFAULT (g := (mkF m 158 #[.val (.int p1), .val (.int p2), .val (.int (1 : Int32)), .val (.int (1 : Int32)), .val (.ref w_DELIVERED), .val (.int (1 : Int32)), .val (.int (1 : Int32)), .val (.int (1 : Int32)), .unset] [(.ref w_DELIVERED)])) rfl (hb hby at_158)
  refine own_adv (B := T33.setTop (mkF m 161 #[.val (.int p1), .val (.int p2), .val (.int (1 : Int32)), .val (.int (1 : Int32)), .val (.ref w_DELIVERED), .val (.int (1 : Int32)), .val (.int (1 : Int32)), .val (.int (1 : Int32)), .unset] [(.ref w_BOTH_DEFAULT), (.ref w_DELIVERED)])) st33 ?_
  refine own_adv (B := T33.setTop (mkF m 168 #[.val (.int p1), .val (.int p2), .val (.int (1 : Int32)), .val (.int (1 : Int32)), .val (.ref w_DELIVERED), .val (.int (1 : Int32)), .val (.int (1 : Int32)), .val (.int (1 : Int32)), .unset] [])) (fun t k => Jvm.RoadKit.acmp (g := (mkF m 161 #[.val (.int p1), .val (.int p2), .val (.int (1 : Int32)), .val (.int (1 : Int32)), .val (.ref w_DELIVERED), .val (.int (1 : Int32)), .val (.int (1 : Int32)), .val (.int (1 : Int32)), .unset] [(.ref w_BOTH_DEFAULT), (.ref w_DELIVERED)])) X33 hx rfl rfl rfl (pc0 := 161) (pc' := 168) (same := false) rfl (hb hby at_161) rfl (decide_eq_false fun q => (Fld.ne F_ordinal_DELIVERED F_ordinal_BOTH_DEFAULT (by simp)) (Value.ref.inj q)) (by decide) (by decide) k) ?_
  refine own_adv (B := T33.setTop (mkF m 169 #[.val (.int p1), .val (.int p2), .val (.int (1 : Int32)), .val (.int (1 : Int32)), .val (.ref w_DELIVERED), .val (.int (1 : Int32)), .val (.int (1 : Int32)), .val (.int (1 : Int32)), .unset] [(.int (0 : Int32))])) (fun t k => XS.iconst X33.here hx rfl (hb hby at_168) k) ?_
  refine own_adv (B := T33.setTop (mkF m 170 #[.val (.int p1), .val (.int p2), .val (.int (1 : Int32)), .val (.int (1 : Int32)), .val (.ref w_DELIVERED), .val (.int (1 : Int32)), .val (.int (1 : Int32)), .val (.int (1 : Int32)), .unset] [(.int (1 : Int32)), (.int (0 : Int32))])) (fun t k => XS.iloadN X33.here hx rfl (hb hby at_169) rfl k) ?_
  refine own_adv (B := T33.setTop (mkF m 181 #[.val (.int p1), .val (.int p2), .val (.int (1 : Int32)), .val (.int (1 : Int32)), .val (.ref w_DELIVERED), .val (.int (1 : Int32)), .val (.int (1 : Int32)), .val (.int (1 : Int32)), .unset] [(.int (0 : Int32))])) (fun t k => XS.ifYes X33.here hx rfl (pc0 := 170) (pc' := 181) rfl (hb hby at_170) rfl ((if0 _ _).trans (feq (by decide)).2) (by decide) (by decide) k) ?_
  refine own_adv (B := T33.setTop (mkF m 182 #[.val (.int p1), .val (.int p2), .val (.int (1 : Int32)), .val (.int (1 : Int32)), .val (.ref w_DELIVERED), .val (.int (1 : Int32)), .val (.int (1 : Int32)), .val (.int (1 : Int32)), .unset] [(.int (0 : Int32)), (.int (0 : Int32))])) (fun t k => XS.iconst X33.here hx rfl (hb hby at_181) k) ?_
  refine own_adv (B := T33.setTop (mkF m 185 #[.val (.int p1), .val (.int p2), .val (.int (1 : Int32)), .val (.int (1 : Int32)), .val (.ref w_DELIVERED), .val (.int (1 : Int32)), .val (.int (1 : Int32)), .val (.int (1 : Int32)), .unset] [])) (fun t k => XS.icmpNo X33.here hx rfl (hb hby at_182) rfl (teq (rfl : (0 : Int32) = (0 : Int32))).2 k) ?_
  refine own_adv (B := T33.setTop (mkF m 186 #[.val (.int p1), .val (.int p2), .val (.int (1 : Int32)), .val (.int (1 : Int32)), .val (.ref w_DELIVERED), .val (.int (1 : Int32)), .val (.int (1 : Int32)), .val (.int (1 : Int32)), .unset] [(.int (1 : Int32))])) (fun t k => XS.iconst X33.here hx rfl (hb hby at_185) k) ?_
  refine own_adv (B := T33.setTop (mkF m 190 #[.val (.int p1), .val (.int p2), .val (.int (1 : Int32)), .val (.int (1 : Int32)), .val (.ref w_DELIVERED), .val (.int (1 : Int32)), .val (.int (1 : Int32)), .val (.int (1 : Int32)), .unset] [(.int (1 : Int32))])) (fun t k => XS.goto X33.here hx rfl (pc0 := 186) (pc' := 190) rfl (hb hby at_186) (by decide) (by decide) k) ?_
  refine own_adv (B := T33.setTop (mkF m 192 #[.val (.int p1), .val (.int p2), .val (.int (1 : Int32)), .val (.int (1 : Int32)), .val (.ref w_DELIVERED), .val (.int (1 : Int32)), .val (.int (1 : Int32)), .val (.int (1 : Int32)), .val (.int (1 : Int32))] [])) (fun t k => XS.istore X33.here hx rfl (hb hby at_190) rfl (l' := #[.val (.int p1), .val (.int p2), .val (.int (1 : Int32)), .val (.int (1 : Int32)), .val (.ref w_DELIVERED), .val (.int (1 : Int32)), .val (.int (1 : Int32)), .val (.int (1 : Int32)), .val (.int (1 : Int32))]) rfl k) ?_
  refine own_adv (B := T33.setTop (mkF m 194 #[.val (.int p1), .val (.int p2), .val (.int (1 : Int32)), .val (.int (1 : Int32)), .val (.ref w_DELIVERED), .val (.int (1 : Int32)), .val (.int (1 : Int32)), .val (.int (1 : Int32)), .val (.int (1 : Int32))] [(.int (1 : Int32))])) (fun t k => XS.iload X33.here hx rfl (hb hby at_192) rfl k) ?_
  refine own_adv (B := T33.setTop (mkF m 197 #[.val (.int p1), .val (.int p2), .val (.int (1 : Int32)), .val (.int (1 : Int32)), .val (.ref w_DELIVERED), .val (.int (1 : Int32)), .val (.int (1 : Int32)), .val (.int (1 : Int32)), .val (.int (1 : Int32))] [])) (fun t k => XS.ifNo X33.here hx rfl (hb hby at_194) rfl ((if0 _ _).trans (feq (by decide)).1) k) ?_
  refine own_adv (B := T33.setTop (mkF m 199 #[.val (.int p1), .val (.int p2), .val (.int (1 : Int32)), .val (.int (1 : Int32)), .val (.ref w_DELIVERED), .val (.int (1 : Int32)), .val (.int (1 : Int32)), .val (.int (1 : Int32)), .val (.int (1 : Int32))] [(.int (1 : Int32))])) (fun t k => XS.iload X33.here hx rfl (hb hby at_197) rfl k) ?_
  refine own_adv (B := T33.setTop (mkF m 202 #[.val (.int p1), .val (.int p2), .val (.int (1 : Int32)), .val (.int (1 : Int32)), .val (.ref w_DELIVERED), .val (.int (1 : Int32)), .val (.int (1 : Int32)), .val (.int (1 : Int32)), .val (.int (1 : Int32))] [])) (fun t k => XS.ifNo X33.here hx rfl (hb hby at_199) rfl ((if0 _ _).trans (feq (by decide)).1) k) ?_
  refine own_adv (B := T33.setTop (mkF m 204 #[.val (.int p1), .val (.int p2), .val (.int (1 : Int32)), .val (.int (1 : Int32)), .val (.ref w_DELIVERED), .val (.int (1 : Int32)), .val (.int (1 : Int32)), .val (.int (1 : Int32)), .val (.int (1 : Int32))] [(.int (1 : Int32))])) (fun t k => XS.iload X33.here hx rfl (hb hby at_202) rfl k) ?_
  refine own_adv (B := T33.setTop (mkF m 207 #[.val (.int p1), .val (.int p2), .val (.int (1 : Int32)), .val (.int (1 : Int32)), .val (.ref w_DELIVERED), .val (.int (1 : Int32)), .val (.int (1 : Int32)), .val (.int (1 : Int32)), .val (.int (1 : Int32))] [])) (fun t k => XS.ifNo X33.here hx rfl (hb hby at_204) rfl ((if0 _ _).trans (feq (by decide)).1) k) ?_
  refine own_adv (B := T33.setTop (mkF m 209 #[.val (.int p1), .val (.int p2), .val (.int (1 : Int32)), .val (.int (1 : Int32)), .val (.ref w_DELIVERED), .val (.int (1 : Int32)), .val (.int (1 : Int32)), .val (.int (1 : Int32)), .val (.int (1 : Int32))] [(.int (1 : Int32))])) (fun t k => XS.iload X33.here hx rfl (hb hby at_207) rfl k) ?_
  refine own_adv (B := T33.setTop (mkF m 212 #[.val (.int p1), .val (.int p2), .val (.int (1 : Int32)), .val (.int (1 : Int32)), .val (.ref w_DELIVERED), .val (.int (1 : Int32)), .val (.int (1 : Int32)), .val (.int (1 : Int32)), .val (.int (1 : Int32))] [])) (fun t k => XS.ifNo X33.here hx rfl (hb hby at_209) rfl ((if0 _ _).trans (feq (by decide)).1) k) ?_
  refine own_adv (B := T33.setTop (mkF m 213 #[.val (.int p1), .val (.int p2), .val (.int (1 : Int32)), .val (.int (1 : Int32)), .val (.ref w_DELIVERED), .val (.int (1 : Int32)), .val (.int (1 : Int32)), .val (.int (1 : Int32)), .val (.int (1 : Int32))] [(.int (1 : Int32))])) (fun t k => XS.iconst X33.here hx rfl (hb hby at_212) k) ?_
  refine own_adv (B := T33.setTop (mkF m 217 #[.val (.int p1), .val (.int p2), .val (.int (1 : Int32)), .val (.int (1 : Int32)), .val (.ref w_DELIVERED), .val (.int (1 : Int32)), .val (.int (1 : Int32)), .val (.int (1 : Int32)), .val (.int (1 : Int32))] [(.int (1 : Int32))])) (fun t k => XS.goto X33.here hx rfl (pc0 := 213) (pc' := 217) rfl (hb hby at_213) (by decide) (by decide) k) ?_
  obtain ⟨fs, hr, hrun, hended, hW, hsame⟩ := X33.leave (v := some (.int (1 : Int32))) (fun h => by rw [Bd.returns] at h; cases h)
  refine ⟨_, _, retN X33 hx (t := .boolean) Bd.returns (by simp) (hb hby at_217) hr, hrun, hended, _, _, rfl, ?_, ⟨_, rfl⟩, hW, hsame.mono (by decide) (by decide)⟩
  exact ⟨rfl, N28⟩
set_option maxRecDepth 65536 in
set_option maxHeartbeats 40000000 in
theorem comes_1 {Post : Tables → Env → Array Value → State → Outcome → State → Prop} (hpost : ∀ tb e args s v u, (limb_1_1.after args s (.returned v) u = true ∧ limb_1_2.after args s (.returned v) u = true ∧ True) → FrameEnd s (.returned v) u (Jvm.fieldLocs frame_1_writes args s ++ Jvm.arrayLocs frame_1_arrays args s ++ Jvm.staticLocs frame_1_statics s) 0 0 → Post tb e args s (.returned v) u) :
    ArmFor flags0 classFile x code maxLocals ret World_1 tables_1 room_1 Calls_1 rest_1 Pre_1 Post := by
  intro l hfl _ _ p e ha hc hk s m args below hf hA hF happ hP
  obtain ⟨hcalls, hrest, hpre⟩ := hP
  obtain ⟨-, -, -, hnamed, -, -, -, hat⟩ := (Spec.applies_iff hf).mp happ
  obtain ⟨hg, hn⟩ := and_e (Cond.before_iff.mp (show (Jvm.Cond.and given_1 narrow_1).before args s = true from hpre))
  obtain ⟨gc, g0⟩ := and_e hg
  obtain ⟨gi0, g1⟩ := and_e g0
  obtain ⟨w0, w1, rfl⟩ : ∃ w0 w1 : Value, args = #[w0, w1] := by
    have hs : args.size = 2 := by simpa [Cond.value, given_1] using gc
    obtain ⟨L⟩ := args
    match L, hs with
    | [w0, w1], _ => exact ⟨w0, w1, rfl⟩
  have hw := fun d (hd : d ∈ tables_1) => atoms_spec (ws := Jvm.Cond.code x code maxLocals ret :: tables_1) hat d (List.mem_cons_of_mem _ hd)
  obtain ⟨i0, ei0⟩ := is_v gi0
  obtain rfl : w0 = (.int i0) := Option.some.inj ei0
  obtain ⟨i1, ei1⟩ := is_v g1
  obtain rfl : w1 = (.int i1) := Option.some.inj ei1
  obtain ⟨c0, n0⟩ := and_e hn
  obtain ⟨c1, n1⟩ := and_e n0
  obtain ⟨c2, n2⟩ := and_e n1
  obtain ⟨c3, n3⟩ := and_e n2
  obtain ⟨c4, n4⟩ := and_e n3
  obtain ⟨c5, n5⟩ := and_e n4
  obtain ⟨c6, n6⟩ := and_e n5
  obtain ⟨c7, n7⟩ := and_e n6
  obtain ⟨c8, n8⟩ := and_e n7
  obtain ⟨w_SELLER_DEFAULT, v_SELLER_DEFAULT⟩ := exa_v c0
  have E_SELLER_DEFAULT := Exa.start v_SELLER_DEFAULT c0
  have S_SELLER_DEFAULT := Sta.start v_SELLER_DEFAULT (Or.inr ⟨(hw _ (List.mem_of_getElem? (i := 2) rfl)), (hw _ (List.mem_of_getElem? (i := 5) rfl))⟩)
  obtain ⟨w_PENDING, v_PENDING⟩ := exa_v c1
  have E_PENDING := Exa.start v_PENDING c1
  have S_PENDING := Sta.start v_PENDING (Or.inr ⟨(hw _ (List.mem_of_getElem? (i := 2) rfl)), (hw _ (List.mem_of_getElem? (i := 7) rfl))⟩)
  obtain ⟨w_DELIVERED, v_DELIVERED⟩ := exa_v c4
  have E_DELIVERED := Exa.start v_DELIVERED c4
  have S_DELIVERED := Sta.start v_DELIVERED (Or.inr ⟨(hw _ (List.mem_of_getElem? (i := 2) rfl)), (hw _ (List.mem_of_getElem? (i := 9) rfl))⟩)
  obtain ⟨w_BUYER_DEFAULT, v_BUYER_DEFAULT⟩ := exa_v c6
  have E_BUYER_DEFAULT := Exa.start v_BUYER_DEFAULT c6
  have S_BUYER_DEFAULT := Sta.start v_BUYER_DEFAULT (Or.inr ⟨(hw _ (List.mem_of_getElem? (i := 2) rfl)), (hw _ (List.mem_of_getElem? (i := 12) rfl))⟩)
  obtain ⟨w_BOTH_DEFAULT, v_BOTH_DEFAULT⟩ := exa_v c8
  have E_BOTH_DEFAULT := Exa.start v_BOTH_DEFAULT c8
  have S_BOTH_DEFAULT := Sta.start v_BOTH_DEFAULT (Or.inr ⟨(hw _ (List.mem_of_getElem? (i := 2) rfl)), (hw _ (List.mem_of_getElem? (i := 14) rfl))⟩)
  have F_ordinal_SELLER_DEFAULT := own_feqi v_SELLER_DEFAULT c2
  have F_ordinal_PENDING := own_feqi v_PENDING c3
  have F_ordinal_DELIVERED := own_feqi v_DELIVERED c5
  have F_ordinal_BUYER_DEFAULT := own_feqi v_BUYER_DEFAULT c7
  have F_ordinal_BOTH_DEFAULT := own_feqi v_BOTH_DEFAULT n8
  obtain ⟨n, o, h1, h2, h3, _, L, rfl, ⟨rfl, N⟩, hq⟩ := rm0 l s _ hw tables_1 i0 i1 w_PENDING w_DELIVERED w_SELLER_DEFAULT w_BUYER_DEFAULT w_BOTH_DEFAULT s.heap s.heap.size (Nat.le_refl _) S_PENDING S_DELIVERED S_SELLER_DEFAULT S_BUYER_DEFAULT S_BOTH_DEFAULT F_ordinal_PENDING F_ordinal_DELIVERED F_ordinal_SELLER_DEFAULT F_ordinal_BUYER_DEFAULT F_ordinal_BOTH_DEFAULT p e ha hc hk s m _ below hf ((Spec.applies_iff_loose hf).mp happ).1 ⟨rfl, State.Warmed39.refl s, rfl⟩ trivial
  exact ⟨n, _, h1, h2, h3, hpost _ _ _ _ _ _ ⟨Cond.after_iff.mpr rfl, Cond.after_iff.mpr (eq_i res_at (Term.int_eval (1)) rfl), trivial⟩ ⟨hq.1, hq.2.1, (hq.2.2.sift fun y hy => Or.inr (N y hy)).mono (by decide) (by decide)⟩⟩
theorem main_1_1 : Claimed_1_1 := comes_1 fun _ _ _ _ _ _ h hF => ⟨h.1, hF⟩
theorem main_1_2 : Claimed_1_2 := comes_1 fun _ _ _ _ _ _ h hF => ⟨h.2.1, hF⟩
end Jvm.Pilot.@@N@@
namespace Jvm.Pilot.@@N@@
open Jvm Jvm.ClassFile Sem Op Lib Jvm.Free Jvm.Stand Jvm.Pilot.@@N@@.Jvm.D
/-! MADE BY PROGRAM (witnessworld.py) out of the Statement's table words and the real class files: 13 classes; the members and pool entries that the words name. The judged class is class 1, her method 1. -/
namespace start1
open Jvm.ClassFile
def u (s : String) : CpInfo := .utf8 (stringToUtf16 s)
/-- a pool by its gaps: so many unusable entries, then the entry; so many at the end -/
def gap : Nat → List CpInfo → List CpInfo
  | 0, r => r
  | n + 1, r => .unusable :: gap n r
def poolList (es : List (Nat × CpInfo)) (last : Nat) : List CpInfo := es.foldr (fun e r => gap e.1 (e.2 :: r)) (gap last [])
def pool (es : List (Nat × CpInfo)) (last : Nat) : Array CpInfo := ⟨poolList es last⟩
def fileOf (pool : Array CpInfo) (this : Nat) (attrs : Array Attribute := #[]) (ms : Array MethodInfo := #[]) (fl : Nat := 33) (sup : Nat := 0) (ifs : Array Nat := #[]) (fds : Array FieldInfo := #[]) : ClassFile where
  minorVersion := 0
  majorVersion := 65
  constantPool := pool
  accessFlags := fl
  thisClass := this
  superClass := sup
  interfaces := ifs
  fields := fds
  methods := ms
  attributes := attrs
def plain (name : String) (sup : Option ClassId) : Class where
  name := name
  kind := .ordinary
  loader := none
  accessFlags := 33
  super := sup
  interfaces := #[]
  cf := none
  fields := #[]
  methods := #[]
  instanceTypes := #[]
  staticTypes := #[]
  resolved := #[]
  callSites := []
  init := .initialized
  statics := none
  mirror := none

def pool0 : Array CpInfo := pool [(5, u "<init>"), (0, u "()V"), (1, .class_ 10), (1, u "java/lang/Object")] 113

def k0m0 : Method := { name := "<init>", desc := "()V", sig := { parameters := [], returnType := none }, accessFlags := 1, code := none }
/-- java/lang/Object -/
def k0 : Class := { plain "java/lang/Object" none with
  accessFlags := 33
  interfaces := #[]
  cf := some (fileOf pool0 8 #[] #[{ accessFlags := 1, nameIndex := 5, descriptorIndex := 6, attributes := #[] }] 33 0 #[] #[])
  fields := #[]
  methods := #[k0m0]
  instanceTypes := #[]
  staticTypes := #[]
  resolved := Array.replicate 124 none
  statics := none }

def pool1 : Array CpInfo := pool [(2, .class_ 4), (1, u "java/lang/Object"), (0, u "<init>"), (0, u "()V"), (0, .methodref 8 9), (0, .class_ 10), (0, .nameAndType 11 12), (0, u "com/example/kharman/kharman/DeliveryStatus"), (0, u "settled"), (0, u "(ZZ)Lcom/example/kharman/kharman/DeliveryStatus;"), (0, .fieldref 8 14), (0, .nameAndType 15 16), (0, u "PENDING"), (0, u "Lcom/example/kharman/kharman/DeliveryStatus;"), (0, .fieldref 8 18), (0, .nameAndType 19 16), (0, u "DELIVERED"), (0, .fieldref 8 21), (0, .nameAndType 22 16), (0, u "SELLER_DEFAULT"), (0, .fieldref 8 24), (0, .nameAndType 25 16), (0, u "BUYER_DEFAULT"), (0, .fieldref 8 27), (0, .nameAndType 28 16), (0, u "BOTH_DEFAULT"), (0, .class_ 30), (0, u "com/example/kharman/kharman/DeliveryStatusSettledPinLaw"), (2, u "law"), (0, u "(II)Z")] 3

def k1m0 : Method := { name := "<init>", desc := "()V", sig := { parameters := [], returnType := none }, accessFlags := 2, code := none }
def k1c1 : Code := { maxStack := 2, maxLocals := 9, code := code, exceptionTable := #[], attributes := #[] }
def k1m1 : Method := { name := "law", desc := "(II)Z", sig := { parameters := [.int, .int], returnType := some .boolean }, accessFlags := 9, code := some k1c1 }
/-- com/example/kharman/kharman/DeliveryStatusSettledPinLaw -/
def k1 : Class := { plain "com/example/kharman/kharman/DeliveryStatusSettledPinLaw" (some 0) with
  accessFlags := 49
  interfaces := #[]
  cf := some (fileOf pool1 29 #[] #[{ accessFlags := 2, nameIndex := 5, descriptorIndex := 6, attributes := #[] }, { accessFlags := 9, nameIndex := 33, descriptorIndex := 34, attributes := #[] }] 49 2 #[] #[])
  fields := #[]
  methods := #[k1m0, k1m1]
  instanceTypes := #[]
  staticTypes := #[]
  resolved := Array.replicate 38 none
  statics := none }

def pool2 : Array CpInfo := pool [(1, .class_ 2), (0, u "java/lang/constant/Constable"), (0, .class_ 4), (0, u "java/lang/Object")] 6

/-- java/lang/constant/Constable -/
def k2 : Class := { plain "java/lang/constant/Constable" (some 0) with
  accessFlags := 1537
  interfaces := #[]
  cf := some (fileOf pool2 1 #[] #[] 1537 3 #[] #[])
  fields := #[]
  methods := #[]
  instanceTypes := #[]
  staticTypes := #[]
  resolved := Array.replicate 11 none
  statics := none }

def pool3 : Array CpInfo := pool [(1, .class_ 2), (0, u "java/lang/Comparable"), (0, .class_ 4), (0, u "java/lang/Object")] 7

/-- java/lang/Comparable -/
def k3 : Class := { plain "java/lang/Comparable" (some 0) with
  accessFlags := 1537
  interfaces := #[]
  cf := some (fileOf pool3 1 #[] #[] 1537 3 #[] #[])
  fields := #[]
  methods := #[]
  instanceTypes := #[]
  staticTypes := #[]
  resolved := Array.replicate 12 none
  statics := none }

def pool4 : Array CpInfo := pool [(1, .class_ 2), (0, u "java/io/Serializable"), (0, .class_ 4), (0, u "java/lang/Object")] 2

/-- java/io/Serializable -/
def k4 : Class := { plain "java/io/Serializable" (some 0) with
  accessFlags := 1537
  interfaces := #[]
  cf := some (fileOf pool4 1 #[] #[] 1537 3 #[] #[])
  fields := #[]
  methods := #[]
  instanceTypes := #[]
  staticTypes := #[]
  resolved := Array.replicate 7 none
  statics := none }

def pool5 : Array CpInfo := pool [(2, .class_ 4), (1, u "java/lang/Enum"), (0, u "name"), (0, u "Ljava/lang/String;"), (2, u "ordinal"), (0, u "I"), (1, .class_ 14), (1, u "java/lang/Object"), (4, u "hash"), (86, .class_ 108), (1, u "java/lang/Enum$EnumDesc"), (2, .class_ 112), (0, u "java/lang/constant/Constable"), (0, .class_ 114), (0, u "java/lang/Comparable"), (0, .class_ 116), (0, u "java/io/Serializable")] 87

/-- java/lang/Enum -/
def k5 : Class := { plain "java/lang/Enum" (some 0) with
  accessFlags := 1057
  interfaces := #[2, 3, 4]
  cf := some (fileOf pool5 2 #[.nestMembers #[106]] #[] 1057 12 #[111, 113, 115] #[{ accessFlags := 18, nameIndex := 5, descriptorIndex := 6, attributes := #[] }, { accessFlags := 18, nameIndex := 9, descriptorIndex := 10, attributes := #[] }, { accessFlags := 2, nameIndex := 19, descriptorIndex := 10, attributes := #[] }])
  fields := #[{ name := "name", type := (.object "java/lang/String"), accessFlags := 18, slot := 0, constantValue := 0 }, { name := "ordinal", type := .int, accessFlags := 18, slot := 1, constantValue := 0 }, { name := "hash", type := .int, accessFlags := 2, slot := 2, constantValue := 0 }]
  methods := #[]
  instanceTypes := #[(.object "java/lang/String"), .int, .int]
  staticTypes := #[]
  resolved := Array.replicate 204 none
  statics := none }

def pool6 : Array CpInfo := pool [(2, .class_ 4), (1, u "com/example/kharman/kharman/Worded"), (8, .class_ 14), (0, u "java/lang/Object")] 11

/-- com/example/kharman/kharman/Worded -/
def k6 : Class := { plain "com/example/kharman/kharman/Worded" (some 0) with
  accessFlags := 1536
  interfaces := #[]
  cf := some (fileOf pool6 2 #[] #[] 1536 13 #[] #[])
  fields := #[]
  methods := #[]
  instanceTypes := #[]
  staticTypes := #[]
  resolved := Array.replicate 26 none
  statics := none }

def pool7 : Array CpInfo := pool [(1, .class_ 2), (0, u "com/example/kharman/kharman/DeliveryStatus"), (2, u "PENDING"), (0, u "Lcom/example/kharman/kharman/DeliveryStatus;"), (0, .fieldref 1 8), (0, .nameAndType 9 6), (0, u "DELIVERED"), (0, .fieldref 1 11), (0, .nameAndType 12 6), (0, u "SELLER_DEFAULT"), (0, .fieldref 1 14), (0, .nameAndType 15 6), (0, u "BUYER_DEFAULT"), (0, .fieldref 1 17), (0, .nameAndType 18 6), (0, u "BOTH_DEFAULT"), (2, u "$VALUES"), (0, u "[Lcom/example/kharman/kharman/DeliveryStatus;"), (6, .class_ 31), (1, u "java/lang/Enum"), (8, u "word"), (0, u "Ljava/lang/String;"), (22, .class_ 65), (0, u "com/example/kharman/kharman/Worded"), (8, u "settled"), (0, u "(ZZ)Lcom/example/kharman/kharman/DeliveryStatus;")] 6

def k7c0 : Code := { maxStack := 1, maxLocals := 3, code := prog_12_method_5_code, exceptionTable := #[], attributes := #[] }
def k7m0 : Method := { name := "settled", desc := "(ZZ)Lcom/example/kharman/kharman/DeliveryStatus;", sig := { parameters := [.boolean, .boolean], returnType := some (.object "com/example/kharman/kharman/DeliveryStatus") }, accessFlags := 8, code := some k7c0 }
/-- com/example/kharman/kharman/DeliveryStatus -/
def k7 : Class := { plain "com/example/kharman/kharman/DeliveryStatus" (some 5) with
  accessFlags := 16432
  interfaces := #[6]
  cf := some (fileOf pool7 1 #[] #[{ accessFlags := 8, nameIndex := 74, descriptorIndex := 75, attributes := #[] }] 16432 29 #[64] #[{ accessFlags := 16409, nameIndex := 5, descriptorIndex := 6, attributes := #[] }, { accessFlags := 16409, nameIndex := 9, descriptorIndex := 6, attributes := #[] }, { accessFlags := 16409, nameIndex := 12, descriptorIndex := 6, attributes := #[] }, { accessFlags := 16409, nameIndex := 15, descriptorIndex := 6, attributes := #[] }, { accessFlags := 16409, nameIndex := 18, descriptorIndex := 6, attributes := #[] }, { accessFlags := 18, nameIndex := 40, descriptorIndex := 41, attributes := #[] }, { accessFlags := 4122, nameIndex := 21, descriptorIndex := 22, attributes := #[] }])
  fields := #[{ name := "PENDING", type := (.object "com/example/kharman/kharman/DeliveryStatus"), accessFlags := 16409, slot := 0, constantValue := 0 }, { name := "DELIVERED", type := (.object "com/example/kharman/kharman/DeliveryStatus"), accessFlags := 16409, slot := 1, constantValue := 0 }, { name := "SELLER_DEFAULT", type := (.object "com/example/kharman/kharman/DeliveryStatus"), accessFlags := 16409, slot := 2, constantValue := 0 }, { name := "BUYER_DEFAULT", type := (.object "com/example/kharman/kharman/DeliveryStatus"), accessFlags := 16409, slot := 3, constantValue := 0 }, { name := "BOTH_DEFAULT", type := (.object "com/example/kharman/kharman/DeliveryStatus"), accessFlags := 16409, slot := 4, constantValue := 0 }, { name := "word", type := (.object "java/lang/String"), accessFlags := 18, slot := 3, constantValue := 0 }, { name := "$VALUES", type := (.array (.object "com/example/kharman/kharman/DeliveryStatus")), accessFlags := 4122, slot := 5, constantValue := 0 }]
  methods := #[k7m0]
  instanceTypes := #[(.object "java/lang/String"), .int, .int, (.object "java/lang/String")]
  staticTypes := #[(.object "com/example/kharman/kharman/DeliveryStatus"), (.object "com/example/kharman/kharman/DeliveryStatus"), (.object "com/example/kharman/kharman/DeliveryStatus"), (.object "com/example/kharman/kharman/DeliveryStatus"), (.object "com/example/kharman/kharman/DeliveryStatus"), (.array (.object "com/example/kharman/kharman/DeliveryStatus"))]
  resolved := Array.replicate 82 none
  statics := some 0 }

def pool8 : Array CpInfo := pool [(1, u "java/lang/Cloneable"), (0, .class_ 1), (0, u "java/lang/Object"), (0, .class_ 3)] 3

/-- java/lang/Cloneable -/
def k8 : Class := { plain "java/lang/Cloneable" (some 0) with
  accessFlags := 1537
  interfaces := #[]
  cf := some (fileOf pool8 2 #[] #[] 1537 4 #[] #[])
  fields := #[]
  methods := #[]
  instanceTypes := #[]
  staticTypes := #[]
  resolved := Array.replicate 8 none
  statics := none }

/-- the primitive byte -/
def k9 : Class := { plain "byte" none with kind := .primitive 'B', accessFlags := 0x411 }
/-- [B -/
def k10 : Class := { plain "[B" (some 0) with kind := .array 9 .byte, interfaces := #[8, 4], accessFlags := 1041 }

/-- the primitive int -/
def k11 : Class := { plain "int" none with kind := .primitive 'I', accessFlags := 0x411 }
/-- [I -/
def k12 : Class := { plain "[I" (some 0) with kind := .array 11 .int, interfaces := #[8, 4], accessFlags := 1041 }

def heap : Heap := #[{ cls := 7, slots := #[.ref 2, .ref 3, .ref 1, .ref 4, .ref 5, .null], vm := .statics 7 },
  { cls := 7, slots := #[.null, .int 2, .int 0, .null], vm := .none },
  { cls := 7, slots := #[.null, .int 0, .int 0, .null], vm := .none },
  { cls := 7, slots := #[.null, .int 1, .int 0, .null], vm := .none },
  { cls := 7, slots := #[.null, .int 3, .int 0, .null], vm := .none },
  { cls := 7, slots := #[.null, .int 4, .int 0, .null], vm := .none }]
def classes : Array Class := #[k0, k1, k2, k3, k4, k5, k6, k7, k8, k9, k10, k11, k12]
def interned : List (Array UInt16 × Addr) := []
def slotsUsed : Nat := 26
def theMethod : MethodId := ⟨1, 1⟩
def args0 : Array Value := #[.int 5, .int 4]
def aboutOver (below : List Frame) : State where
  vm := { classes := classes, interned := interned.toArray }
  heap := heap
  slotsUsed := slotsUsed
  threads := #[{ frames := .invoking theMethod args0 :: below }]
def below0 : List Frame := [.native { method := ⟨0, 0⟩, args := #[] }]
def about1 : State := aboutOver below0
def p0 : Program := .bare "" "" ""
def e0 : Env := launch0.env 0 0 0
theorem w_frames : about1.frames = Frame.invoking theMethod args0 :: below0 := rfl
set_option maxRecDepth 65536 in
theorem w_args : argsFit about1.vm theMethod args0 = true := by decide +kernel
set_option maxRecDepth 65536 in
theorem w_heap : heapFits about1 = true := by decide +kernel
set_option maxRecDepth 65536 in
theorem w_runnable : about1.curStatus? = some .runnable := by decide +kernel
set_option maxRecDepth 65536 in
theorem w_alone : about1.alone = true := by decide +kernel
set_option maxRecDepth 65536 in
theorem w_named : about1.methodNamed? x = some theMethod := by decide +kernel
set_option maxRecDepth 65536 in
theorem w_hears : about1.hears theMethod below0 = true := by decide +kernel
set_option maxRecDepth 65536 in
theorem w_ripe : about1.ripe theMethod args0 below0 = true := by decide +kernel
theorem w_running : about1.status = .running := rfl
set_option maxRecDepth 65536 in
theorem w_room : about1.hasRoom e0.platform room_1 = true :=
  launch0.hasRoom_least _ room_1 (by decide +kernel) (by decide +kernel) (by decide +kernel) (by decide +kernel) (by decide +kernel) (by decide +kernel)
theorem allAtoms_all (ts : List Jvm.Cond) (a : Array Jvm.Value) (st : Jvm.State) : (allAtoms ts).before a st = ts.all (fun c => c.before a st) := by
  induction ts with
  | nil => rfl
  | cons c t ih =>
    show (Jvm.Cond.and c (allAtoms t)).before a st = _
    rw [Jvm.Cond.before_and, ih, List.all_cons]
def words1 : List Jvm.Cond := Jvm.Cond.code x code maxLocals ret :: tables_1
/-- a 'code' word, met by the world's own term for the bytes: nothing is compared byte by byte -/
theorem code_word {y : MethodName} {bytes : ByteArray} {mx : Nat} {rt : Option FieldType} {a : Array Value} {s : State} {m : MethodId} {meth : Method} {c : Code} (h1 : s.methodNamed? y = some m) (h2 : s.vm.method? m = some meth) (h3 : meth.code = some c) (h4 : c.code = bytes)
    (h5 : (c.maxLocals == mx && c.exceptionTable.isEmpty && decide (c.maxStack ≤ mostOperands) && decide (meth.sig.returnType = rt) && !meth.locks && decide (parseMethodDescriptor y.desc = some meth.sig)) = true) : (Jvm.Cond.code y bytes mx rt).before a s = true := by
  simp only [Bool.and_eq_true, beq_iff_eq, Bool.not_eq_true', decide_eq_true_eq] at h5
  obtain ⟨⟨⟨⟨⟨g1, g2⟩, g3⟩, g4⟩, g5⟩, g6⟩ := h5
  simp [Cond.before, Cond.holds, Cond.value, h1, h2, h3, h4, g1, g2, g3, g4, g5, g6]
def isCode : Jvm.Cond → Bool
  | .code _ _ _ _ => true
  | _ => false
theorem all_split {L : List Jvm.Cond} {P : Jvm.Cond → Bool} (h1 : L.all (fun c => isCode c || P c) = true) (h2 : ∀ c ∈ L.filter isCode, P c = true) : L.all P = true := by
  refine List.all_eq_true.mpr fun c hc => ?_
  have h := List.all_eq_true.mp h1 c hc
  rcases Bool.eq_false_or_eq_true (isCode c) with hi | hi
  · exact h2 c (List.mem_filter.mpr ⟨hc, hi⟩)
  · simpa [hi] using h
set_option maxRecDepth 65536 in
theorem w_c0 : (Jvm.Cond.code x code maxLocals ret).before args0 about1 = true := code_word (m := ⟨1, 1⟩) (meth := k1m1) (c := k1c1) (by decide +kernel) rfl rfl rfl (by decide +kernel)
set_option maxRecDepth 65536 in
theorem w_c1 : (Jvm.Cond.code ({ cls := "com/example/kharman/kharman/DeliveryStatus", name := "settled", desc := "(ZZ)Lcom/example/kharman/kharman/DeliveryStatus;" } : Jvm.MethodName) prog_12_method_5_code (3 : Nat) (Option.some (Jvm.ClassFile.FieldType.object "com/example/kharman/kharman/DeliveryStatus"))).before args0 about1 = true := code_word (m := ⟨7, 0⟩) (meth := k7m0) (c := k7c0) (by decide +kernel) rfl rfl rfl (by decide +kernel)
def codes1 : List Jvm.Cond := [Jvm.Cond.code x code maxLocals ret, Jvm.Cond.code ({ cls := "com/example/kharman/kharman/DeliveryStatus", name := "settled", desc := "(ZZ)Lcom/example/kharman/kharman/DeliveryStatus;" } : Jvm.MethodName) prog_12_method_5_code (3 : Nat) (Option.some (Jvm.ClassFile.FieldType.object "com/example/kharman/kharman/DeliveryStatus"))]
set_option maxRecDepth 65536 in
theorem codes_eq : words1.filter isCode = codes1 := rfl
theorem w_codes : ∀ c ∈ words1.filter isCode, c.before args0 about1 = true := by
  rw [codes_eq]
  intro c hc
  simp only [codes1, List.mem_cons, List.not_mem_nil, or_false] at hc
  rcases hc with rfl | rfl
  · exact w_c0
  · exact w_c1
set_option maxRecDepth 65536 in
theorem w_t1 : words1.all (fun c => isCode c || c.before args0 about1) = true := by decide +kernel
theorem w_tables : (allAtoms (Jvm.Cond.code x code maxLocals ret :: tables_1)).before args0 about1 = true := by
  rw [allAtoms_all]
  show words1.all (fun c => c.before args0 about1) = true
  refine all_split ?_ w_codes
  rw [w_t1]
set_option maxRecDepth 65536 in
theorem w_case : (Jvm.Cond.and given_1 narrow_1).before args0 about1 = true := by decide +kernel
theorem w_applies : (headSpec (Jvm.Cond.code x code maxLocals ret :: tables_1) room_1).applies x e0.platform about1 = true :=
  (Spec.applies_iff w_frames).mpr ⟨w_running, w_runnable, w_alone, w_named, w_hears, w_ripe, w_room, w_tables⟩
theorem atStart : AtStart classFile x code maxLocals ret World_1 tables_1 room_1 Calls_1 rest_1 Pre_1 launch0 p0 e0 about1 theMethod args0 below0 :=
  ⟨lists_1, trivial, launch0.admits_env _ _ _, launch0.least_env, fairChoices_fair.cas, fairChoices_fair.clock, w_frames, w_args, w_heap, w_applies, trivial, trivial, w_case⟩
end start1
theorem witness_1 : WitnessClaimed_1 := ⟨start1.p0, start1.e0, start1.about1, start1.theMethod, start1.args0, start1.below0, start1.atStart⟩
end Jvm.Pilot.@@N@@
