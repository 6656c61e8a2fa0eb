import JvmDerived
import JvmDerived.Pilot.@@N@@Statement
import JvmDerived.Pilot.@@N@@Code
set_option linter.unusedVariables false
set_option linter.unusedSimpArgs false
namespace Jvm.Pilot.@@N@@
open Jvm Jvm.ClassFile Sem Op Lib Jvm.Free Jvm.Stand Jvm.LawKit Jvm.RoadKit Bundle Jvm.Pilot.@@N@@.Jvm.D
theorem own_adv {tb : Tables} {e : Env} {below : List Frame} {A B : State} {P : State → Outcome → Prop} (h : ∀ t, Steps tb e below B t → Steps tb e below A t) (k : ∃ s₂ o, Steps tb e below B s₂ ∧ P s₂ o) : ∃ s₂ o, Steps tb e below A s₂ ∧ P s₂ o := by
  obtain ⟨a, b, c, d⟩ := k
  exact ⟨a, b, h a c, d⟩
theorem own_feqi {args : Array Value} {s : State} {t : Term} {C n d : String} {k : Int32} {x : Addr} (ht : t.eval args s none [] s = some (.ref x)) (h : (Cond.eq (.field t C n d) (.int k)).value args s none s [] = some true) : Fld s s.heap x C n d (.int k) := by
  refine Fld.start ?_
  have hf := fld_at (C := C) (n := n) (dd := d) ht
  obtain ⟨x1, y1, e1, e2, k1, k2⟩ := cmp_v (Or.inl h)
  have e3 : y1 = .int k := Option.some.inj (e2.symm.trans (Term.int_eval k))
  subst e3
  obtain ⟨z, rfl⟩ := k2
  simp [Cond.value, e1, e2] at h
  rw [← hf, e1, h]
theorem own_feqr {args : Array Value} {s : State} {t u : Term} {C n d : String} {x y : Addr} (ht : t.eval args s none [] s = some (.ref x)) (hu : u.eval args s none [] s = some (.ref y)) (h : (Cond.eq (.field t C n d) u).value args s none s [] = some true) : Fld s s.heap x C n d (.ref y) := by
  refine Fld.start ?_
  have hf := fld_at (C := C) (n := n) (dd := d) ht
  obtain ⟨x1, y1, e1, e2, k1, k2⟩ := cmp_v (Or.inl h)
  have e3 : y1 = .ref y := Option.some.inj (e2.symm.trans hu)
  subst e3
  have r := k2.2
  rcases ref_cases r with rfl | ⟨z, rfl⟩
  · simp [Cond.value, e1, e2] at h
  · simp [Cond.value, e1, e2] at h
    rw [← hf, e1, h]
theorem own_pn_com_example_certain_policy_certainpolicy_DataType : plainName "com/example/certain_policy/certainpolicy/DataType" = true := by first | (simp [plainName, overriddenIn]; done) | decide +kernel
theorem own_ef_rm1 (m : MethodId) (x0 : Addr) : entryFrame m #[(.ref x0)] 1 = mkF m 0 #[.val (.ref x0)] [] := by first | (simp [entryFrame, mkF, argsToLocals, Value.category, maxLocals]; done) | rfl
theorem own_d1_0 : decode prog_19_method_16_code 0 = .ok (.aload_n 0, 1) := by decide +kernel
theorem own_d1_1 : decode prog_19_method_16_code 1 = .ok (.getstatic 46, 3) := by decide +kernel
theorem own_d1_4 : decode prog_19_method_16_code 4 = .ok (.if_acmp .eq 14, 3) := by decide +kernel
theorem own_d1_18 : decode prog_19_method_16_code 18 = .ok (.iconst 0, 1) := by decide +kernel
theorem own_d1_19 : decode prog_19_method_16_code 19 = .ok (.ireturn, 1) := by decide +kernel
theorem own_d1_7 : decode prog_19_method_16_code 7 = .ok (.aload_n 0, 1) := by decide +kernel
theorem own_d1_8 : decode prog_19_method_16_code 8 = .ok (.getstatic 49, 3) := by decide +kernel
theorem own_d1_11 : decode prog_19_method_16_code 11 = .ok (.if_acmp .eq 7, 3) := by decide +kernel
theorem own_d1_14 : decode prog_19_method_16_code 14 = .ok (.iconst 1, 1) := by decide +kernel
theorem own_d1_15 : decode prog_19_method_16_code 15 = .ok (.goto 4, 3) := by decide +kernel
theorem own_pn_com_example_certain_policy_certainpolicy_DataTypeHasEqualityPinLaw : plainName "com/example/certain_policy/certainpolicy/DataTypeHasEqualityPinLaw" = true := by first | (simp [plainName, overriddenIn]; done) | decide +kernel
theorem own_ef_rm0 (m : MethodId) (x0 : Int32) : entryFrame m #[(.int x0)] maxLocals = mkF m 0 #[.val (.int x0), .unset, .unset, .unset] [] := by first | (simp [entryFrame, mkF, argsToLocals, Value.category, maxLocals]; done) | rfl
theorem own_pd___Z : parseMethodDescriptor "()Z" = some ⟨[], some .boolean⟩ := by decide +kernel
theorem own_ext_wr {h0 h h' : Heap} {b : Addr} {sl : Nat} {v : Value} (K : Ext h0 h) (W : Wr h h' b sl v) (q : h0.size ≤ b) : Ext h0 h' := by
  have K1 : Keep h0 h' [] := ((Keep.refl h0 []).ext K).wr W (Or.inr q)
  exact ⟨K1.1, fun a c r => K1.2.1 a c r nin0⟩
theorem own_sto {p : Program} {l : Launch} {e : Env} {R : Room} {s : State} {m : MethodId} {args : Array Value} {below : List Frame} {meth : Method} {c : Code} {T : State} {locs : List Loc} {cells slots : Nat} {Z : State} {h0 h : Heap} {b y : Addr} {k : ClassId} {C : String} {z j : Int32} {vs : List Value} {n0 : Nat}
    (X : Stand p l e R s m args below meth c T locs cells slots) (hx : p.tables.exec = Jvm.exec) (hZ : Z.Warmed39 s.vm) (eT : T.heap = h) (K0 : Ext h0 h) (hb0 : h0.size ≤ b) (V : Arv Z h b k (.object C) z vs .null) (O : Ovr Z k C) (I : Ins Z h0 y C true) (hj : ¬ j < 0 ∧ j < z) (i : Nat) (hji : j.toNatClampNeg = i) (hi : i < vs.length) (N : Fr n0 locs) (gb : n0 ≤ b)
    {g : JFrame} (hg : g.method = m) {rest : List Value} (hs : g.stack = .ref y :: .int j :: .ref b :: rest) (hd : decode c.code g.pc = .ok (.aastore, 1)) :
    ∃ T' L, Stand p l e R s m args below meth c T' L cells slots ∧ Fr n0 L ∧ Ext h0 T'.heap ∧ Arv Z T'.heap b k (.object C) z (vs.set i (.ref y)) .null ∧ ∀ target, Steps p.tables e below (T'.setTop { g with pc := g.pc + 1, stack := rest }) target → Steps p.tables e below (T.setTop g) target := by
  subst eT
  obtain ⟨cl, Ar, q, S, N3, H, G⟩ := V
  obtain ⟨T', h', X', e', W, st⟩ := stR X hx hZ rfl Ar (inb_of S hj) rfl (Sto.ofV Ar q O (I.ext K0)) hg hs hd
  subst e'
  exact ⟨T', _, X', Fr.snoc X' N gb, own_ext_wr K0 W hb0, Arv.set Ar q S N3 H G rfl W i hji hi, st⟩
theorem own_i {y k : Int32} (h : y.toInt = k.toInt) : y = k := Int32.toInt_inj.mp h
theorem own_m15 (x : Int32) : (x &&& (15 : Int32)) = (0 : Int32) ∨ (x &&& (15 : Int32)) = (1 : Int32) ∨ (x &&& (15 : Int32)) = (2 : Int32) ∨ (x &&& (15 : Int32)) = (3 : Int32) ∨ (x &&& (15 : Int32)) = (4 : Int32) ∨ (x &&& (15 : Int32)) = (5 : Int32) ∨ (x &&& (15 : Int32)) = (6 : Int32) ∨ (x &&& (15 : Int32)) = (7 : Int32) ∨ (x &&& (15 : Int32)) = (8 : Int32) ∨ (x &&& (15 : Int32)) = (9 : Int32) ∨ (x &&& (15 : Int32)) = (10 : Int32) ∨ (x &&& (15 : Int32)) = (11 : Int32) ∨ (x &&& (15 : Int32)) = (12 : Int32) ∨ (x &&& (15 : Int32)) = (13 : Int32) ∨ (x &&& (15 : Int32)) = (14 : Int32) ∨ (x &&& (15 : Int32)) = (15 : Int32) := by
  have e : (x &&& (15 : Int32)).toInt = x.toInt % 16 := c_mask x 15 4 (by decide) (by decide)
  generalize (x &&& (15 : Int32)) = y at *
  have h : y.toInt = 0 ∨ y.toInt = 1 ∨ y.toInt = 2 ∨ y.toInt = 3 ∨ y.toInt = 4 ∨ y.toInt = 5 ∨ y.toInt = 6 ∨ y.toInt = 7 ∨ y.toInt = 8 ∨ y.toInt = 9 ∨ y.toInt = 10 ∨ y.toInt = 11 ∨ y.toInt = 12 ∨ y.toInt = 13 ∨ y.toInt = 14 ∨ y.toInt = 15 := by omega
  rcases h with h | h | h | h | h | h | h | h | h | h | h | h | h | h | h | h
  · exact Or.inl (own_i h)
  · exact Or.inr (Or.inl (own_i h))
  · exact Or.inr (Or.inr (Or.inl (own_i h)))
  · exact Or.inr (Or.inr (Or.inr (Or.inl (own_i h))))
  · exact Or.inr (Or.inr (Or.inr (Or.inr (Or.inl (own_i h)))))
  · exact Or.inr (Or.inr (Or.inr (Or.inr (Or.inr (Or.inl (own_i h))))))
  · exact Or.inr (Or.inr (Or.inr (Or.inr (Or.inr (Or.inr (Or.inl (own_i h)))))))
  · exact Or.inr (Or.inr (Or.inr (Or.inr (Or.inr (Or.inr (Or.inr (Or.inl (own_i h))))))))
  · exact Or.inr (Or.inr (Or.inr (Or.inr (Or.inr (Or.inr (Or.inr (Or.inr (Or.inl (own_i h)))))))))
  · exact Or.inr (Or.inr (Or.inr (Or.inr (Or.inr (Or.inr (Or.inr (Or.inr (Or.inr (Or.inl (own_i h))))))))))
  · exact Or.inr (Or.inr (Or.inr (Or.inr (Or.inr (Or.inr (Or.inr (Or.inr (Or.inr (Or.inr (Or.inl (own_i h)))))))))))
  · exact Or.inr (Or.inr (Or.inr (Or.inr (Or.inr (Or.inr (Or.inr (Or.inr (Or.inr (Or.inr (Or.inr (Or.inl (own_i h))))))))))))
  · exact Or.inr (Or.inr (Or.inr (Or.inr (Or.inr (Or.inr (Or.inr (Or.inr (Or.inr (Or.inr (Or.inr (Or.inr (Or.inl (own_i h)))))))))))))
  · exact Or.inr (Or.inr (Or.inr (Or.inr (Or.inr (Or.inr (Or.inr (Or.inr (Or.inr (Or.inr (Or.inr (Or.inr (Or.inr (Or.inl (own_i h))))))))))))))
  · exact Or.inr (Or.inr (Or.inr (Or.inr (Or.inr (Or.inr (Or.inr (Or.inr (Or.inr (Or.inr (Or.inr (Or.inr (Or.inr (Or.inr (Or.inl (own_i h)))))))))))))))
  · exact Or.inr (Or.inr (Or.inr (Or.inr (Or.inr (Or.inr (Or.inr (Or.inr (Or.inr (Or.inr (Or.inr (Or.inr (Or.inr (Or.inr (Or.inr (own_i h)))))))))))))))
def own_Qrm1 (Z : State) (a1 w_IP_ADDRESS w_DNS_NAME : Addr) (k : Int32) (h0 : Heap) (n0 : Nat) (v : Option Value) (h : Heap) (L : List Loc) : Prop := v = some (.int k) ∧ Fr n0 L ∧ h = h0
set_option maxRecDepth 65536 in
set_option maxHeartbeats 40000000 in
theorem rm1 (l : Launch) (Z : State) (a0 : Array Value) (hw : ∀ d ∈ tables_1, d.before a0 Z = true) (ws : List Jvm.Cond) (a1 w_IP_ADDRESS w_DNS_NAME : Addr) (k : Int32) (h0 : Heap) (n0 : Nat) (Z0 : n0 ≤ h0.size) (S_IP_ADDRESS : Sta Z h0 "com/example/certain_policy/certainpolicy/DataType" "IP_ADDRESS" "Lcom/example/certain_policy/certainpolicy/DataType;" (.ref w_IP_ADDRESS)) (S_DNS_NAME : Sta Z h0 "com/example/certain_policy/certainpolicy/DataType" "DNS_NAME" "Lcom/example/certain_policy/certainpolicy/DataType;" (.ref w_DNS_NAME)) (hk : (a1 = w_IP_ADDRESS ∧ k = 0) ∨ (¬ (a1 = w_IP_ADDRESS) ∧ a1 = w_DNS_NAME ∧ k = 0) ∨ (¬ (a1 = w_IP_ADDRESS) ∧ ¬ (a1 = w_DNS_NAME) ∧ k = 1)) :
    MetFree l (⟨"com/example/certain_policy/certainpolicy/DataType", "hasEquality", "()Z"⟩ : MethodName) (head1 (Jvm.Cond.code (⟨"com/example/certain_policy/certainpolicy/DataType", "hasEquality", "()Z"⟩ : MethodName) prog_19_method_16_code 1 (some .boolean) :: ws) ({ frames := 0, cells := 0, slots := 0, locals := 0 } : Room)) (fun a U => a = #[(.ref a1)] ∧ Z.Warmed39 U.vm ∧ U.heap = h0) (fun _ _ _ _ _ => True) (fun _ U o U' => ∃ v L, o = .returned v ∧ own_Qrm1 Z a1 w_IP_ADDRESS w_DNS_NAME k h0 n0 v U'.heap L ∧ FrameEnd U o U' L ({ frames := 0, cells := 0, slots := 0, locals := 0 } : Room).cells ({ frames := 0, cells := 0, slots := 0, locals := 0 } : Room).slots) := by
  refine MetFree.of_bodySF (plainFor_of_name own_pn_com_example_certain_policy_certainpolicy_DataType) hisR ?_
  intro p e s m args below meth c s₁ Bd hml0 hP hK
  obtain ⟨rfl, hZ, hh⟩ := hP
  have hx := Bd.exec
  have hby := Bd.bytes
  have hml : c.maxLocals = 1 := hml0
  have hown : s.vm.findClass "com/example/certain_policy/certainpolicy/DataType" = some m.cls := findClass_of_methodNamed Bd.named
  have hnm := (name_of_methodNamed Bd.named Bd.method).1
  have X0 : Stand p l e ({ frames := 0, cells := 0, slots := 0, locals := 0 } : Room) s m #[(.ref a1)] below meth c s₁ [] 0 0 := Stand.of_body Bd
  have e0 : s₁.heap = h0 := by rw [← hh, Bd.state]; rfl
  have N0 := Fr.nil n0
  refine own_adv (B := s₁.setTop (mkF m 0 #[.val (.ref a1)] [])) (fun t k => castTop (own_ef_rm1 m a1) k) ?_
  rcases hk with ⟨hk, rfl⟩ | ⟨hk, hl, rfl⟩ | ⟨hk, hl, rfl⟩
  · skip
    refine own_adv (B := s₁.setTop (mkF m 1 #[.val (.ref a1)] [(.ref a1)])) (fun t k => XS.aloadN X0.here hx rfl (hb hby own_d1_0) rfl rfl k) ?_
    obtain ⟨T10, X10, e10, st10⟩ := getS2 X0 hx hZ hown (host := "") (Or.inl (hw _ (List.mem_of_getElem? (i := 56) rfl))) Via.refl e0 S_IP_ADDRESS (g := (mkF m 1 #[.val (.ref a1)] [(.ref a1)])) rfl (hb hby own_d1_1)
    refine own_adv (B := T10.setTop (mkF m 4 #[.val (.ref a1)] [(.ref w_IP_ADDRESS), (.ref a1)])) st10 ?_
    refine own_adv (B := T10.setTop (mkF m 18 #[.val (.ref a1)] [])) (fun t k => Jvm.RoadKit.acmp (g := (mkF m 4 #[.val (.ref a1)] [(.ref w_IP_ADDRESS), (.ref a1)])) X10 hx rfl rfl rfl (pc0 := 4) (pc' := 18) (same := true) rfl (hb hby own_d1_4) rfl (decide_eq_true (congrArg Value.ref hk)) (by decide) (by decide) k) ?_
    refine own_adv (B := T10.setTop (mkF m 19 #[.val (.ref a1)] [(.int (0 : Int32))])) (fun t k => XS.iconst X10.here hx rfl (hb hby own_d1_18) k) ?_
    obtain ⟨fs, hr, hrun, hended, hW, hsame⟩ := X10.leave (v := some (.int (0 : Int32))) (fun h => by rw [Bd.returns] at h; cases h)
    refine ⟨_, _, retN X10 hx (t := .boolean) Bd.returns (by simp) (hb hby own_d1_19) hr, hrun, hended, _, _, rfl, ?_, ⟨_, rfl⟩, hW, hsame.mono (by decide) (by decide)⟩
    exact ⟨rfl, N0, e10⟩
  · skip
    refine own_adv (B := s₁.setTop (mkF m 1 #[.val (.ref a1)] [(.ref a1)])) (fun t k => XS.aloadN X0.here hx rfl (hb hby own_d1_0) rfl rfl k) ?_
    obtain ⟨T11, X11, e11, st11⟩ := getS2 X0 hx hZ hown (host := "") (Or.inl (hw _ (List.mem_of_getElem? (i := 56) rfl))) Via.refl e0 S_IP_ADDRESS (g := (mkF m 1 #[.val (.ref a1)] [(.ref a1)])) rfl (hb hby own_d1_1)
    refine own_adv (B := T11.setTop (mkF m 4 #[.val (.ref a1)] [(.ref w_IP_ADDRESS), (.ref a1)])) st11 ?_
    refine own_adv (B := T11.setTop (mkF m 7 #[.val (.ref a1)] [])) (fun t k => Jvm.RoadKit.acmp (g := (mkF m 4 #[.val (.ref a1)] [(.ref w_IP_ADDRESS), (.ref a1)])) X11 hx rfl rfl rfl (pc0 := 4) (pc' := 7) (same := false) rfl (hb hby own_d1_4) rfl (decide_eq_false fun q => hk (Value.ref.inj q)) (by decide) (by decide) k) ?_
    refine own_adv (B := T11.setTop (mkF m 8 #[.val (.ref a1)] [(.ref a1)])) (fun t k => XS.aloadN X11.here hx rfl (hb hby own_d1_7) rfl rfl k) ?_
    obtain ⟨T12, X12, e12, st12⟩ := getS2 X11 hx hZ hown (host := "") (Or.inl (hw _ (List.mem_of_getElem? (i := 57) rfl))) Via.refl e11 S_DNS_NAME (g := (mkF m 8 #[.val (.ref a1)] [(.ref a1)])) rfl (hb hby own_d1_8)
    refine own_adv (B := T12.setTop (mkF m 11 #[.val (.ref a1)] [(.ref w_DNS_NAME), (.ref a1)])) st12 ?_
    refine own_adv (B := T12.setTop (mkF m 18 #[.val (.ref a1)] [])) (fun t k => Jvm.RoadKit.acmp (g := (mkF m 11 #[.val (.ref a1)] [(.ref w_DNS_NAME), (.ref a1)])) X12 hx rfl rfl rfl (pc0 := 11) (pc' := 18) (same := true) rfl (hb hby own_d1_11) rfl (decide_eq_true (congrArg Value.ref hl)) (by decide) (by decide) k) ?_
    refine own_adv (B := T12.setTop (mkF m 19 #[.val (.ref a1)] [(.int (0 : Int32))])) (fun t k => XS.iconst X12.here hx rfl (hb hby own_d1_18) k) ?_
    obtain ⟨fs, hr, hrun, hended, hW, hsame⟩ := X12.leave (v := some (.int (0 : Int32))) (fun h => by rw [Bd.returns] at h; cases h)
    refine ⟨_, _, retN X12 hx (t := .boolean) Bd.returns (by simp) (hb hby own_d1_19) hr, hrun, hended, _, _, rfl, ?_, ⟨_, rfl⟩, hW, hsame.mono (by decide) (by decide)⟩
    exact ⟨rfl, N0, e12⟩
  · skip
    refine own_adv (B := s₁.setTop (mkF m 1 #[.val (.ref a1)] [(.ref a1)])) (fun t k => XS.aloadN X0.here hx rfl (hb hby own_d1_0) rfl rfl k) ?_
    obtain ⟨T13, X13, e13, st13⟩ := getS2 X0 hx hZ hown (host := "") (Or.inl (hw _ (List.mem_of_getElem? (i := 56) rfl))) Via.refl e0 S_IP_ADDRESS (g := (mkF m 1 #[.val (.ref a1)] [(.ref a1)])) rfl (hb hby own_d1_1)
    refine own_adv (B := T13.setTop (mkF m 4 #[.val (.ref a1)] [(.ref w_IP_ADDRESS), (.ref a1)])) st13 ?_
    refine own_adv (B := T13.setTop (mkF m 7 #[.val (.ref a1)] [])) (fun t k => Jvm.RoadKit.acmp (g := (mkF m 4 #[.val (.ref a1)] [(.ref w_IP_ADDRESS), (.ref a1)])) X13 hx rfl rfl rfl (pc0 := 4) (pc' := 7) (same := false) rfl (hb hby own_d1_4) rfl (decide_eq_false fun q => hk (Value.ref.inj q)) (by decide) (by decide) k) ?_
    refine own_adv (B := T13.setTop (mkF m 8 #[.val (.ref a1)] [(.ref a1)])) (fun t k => XS.aloadN X13.here hx rfl (hb hby own_d1_7) rfl rfl k) ?_
    obtain ⟨T14, X14, e14, st14⟩ := getS2 X13 hx hZ hown (host := "") (Or.inl (hw _ (List.mem_of_getElem? (i := 57) rfl))) Via.refl e13 S_DNS_NAME (g := (mkF m 8 #[.val (.ref a1)] [(.ref a1)])) rfl (hb hby own_d1_8)
    refine own_adv (B := T14.setTop (mkF m 11 #[.val (.ref a1)] [(.ref w_DNS_NAME), (.ref a1)])) st14 ?_
    refine own_adv (B := T14.setTop (mkF m 14 #[.val (.ref a1)] [])) (fun t k => Jvm.RoadKit.acmp (g := (mkF m 11 #[.val (.ref a1)] [(.ref w_DNS_NAME), (.ref a1)])) X14 hx rfl rfl rfl (pc0 := 11) (pc' := 14) (same := false) rfl (hb hby own_d1_11) rfl (decide_eq_false fun q => hl (Value.ref.inj q)) (by decide) (by decide) k) ?_
    refine own_adv (B := T14.setTop (mkF m 15 #[.val (.ref a1)] [(.int (1 : Int32))])) (fun t k => XS.iconst X14.here hx rfl (hb hby own_d1_14) k) ?_
    refine own_adv (B := T14.setTop (mkF m 19 #[.val (.ref a1)] [(.int (1 : Int32))])) (fun t k => XS.goto X14.here hx rfl (pc0 := 15) (pc' := 19) rfl (hb hby own_d1_15) (by decide) (by decide) k) ?_
    obtain ⟨fs, hr, hrun, hended, hW, hsame⟩ := X14.leave (v := some (.int (1 : Int32))) (fun h => by rw [Bd.returns] at h; cases h)
    refine ⟨_, _, retN X14 hx (t := .boolean) Bd.returns (by simp) (hb hby own_d1_19) hr, hrun, hended, _, _, rfl, ?_, ⟨_, rfl⟩, hW, hsame.mono (by decide) (by decide)⟩
    exact ⟨rfl, N0, e14⟩
def own_Qrm0 (Z : State) (p1 : Int32) (w_STRING w_BOOLEAN w_INTEGER w_DOUBLE w_DATE w_TIME w_DATE_TIME w_ANY_URI w_HEX_BINARY w_BASE64_BINARY w_DAY_TIME_DURATION w_YEAR_MONTH_DURATION w_X500_NAME w_RFC822_NAME w_IP_ADDRESS w_DNS_NAME : Addr) (h0 : Heap) (n0 : Nat) (v : Option Value) (h : Heap) (L : List Loc) : Prop := v = some (.int 1) ∧ Fr n0 L
set_option maxRecDepth 65536 in
set_option maxHeartbeats 40000000 in
theorem rm0 (l : Launch) (Z : State) (a0 : Array Value) (hw : ∀ d ∈ tables_1, d.before a0 Z = true) (ws : List Jvm.Cond) (p1 : Int32) (w_STRING w_BOOLEAN w_INTEGER w_DOUBLE w_DATE w_TIME w_DATE_TIME w_ANY_URI w_HEX_BINARY w_BASE64_BINARY w_DAY_TIME_DURATION w_YEAR_MONTH_DURATION w_X500_NAME w_RFC822_NAME w_IP_ADDRESS w_DNS_NAME : Addr) (h0 : Heap) (n0 : Nat) (Z0 : n0 ≤ h0.size) (S_STRING : Sta Z h0 "com/example/certain_policy/certainpolicy/DataType" "STRING" "Lcom/example/certain_policy/certainpolicy/DataType;" (.ref w_STRING)) (S_BOOLEAN : Sta Z h0 "com/example/certain_policy/certainpolicy/DataType" "BOOLEAN" "Lcom/example/certain_policy/certainpolicy/DataType;" (.ref w_BOOLEAN)) (S_INTEGER : Sta Z h0 "com/example/certain_policy/certainpolicy/DataType" "INTEGER" "Lcom/example/certain_policy/certainpolicy/DataType;" (.ref w_INTEGER)) (S_DOUBLE : Sta Z h0 "com/example/certain_policy/certainpolicy/DataType" "DOUBLE" "Lcom/example/certain_policy/certainpolicy/DataType;" (.ref w_DOUBLE)) (S_DATE : Sta Z h0 "com/example/certain_policy/certainpolicy/DataType" "DATE" "Lcom/example/certain_policy/certainpolicy/DataType;" (.ref w_DATE)) (S_TIME : Sta Z h0 "com/example/certain_policy/certainpolicy/DataType" "TIME" "Lcom/example/certain_policy/certainpolicy/DataType;" (.ref w_TIME)) (S_DATE_TIME : Sta Z h0 "com/example/certain_policy/certainpolicy/DataType" "DATE_TIME" "Lcom/example/certain_policy/certainpolicy/DataType;" (.ref w_DATE_TIME)) (S_ANY_URI : Sta Z h0 "com/example/certain_policy/certainpolicy/DataType" "ANY_URI" "Lcom/example/certain_policy/certainpolicy/DataType;" (.ref w_ANY_URI)) (S_HEX_BINARY : Sta Z h0 "com/example/certain_policy/certainpolicy/DataType" "HEX_BINARY" "Lcom/example/certain_policy/certainpolicy/DataType;" (.ref w_HEX_BINARY)) (S_BASE64_BINARY : Sta Z h0 "com/example/certain_policy/certainpolicy/DataType" "BASE64_BINARY" "Lcom/example/certain_policy/certainpolicy/DataType;" (.ref w_BASE64_BINARY)) (S_DAY_TIME_DURATION : Sta Z h0 "com/example/certain_policy/certainpolicy/DataType" "DAY_TIME_DURATION" "Lcom/example/certain_policy/certainpolicy/DataType;" (.ref w_DAY_TIME_DURATION)) (S_YEAR_MONTH_DURATION : Sta Z h0 "com/example/certain_policy/certainpolicy/DataType" "YEAR_MONTH_DURATION" "Lcom/example/certain_policy/certainpolicy/DataType;" (.ref w_YEAR_MONTH_DURATION)) (S_X500_NAME : Sta Z h0 "com/example/certain_policy/certainpolicy/DataType" "X500_NAME" "Lcom/example/certain_policy/certainpolicy/DataType;" (.ref w_X500_NAME)) (S_RFC822_NAME : Sta Z h0 "com/example/certain_policy/certainpolicy/DataType" "RFC822_NAME" "Lcom/example/certain_policy/certainpolicy/DataType;" (.ref w_RFC822_NAME)) (S_IP_ADDRESS : Sta Z h0 "com/example/certain_policy/certainpolicy/DataType" "IP_ADDRESS" "Lcom/example/certain_policy/certainpolicy/DataType;" (.ref w_IP_ADDRESS)) (S_DNS_NAME : Sta Z h0 "com/example/certain_policy/certainpolicy/DataType" "DNS_NAME" "Lcom/example/certain_policy/certainpolicy/DataType;" (.ref w_DNS_NAME)) (E_STRING : Exa Z h0 w_STRING "com/example/certain_policy/certainpolicy/DataType$1") (E_BOOLEAN : Exa Z h0 w_BOOLEAN "com/example/certain_policy/certainpolicy/DataType$2") (E_INTEGER : Exa Z h0 w_INTEGER "com/example/certain_policy/certainpolicy/DataType$3") (E_DOUBLE : Exa Z h0 w_DOUBLE "com/example/certain_policy/certainpolicy/DataType$4") (E_DATE : Exa Z h0 w_DATE "com/example/certain_policy/certainpolicy/DataType$5") (E_TIME : Exa Z h0 w_TIME "com/example/certain_policy/certainpolicy/DataType$6") (E_DATE_TIME : Exa Z h0 w_DATE_TIME "com/example/certain_policy/certainpolicy/DataType$7") (E_ANY_URI : Exa Z h0 w_ANY_URI "com/example/certain_policy/certainpolicy/DataType$8") (E_HEX_BINARY : Exa Z h0 w_HEX_BINARY "com/example/certain_policy/certainpolicy/DataType$9") (E_BASE64_BINARY : Exa Z h0 w_BASE64_BINARY "com/example/certain_policy/certainpolicy/DataType$10") (E_DAY_TIME_DURATION : Exa Z h0 w_DAY_TIME_DURATION "com/example/certain_policy/certainpolicy/DataType$11") (E_YEAR_MONTH_DURATION : Exa Z h0 w_YEAR_MONTH_DURATION "com/example/certain_policy/certainpolicy/DataType$12") (E_X500_NAME : Exa Z h0 w_X500_NAME "com/example/certain_policy/certainpolicy/DataType$13") (E_RFC822_NAME : Exa Z h0 w_RFC822_NAME "com/example/certain_policy/certainpolicy/DataType$14") (E_IP_ADDRESS : Exa Z h0 w_IP_ADDRESS "com/example/certain_policy/certainpolicy/DataType$15") (E_DNS_NAME : Exa Z h0 w_DNS_NAME "com/example/certain_policy/certainpolicy/DataType$16") :
    MetFree l x (head1 (Jvm.Cond.code x code maxLocals ret :: ws) room_1) (fun a U => a = #[(.int p1)] ∧ Z.Warmed39 U.vm ∧ U.heap = h0) (fun _ _ _ _ _ => True) (fun _ U o U' => ∃ v L, o = .returned v ∧ own_Qrm0 Z p1 w_STRING w_BOOLEAN w_INTEGER w_DOUBLE w_DATE w_TIME w_DATE_TIME w_ANY_URI w_HEX_BINARY w_BASE64_BINARY w_DAY_TIME_DURATION w_YEAR_MONTH_DURATION w_X500_NAME w_RFC822_NAME w_IP_ADDRESS w_DNS_NAME h0 n0 v U'.heap L ∧ FrameEnd U o U' L room_1.cells room_1.slots) := by
  refine MetFree.of_bodySF (plainFor_of_name own_pn_com_example_certain_policy_certainpolicy_DataTypeHasEqualityPinLaw) hisR ?_
  intro p e s m args below meth c s₁ Bd hml0 hP hK
  obtain ⟨rfl, hZ, hh⟩ := hP
  have hx := Bd.exec
  have hby := Bd.bytes
  have hml : c.maxLocals = 4 := hml0
  have hown : s.vm.findClass "com/example/certain_policy/certainpolicy/DataTypeHasEqualityPinLaw" = some m.cls := findClass_of_methodNamed Bd.named
  have hnm := (name_of_methodNamed Bd.named Bd.method).1
  have X0 : Stand p l e room_1 s m #[(.int p1)] below meth c s₁ [] 0 0 := Stand.of_body Bd
  have e0 : s₁.heap = h0 := by rw [← hh, Bd.state]; rfl
  have N0 := Fr.nil n0
  refine own_adv (B := s₁.setTop (mkF m 0 #[.val (.int p1), .unset, .unset, .unset] [])) (fun t k => castTop (own_ef_rm0 m p1) k) ?_
  refine own_adv (B := s₁.setTop (mkF m 2 #[.val (.int p1), .unset, .unset, .unset] [(.int (16 : Int32))])) (fun t k => XS.bipush X0.here hx rfl (hb hby at_0) k) ?_
  obtain ⟨T100, h100, kA, X100, e100, E100, A100, O100, st100⟩ := newR X0 hx hZ hown (hw _ (List.mem_of_getElem? (i := 0) rfl)) (hw _ (List.mem_of_getElem? (i := 1) rfl)) e0 (g := (mkF m 2 #[.val (.int p1), .unset, .unset, .unset] [(.int (16 : Int32))])) rfl (hb hby at_2) rfl (by decide) (cap := 16) (by decide) (by decide) (by decide) (by decide)
  obtain ⟨b, gb⟩ : ∃ z, z = h0.size := ⟨_, rfl⟩
  rw [← gb] at A100 st100
  subst e100
  have hb0 : h0.size ≤ b := Nat.le_of_eq gb.symm
  have nb : n0 ≤ b := Nat.le_trans Z0 hb0
  have V100 : Arv Z T100.heap b kA (.object "com/example/certain_policy/certainpolicy/DataType") (16 : Int32) [.null, .null, .null, .null, .null, .null, .null, .null, .null, .null, .null, .null, .null, .null, .null, .null] .null := (Arv.new A100 (by decide)).pad (pad_rep [] .null 16)
  have K100 : Ext h0 T100.heap := E100
  refine own_adv (B := T100.setTop (mkF m 5 #[.val (.int p1), .unset, .unset, .unset] [(.ref b)])) st100 ?_
  refine own_adv (B := T100.setTop (mkF m 6 #[.val (.int p1), .unset, .unset, .unset] [(.ref b), (.ref b)])) (fun t k => XS.dup X100.here hx rfl (hb hby at_5) rfl rfl k) ?_
  refine own_adv (B := T100.setTop (mkF m 7 #[.val (.int p1), .unset, .unset, .unset] [(.int (0 : Int32)), (.ref b), (.ref b)])) (fun t k => XS.iconst X100.here hx rfl (hb hby at_6) k) ?_
  obtain ⟨T10, X10, e10, st10⟩ := getS2 X100 hx hZ hown (host := "") (Or.inl (hw _ (List.mem_of_getElem? (i := 2) rfl))) Via.refl rfl (S_STRING.ext K100) (g := (mkF m 7 #[.val (.int p1), .unset, .unset, .unset] [(.int (0 : Int32)), (.ref b), (.ref b)])) rfl (hb hby at_7)
  refine own_adv (B := T10.setTop (mkF m 10 #[.val (.int p1), .unset, .unset, .unset] [(.ref w_STRING), (.int (0 : Int32)), (.ref b), (.ref b)])) st10 ?_
  obtain ⟨T11, L11, X11, N11, K11, V11', st11⟩ := own_sto X10 hx hZ e10 K100 hb0 V100 O100 (Ins.of_exa E_STRING (hw _ (List.mem_of_getElem? (i := 5) rfl))) (by decide) 0 (by decide) (Nat.le_of_ble_eq_true rfl) N0 nb (g := (mkF m 10 #[.val (.int p1), .unset, .unset, .unset] [(.ref w_STRING), (.int (0 : Int32)), (.ref b), (.ref b)])) rfl rfl (hb hby at_10)
  have V11 : Arv Z T11.heap b kA (.object "com/example/certain_policy/certainpolicy/DataType") (16 : Int32) [(.ref w_STRING), .null, .null, .null, .null, .null, .null, .null, .null, .null, .null, .null, .null, .null, .null, .null] .null := V11'
  refine own_adv (B := T11.setTop (mkF m 11 #[.val (.int p1), .unset, .unset, .unset] [(.ref b)])) st11 ?_
  refine own_adv (B := T11.setTop (mkF m 12 #[.val (.int p1), .unset, .unset, .unset] [(.ref b), (.ref b)])) (fun t k => XS.dup X11.here hx rfl (hb hby at_11) rfl rfl k) ?_
  refine own_adv (B := T11.setTop (mkF m 13 #[.val (.int p1), .unset, .unset, .unset] [(.int (1 : Int32)), (.ref b), (.ref b)])) (fun t k => XS.iconst X11.here hx rfl (hb hby at_12) k) ?_
  obtain ⟨T12, X12, e12, st12⟩ := getS2 X11 hx hZ hown (host := "") (Or.inl (hw _ (List.mem_of_getElem? (i := 6) rfl))) Via.refl rfl (S_BOOLEAN.ext K11) (g := (mkF m 13 #[.val (.int p1), .unset, .unset, .unset] [(.int (1 : Int32)), (.ref b), (.ref b)])) rfl (hb hby at_13)
  refine own_adv (B := T12.setTop (mkF m 16 #[.val (.int p1), .unset, .unset, .unset] [(.ref w_BOOLEAN), (.int (1 : Int32)), (.ref b), (.ref b)])) st12 ?_
  obtain ⟨T13, L13, X13, N13, K13, V13', st13⟩ := own_sto X12 hx hZ e12 K11 hb0 V11 O100 (Ins.of_exa E_BOOLEAN (hw _ (List.mem_of_getElem? (i := 8) rfl))) (by decide) 1 (by decide) (Nat.le_of_ble_eq_true rfl) N11 nb (g := (mkF m 16 #[.val (.int p1), .unset, .unset, .unset] [(.ref w_BOOLEAN), (.int (1 : Int32)), (.ref b), (.ref b)])) rfl rfl (hb hby at_16)
  have V13 : Arv Z T13.heap b kA (.object "com/example/certain_policy/certainpolicy/DataType") (16 : Int32) [(.ref w_STRING), (.ref w_BOOLEAN), .null, .null, .null, .null, .null, .null, .null, .null, .null, .null, .null, .null, .null, .null] .null := V13'
  refine own_adv (B := T13.setTop (mkF m 17 #[.val (.int p1), .unset, .unset, .unset] [(.ref b)])) st13 ?_
  refine own_adv (B := T13.setTop (mkF m 18 #[.val (.int p1), .unset, .unset, .unset] [(.ref b), (.ref b)])) (fun t k => XS.dup X13.here hx rfl (hb hby at_17) rfl rfl k) ?_
  refine own_adv (B := T13.setTop (mkF m 19 #[.val (.int p1), .unset, .unset, .unset] [(.int (2 : Int32)), (.ref b), (.ref b)])) (fun t k => XS.iconst X13.here hx rfl (hb hby at_18) k) ?_
  obtain ⟨T14, X14, e14, st14⟩ := getS2 X13 hx hZ hown (host := "") (Or.inl (hw _ (List.mem_of_getElem? (i := 9) rfl))) Via.refl rfl (S_INTEGER.ext K13) (g := (mkF m 19 #[.val (.int p1), .unset, .unset, .unset] [(.int (2 : Int32)), (.ref b), (.ref b)])) rfl (hb hby at_19)
  refine own_adv (B := T14.setTop (mkF m 22 #[.val (.int p1), .unset, .unset, .unset] [(.ref w_INTEGER), (.int (2 : Int32)), (.ref b), (.ref b)])) st14 ?_
  obtain ⟨T15, L15, X15, N15, K15, V15', st15⟩ := own_sto X14 hx hZ e14 K13 hb0 V13 O100 (Ins.of_exa E_INTEGER (hw _ (List.mem_of_getElem? (i := 11) rfl))) (by decide) 2 (by decide) (Nat.le_of_ble_eq_true rfl) N13 nb (g := (mkF m 22 #[.val (.int p1), .unset, .unset, .unset] [(.ref w_INTEGER), (.int (2 : Int32)), (.ref b), (.ref b)])) rfl rfl (hb hby at_22)
  have V15 : Arv Z T15.heap b kA (.object "com/example/certain_policy/certainpolicy/DataType") (16 : Int32) [(.ref w_STRING), (.ref w_BOOLEAN), (.ref w_INTEGER), .null, .null, .null, .null, .null, .null, .null, .null, .null, .null, .null, .null, .null] .null := V15'
  refine own_adv (B := T15.setTop (mkF m 23 #[.val (.int p1), .unset, .unset, .unset] [(.ref b)])) st15 ?_
  refine own_adv (B := T15.setTop (mkF m 24 #[.val (.int p1), .unset, .unset, .unset] [(.ref b), (.ref b)])) (fun t k => XS.dup X15.here hx rfl (hb hby at_23) rfl rfl k) ?_
  refine own_adv (B := T15.setTop (mkF m 25 #[.val (.int p1), .unset, .unset, .unset] [(.int (3 : Int32)), (.ref b), (.ref b)])) (fun t k => XS.iconst X15.here hx rfl (hb hby at_24) k) ?_
  obtain ⟨T16, X16, e16, st16⟩ := getS2 X15 hx hZ hown (host := "") (Or.inl (hw _ (List.mem_of_getElem? (i := 12) rfl))) Via.refl rfl (S_DOUBLE.ext K15) (g := (mkF m 25 #[.val (.int p1), .unset, .unset, .unset] [(.int (3 : Int32)), (.ref b), (.ref b)])) rfl (hb hby at_25)
  refine own_adv (B := T16.setTop (mkF m 28 #[.val (.int p1), .unset, .unset, .unset] [(.ref w_DOUBLE), (.int (3 : Int32)), (.ref b), (.ref b)])) st16 ?_
  obtain ⟨T17, L17, X17, N17, K17, V17', st17⟩ := own_sto X16 hx hZ e16 K15 hb0 V15 O100 (Ins.of_exa E_DOUBLE (hw _ (List.mem_of_getElem? (i := 14) rfl))) (by decide) 3 (by decide) (Nat.le_of_ble_eq_true rfl) N15 nb (g := (mkF m 28 #[.val (.int p1), .unset, .unset, .unset] [(.ref w_DOUBLE), (.int (3 : Int32)), (.ref b), (.ref b)])) rfl rfl (hb hby at_28)
  have V17 : Arv Z T17.heap b kA (.object "com/example/certain_policy/certainpolicy/DataType") (16 : Int32) [(.ref w_STRING), (.ref w_BOOLEAN), (.ref w_INTEGER), (.ref w_DOUBLE), .null, .null, .null, .null, .null, .null, .null, .null, .null, .null, .null, .null] .null := V17'
  refine own_adv (B := T17.setTop (mkF m 29 #[.val (.int p1), .unset, .unset, .unset] [(.ref b)])) st17 ?_
  refine own_adv (B := T17.setTop (mkF m 30 #[.val (.int p1), .unset, .unset, .unset] [(.ref b), (.ref b)])) (fun t k => XS.dup X17.here hx rfl (hb hby at_29) rfl rfl k) ?_
  refine own_adv (B := T17.setTop (mkF m 31 #[.val (.int p1), .unset, .unset, .unset] [(.int (4 : Int32)), (.ref b), (.ref b)])) (fun t k => XS.iconst X17.here hx rfl (hb hby at_30) k) ?_
  obtain ⟨T18, X18, e18, st18⟩ := getS2 X17 hx hZ hown (host := "") (Or.inl (hw _ (List.mem_of_getElem? (i := 15) rfl))) Via.refl rfl (S_DATE.ext K17) (g := (mkF m 31 #[.val (.int p1), .unset, .unset, .unset] [(.int (4 : Int32)), (.ref b), (.ref b)])) rfl (hb hby at_31)
  refine own_adv (B := T18.setTop (mkF m 34 #[.val (.int p1), .unset, .unset, .unset] [(.ref w_DATE), (.int (4 : Int32)), (.ref b), (.ref b)])) st18 ?_
  obtain ⟨T19, L19, X19, N19, K19, V19', st19⟩ := own_sto X18 hx hZ e18 K17 hb0 V17 O100 (Ins.of_exa E_DATE (hw _ (List.mem_of_getElem? (i := 17) rfl))) (by decide) 4 (by decide) (Nat.le_of_ble_eq_true rfl) N17 nb (g := (mkF m 34 #[.val (.int p1), .unset, .unset, .unset] [(.ref w_DATE), (.int (4 : Int32)), (.ref b), (.ref b)])) rfl rfl (hb hby at_34)
  have V19 : Arv Z T19.heap b kA (.object "com/example/certain_policy/certainpolicy/DataType") (16 : Int32) [(.ref w_STRING), (.ref w_BOOLEAN), (.ref w_INTEGER), (.ref w_DOUBLE), (.ref w_DATE), .null, .null, .null, .null, .null, .null, .null, .null, .null, .null, .null] .null := V19'
  refine own_adv (B := T19.setTop (mkF m 35 #[.val (.int p1), .unset, .unset, .unset] [(.ref b)])) st19 ?_
  refine own_adv (B := T19.setTop (mkF m 36 #[.val (.int p1), .unset, .unset, .unset] [(.ref b), (.ref b)])) (fun t k => XS.dup X19.here hx rfl (hb hby at_35) rfl rfl k) ?_
  refine own_adv (B := T19.setTop (mkF m 37 #[.val (.int p1), .unset, .unset, .unset] [(.int (5 : Int32)), (.ref b), (.ref b)])) (fun t k => XS.iconst X19.here hx rfl (hb hby at_36) k) ?_
  obtain ⟨T20, X20, e20, st20⟩ := getS2 X19 hx hZ hown (host := "") (Or.inl (hw _ (List.mem_of_getElem? (i := 18) rfl))) Via.refl rfl (S_TIME.ext K19) (g := (mkF m 37 #[.val (.int p1), .unset, .unset, .unset] [(.int (5 : Int32)), (.ref b), (.ref b)])) rfl (hb hby at_37)
  refine own_adv (B := T20.setTop (mkF m 40 #[.val (.int p1), .unset, .unset, .unset] [(.ref w_TIME), (.int (5 : Int32)), (.ref b), (.ref b)])) st20 ?_
  obtain ⟨T21, L21, X21, N21, K21, V21', st21⟩ := own_sto X20 hx hZ e20 K19 hb0 V19 O100 (Ins.of_exa E_TIME (hw _ (List.mem_of_getElem? (i := 20) rfl))) (by decide) 5 (by decide) (Nat.le_of_ble_eq_true rfl) N19 nb (g := (mkF m 40 #[.val (.int p1), .unset, .unset, .unset] [(.ref w_TIME), (.int (5 : Int32)), (.ref b), (.ref b)])) rfl rfl (hb hby at_40)
  have V21 : Arv Z T21.heap b kA (.object "com/example/certain_policy/certainpolicy/DataType") (16 : Int32) [(.ref w_STRING), (.ref w_BOOLEAN), (.ref w_INTEGER), (.ref w_DOUBLE), (.ref w_DATE), (.ref w_TIME), .null, .null, .null, .null, .null, .null, .null, .null, .null, .null] .null := V21'
  refine own_adv (B := T21.setTop (mkF m 41 #[.val (.int p1), .unset, .unset, .unset] [(.ref b)])) st21 ?_
  refine own_adv (B := T21.setTop (mkF m 42 #[.val (.int p1), .unset, .unset, .unset] [(.ref b), (.ref b)])) (fun t k => XS.dup X21.here hx rfl (hb hby at_41) rfl rfl k) ?_
  refine own_adv (B := T21.setTop (mkF m 44 #[.val (.int p1), .unset, .unset, .unset] [(.int (6 : Int32)), (.ref b), (.ref b)])) (fun t k => XS.bipush X21.here hx rfl (hb hby at_42) k) ?_
  obtain ⟨T22, X22, e22, st22⟩ := getS2 X21 hx hZ hown (host := "") (Or.inl (hw _ (List.mem_of_getElem? (i := 21) rfl))) Via.refl rfl (S_DATE_TIME.ext K21) (g := (mkF m 44 #[.val (.int p1), .unset, .unset, .unset] [(.int (6 : Int32)), (.ref b), (.ref b)])) rfl (hb hby at_44)
  refine own_adv (B := T22.setTop (mkF m 47 #[.val (.int p1), .unset, .unset, .unset] [(.ref w_DATE_TIME), (.int (6 : Int32)), (.ref b), (.ref b)])) st22 ?_
  obtain ⟨T23, L23, X23, N23, K23, V23', st23⟩ := own_sto X22 hx hZ e22 K21 hb0 V21 O100 (Ins.of_exa E_DATE_TIME (hw _ (List.mem_of_getElem? (i := 23) rfl))) (by decide) 6 (by decide) (Nat.le_of_ble_eq_true rfl) N21 nb (g := (mkF m 47 #[.val (.int p1), .unset, .unset, .unset] [(.ref w_DATE_TIME), (.int (6 : Int32)), (.ref b), (.ref b)])) rfl rfl (hb hby at_47)
  have V23 : Arv Z T23.heap b kA (.object "com/example/certain_policy/certainpolicy/DataType") (16 : Int32) [(.ref w_STRING), (.ref w_BOOLEAN), (.ref w_INTEGER), (.ref w_DOUBLE), (.ref w_DATE), (.ref w_TIME), (.ref w_DATE_TIME), .null, .null, .null, .null, .null, .null, .null, .null, .null] .null := V23'
  refine own_adv (B := T23.setTop (mkF m 48 #[.val (.int p1), .unset, .unset, .unset] [(.ref b)])) st23 ?_
  refine own_adv (B := T23.setTop (mkF m 49 #[.val (.int p1), .unset, .unset, .unset] [(.ref b), (.ref b)])) (fun t k => XS.dup X23.here hx rfl (hb hby at_48) rfl rfl k) ?_
  refine own_adv (B := T23.setTop (mkF m 51 #[.val (.int p1), .unset, .unset, .unset] [(.int (7 : Int32)), (.ref b), (.ref b)])) (fun t k => XS.bipush X23.here hx rfl (hb hby at_49) k) ?_
  obtain ⟨T24, X24, e24, st24⟩ := getS2 X23 hx hZ hown (host := "") (Or.inl (hw _ (List.mem_of_getElem? (i := 24) rfl))) Via.refl rfl (S_ANY_URI.ext K23) (g := (mkF m 51 #[.val (.int p1), .unset, .unset, .unset] [(.int (7 : Int32)), (.ref b), (.ref b)])) rfl (hb hby at_51)
  refine own_adv (B := T24.setTop (mkF m 54 #[.val (.int p1), .unset, .unset, .unset] [(.ref w_ANY_URI), (.int (7 : Int32)), (.ref b), (.ref b)])) st24 ?_
  obtain ⟨T25, L25, X25, N25, K25, V25', st25⟩ := own_sto X24 hx hZ e24 K23 hb0 V23 O100 (Ins.of_exa E_ANY_URI (hw _ (List.mem_of_getElem? (i := 26) rfl))) (by decide) 7 (by decide) (Nat.le_of_ble_eq_true rfl) N23 nb (g := (mkF m 54 #[.val (.int p1), .unset, .unset, .unset] [(.ref w_ANY_URI), (.int (7 : Int32)), (.ref b), (.ref b)])) rfl rfl (hb hby at_54)
  have V25 : Arv Z T25.heap b kA (.object "com/example/certain_policy/certainpolicy/DataType") (16 : Int32) [(.ref w_STRING), (.ref w_BOOLEAN), (.ref w_INTEGER), (.ref w_DOUBLE), (.ref w_DATE), (.ref w_TIME), (.ref w_DATE_TIME), (.ref w_ANY_URI), .null, .null, .null, .null, .null, .null, .null, .null] .null := V25'
  refine own_adv (B := T25.setTop (mkF m 55 #[.val (.int p1), .unset, .unset, .unset] [(.ref b)])) st25 ?_
  refine own_adv (B := T25.setTop (mkF m 56 #[.val (.int p1), .unset, .unset, .unset] [(.ref b), (.ref b)])) (fun t k => XS.dup X25.here hx rfl (hb hby at_55) rfl rfl k) ?_
  refine own_adv (B := T25.setTop (mkF m 58 #[.val (.int p1), .unset, .unset, .unset] [(.int (8 : Int32)), (.ref b), (.ref b)])) (fun t k => XS.bipush X25.here hx rfl (hb hby at_56) k) ?_
  obtain ⟨T26, X26, e26, st26⟩ := getS2 X25 hx hZ hown (host := "") (Or.inl (hw _ (List.mem_of_getElem? (i := 27) rfl))) Via.refl rfl (S_HEX_BINARY.ext K25) (g := (mkF m 58 #[.val (.int p1), .unset, .unset, .unset] [(.int (8 : Int32)), (.ref b), (.ref b)])) rfl (hb hby at_58)
  refine own_adv (B := T26.setTop (mkF m 61 #[.val (.int p1), .unset, .unset, .unset] [(.ref w_HEX_BINARY), (.int (8 : Int32)), (.ref b), (.ref b)])) st26 ?_
  obtain ⟨T27, L27, X27, N27, K27, V27', st27⟩ := own_sto X26 hx hZ e26 K25 hb0 V25 O100 (Ins.of_exa E_HEX_BINARY (hw _ (List.mem_of_getElem? (i := 29) rfl))) (by decide) 8 (by decide) (Nat.le_of_ble_eq_true rfl) N25 nb (g := (mkF m 61 #[.val (.int p1), .unset, .unset, .unset] [(.ref w_HEX_BINARY), (.int (8 : Int32)), (.ref b), (.ref b)])) rfl rfl (hb hby at_61)
  have V27 : Arv Z T27.heap b kA (.object "com/example/certain_policy/certainpolicy/DataType") (16 : Int32) [(.ref w_STRING), (.ref w_BOOLEAN), (.ref w_INTEGER), (.ref w_DOUBLE), (.ref w_DATE), (.ref w_TIME), (.ref w_DATE_TIME), (.ref w_ANY_URI), (.ref w_HEX_BINARY), .null, .null, .null, .null, .null, .null, .null] .null := V27'
  refine own_adv (B := T27.setTop (mkF m 62 #[.val (.int p1), .unset, .unset, .unset] [(.ref b)])) st27 ?_
  refine own_adv (B := T27.setTop (mkF m 63 #[.val (.int p1), .unset, .unset, .unset] [(.ref b), (.ref b)])) (fun t k => XS.dup X27.here hx rfl (hb hby at_62) rfl rfl k) ?_
  refine own_adv (B := T27.setTop (mkF m 65 #[.val (.int p1), .unset, .unset, .unset] [(.int (9 : Int32)), (.ref b), (.ref b)])) (fun t k => XS.bipush X27.here hx rfl (hb hby at_63) k) ?_
  obtain ⟨T28, X28, e28, st28⟩ := getS2 X27 hx hZ hown (host := "") (Or.inl (hw _ (List.mem_of_getElem? (i := 30) rfl))) Via.refl rfl (S_BASE64_BINARY.ext K27) (g := (mkF m 65 #[.val (.int p1), .unset, .unset, .unset] [(.int (9 : Int32)), (.ref b), (.ref b)])) rfl (hb hby at_65)
  refine own_adv (B := T28.setTop (mkF m 68 #[.val (.int p1), .unset, .unset, .unset] [(.ref w_BASE64_BINARY), (.int (9 : Int32)), (.ref b), (.ref b)])) st28 ?_
  obtain ⟨T29, L29, X29, N29, K29, V29', st29⟩ := own_sto X28 hx hZ e28 K27 hb0 V27 O100 (Ins.of_exa E_BASE64_BINARY (hw _ (List.mem_of_getElem? (i := 32) rfl))) (by decide) 9 (by decide) (Nat.le_of_ble_eq_true rfl) N27 nb (g := (mkF m 68 #[.val (.int p1), .unset, .unset, .unset] [(.ref w_BASE64_BINARY), (.int (9 : Int32)), (.ref b), (.ref b)])) rfl rfl (hb hby at_68)
  have V29 : Arv Z T29.heap b kA (.object "com/example/certain_policy/certainpolicy/DataType") (16 : Int32) [(.ref w_STRING), (.ref w_BOOLEAN), (.ref w_INTEGER), (.ref w_DOUBLE), (.ref w_DATE), (.ref w_TIME), (.ref w_DATE_TIME), (.ref w_ANY_URI), (.ref w_HEX_BINARY), (.ref w_BASE64_BINARY), .null, .null, .null, .null, .null, .null] .null := V29'
  refine own_adv (B := T29.setTop (mkF m 69 #[.val (.int p1), .unset, .unset, .unset] [(.ref b)])) st29 ?_
  refine own_adv (B := T29.setTop (mkF m 70 #[.val (.int p1), .unset, .unset, .unset] [(.ref b), (.ref b)])) (fun t k => XS.dup X29.here hx rfl (hb hby at_69) rfl rfl k) ?_
  refine own_adv (B := T29.setTop (mkF m 72 #[.val (.int p1), .unset, .unset, .unset] [(.int (10 : Int32)), (.ref b), (.ref b)])) (fun t k => XS.bipush X29.here hx rfl (hb hby at_70) k) ?_
  obtain ⟨T30, X30, e30, st30⟩ := getS2 X29 hx hZ hown (host := "") (Or.inl (hw _ (List.mem_of_getElem? (i := 33) rfl))) Via.refl rfl (S_DAY_TIME_DURATION.ext K29) (g := (mkF m 72 #[.val (.int p1), .unset, .unset, .unset] [(.int (10 : Int32)), (.ref b), (.ref b)])) rfl (hb hby at_72)
  refine own_adv (B := T30.setTop (mkF m 75 #[.val (.int p1), .unset, .unset, .unset] [(.ref w_DAY_TIME_DURATION), (.int (10 : Int32)), (.ref b), (.ref b)])) st30 ?_
  obtain ⟨T31, L31, X31, N31, K31, V31', st31⟩ := own_sto X30 hx hZ e30 K29 hb0 V29 O100 (Ins.of_exa E_DAY_TIME_DURATION (hw _ (List.mem_of_getElem? (i := 35) rfl))) (by decide) 10 (by decide) (Nat.le_of_ble_eq_true rfl) N29 nb (g := (mkF m 75 #[.val (.int p1), .unset, .unset, .unset] [(.ref w_DAY_TIME_DURATION), (.int (10 : Int32)), (.ref b), (.ref b)])) rfl rfl (hb hby at_75)
  have V31 : Arv Z T31.heap b kA (.object "com/example/certain_policy/certainpolicy/DataType") (16 : Int32) [(.ref w_STRING), (.ref w_BOOLEAN), (.ref w_INTEGER), (.ref w_DOUBLE), (.ref w_DATE), (.ref w_TIME), (.ref w_DATE_TIME), (.ref w_ANY_URI), (.ref w_HEX_BINARY), (.ref w_BASE64_BINARY), (.ref w_DAY_TIME_DURATION), .null, .null, .null, .null, .null] .null := V31'
  refine own_adv (B := T31.setTop (mkF m 76 #[.val (.int p1), .unset, .unset, .unset] [(.ref b)])) st31 ?_
  refine own_adv (B := T31.setTop (mkF m 77 #[.val (.int p1), .unset, .unset, .unset] [(.ref b), (.ref b)])) (fun t k => XS.dup X31.here hx rfl (hb hby at_76) rfl rfl k) ?_
  refine own_adv (B := T31.setTop (mkF m 79 #[.val (.int p1), .unset, .unset, .unset] [(.int (11 : Int32)), (.ref b), (.ref b)])) (fun t k => XS.bipush X31.here hx rfl (hb hby at_77) k) ?_
  obtain ⟨T32, X32, e32, st32⟩ := getS2 X31 hx hZ hown (host := "") (Or.inl (hw _ (List.mem_of_getElem? (i := 36) rfl))) Via.refl rfl (S_YEAR_MONTH_DURATION.ext K31) (g := (mkF m 79 #[.val (.int p1), .unset, .unset, .unset] [(.int (11 : Int32)), (.ref b), (.ref b)])) rfl (hb hby at_79)
  refine own_adv (B := T32.setTop (mkF m 82 #[.val (.int p1), .unset, .unset, .unset] [(.ref w_YEAR_MONTH_DURATION), (.int (11 : Int32)), (.ref b), (.ref b)])) st32 ?_
  obtain ⟨T33, L33, X33, N33, K33, V33', st33⟩ := own_sto X32 hx hZ e32 K31 hb0 V31 O100 (Ins.of_exa E_YEAR_MONTH_DURATION (hw _ (List.mem_of_getElem? (i := 38) rfl))) (by decide) 11 (by decide) (Nat.le_of_ble_eq_true rfl) N31 nb (g := (mkF m 82 #[.val (.int p1), .unset, .unset, .unset] [(.ref w_YEAR_MONTH_DURATION), (.int (11 : Int32)), (.ref b), (.ref b)])) rfl rfl (hb hby at_82)
  have V33 : Arv Z T33.heap b kA (.object "com/example/certain_policy/certainpolicy/DataType") (16 : Int32) [(.ref w_STRING), (.ref w_BOOLEAN), (.ref w_INTEGER), (.ref w_DOUBLE), (.ref w_DATE), (.ref w_TIME), (.ref w_DATE_TIME), (.ref w_ANY_URI), (.ref w_HEX_BINARY), (.ref w_BASE64_BINARY), (.ref w_DAY_TIME_DURATION), (.ref w_YEAR_MONTH_DURATION), .null, .null, .null, .null] .null := V33'
  refine own_adv (B := T33.setTop (mkF m 83 #[.val (.int p1), .unset, .unset, .unset] [(.ref b)])) st33 ?_
  refine own_adv (B := T33.setTop (mkF m 84 #[.val (.int p1), .unset, .unset, .unset] [(.ref b), (.ref b)])) (fun t k => XS.dup X33.here hx rfl (hb hby at_83) rfl rfl k) ?_
  refine own_adv (B := T33.setTop (mkF m 86 #[.val (.int p1), .unset, .unset, .unset] [(.int (12 : Int32)), (.ref b), (.ref b)])) (fun t k => XS.bipush X33.here hx rfl (hb hby at_84) k) ?_
  obtain ⟨T34, X34, e34, st34⟩ := getS2 X33 hx hZ hown (host := "") (Or.inl (hw _ (List.mem_of_getElem? (i := 39) rfl))) Via.refl rfl (S_X500_NAME.ext K33) (g := (mkF m 86 #[.val (.int p1), .unset, .unset, .unset] [(.int (12 : Int32)), (.ref b), (.ref b)])) rfl (hb hby at_86)
  refine own_adv (B := T34.setTop (mkF m 89 #[.val (.int p1), .unset, .unset, .unset] [(.ref w_X500_NAME), (.int (12 : Int32)), (.ref b), (.ref b)])) st34 ?_
  obtain ⟨T35, L35, X35, N35, K35, V35', st35⟩ := own_sto X34 hx hZ e34 K33 hb0 V33 O100 (Ins.of_exa E_X500_NAME (hw _ (List.mem_of_getElem? (i := 41) rfl))) (by decide) 12 (by decide) (Nat.le_of_ble_eq_true rfl) N33 nb (g := (mkF m 89 #[.val (.int p1), .unset, .unset, .unset] [(.ref w_X500_NAME), (.int (12 : Int32)), (.ref b), (.ref b)])) rfl rfl (hb hby at_89)
  have V35 : Arv Z T35.heap b kA (.object "com/example/certain_policy/certainpolicy/DataType") (16 : Int32) [(.ref w_STRING), (.ref w_BOOLEAN), (.ref w_INTEGER), (.ref w_DOUBLE), (.ref w_DATE), (.ref w_TIME), (.ref w_DATE_TIME), (.ref w_ANY_URI), (.ref w_HEX_BINARY), (.ref w_BASE64_BINARY), (.ref w_DAY_TIME_DURATION), (.ref w_YEAR_MONTH_DURATION), (.ref w_X500_NAME), .null, .null, .null] .null := V35'
  refine own_adv (B := T35.setTop (mkF m 90 #[.val (.int p1), .unset, .unset, .unset] [(.ref b)])) st35 ?_
  refine own_adv (B := T35.setTop (mkF m 91 #[.val (.int p1), .unset, .unset, .unset] [(.ref b), (.ref b)])) (fun t k => XS.dup X35.here hx rfl (hb hby at_90) rfl rfl k) ?_
  refine own_adv (B := T35.setTop (mkF m 93 #[.val (.int p1), .unset, .unset, .unset] [(.int (13 : Int32)), (.ref b), (.ref b)])) (fun t k => XS.bipush X35.here hx rfl (hb hby at_91) k) ?_
  obtain ⟨T36, X36, e36, st36⟩ := getS2 X35 hx hZ hown (host := "") (Or.inl (hw _ (List.mem_of_getElem? (i := 42) rfl))) Via.refl rfl (S_RFC822_NAME.ext K35) (g := (mkF m 93 #[.val (.int p1), .unset, .unset, .unset] [(.int (13 : Int32)), (.ref b), (.ref b)])) rfl (hb hby at_93)
  refine own_adv (B := T36.setTop (mkF m 96 #[.val (.int p1), .unset, .unset, .unset] [(.ref w_RFC822_NAME), (.int (13 : Int32)), (.ref b), (.ref b)])) st36 ?_
  obtain ⟨T37, L37, X37, N37, K37, V37', st37⟩ := own_sto X36 hx hZ e36 K35 hb0 V35 O100 (Ins.of_exa E_RFC822_NAME (hw _ (List.mem_of_getElem? (i := 44) rfl))) (by decide) 13 (by decide) (Nat.le_of_ble_eq_true rfl) N35 nb (g := (mkF m 96 #[.val (.int p1), .unset, .unset, .unset] [(.ref w_RFC822_NAME), (.int (13 : Int32)), (.ref b), (.ref b)])) rfl rfl (hb hby at_96)
  have V37 : Arv Z T37.heap b kA (.object "com/example/certain_policy/certainpolicy/DataType") (16 : Int32) [(.ref w_STRING), (.ref w_BOOLEAN), (.ref w_INTEGER), (.ref w_DOUBLE), (.ref w_DATE), (.ref w_TIME), (.ref w_DATE_TIME), (.ref w_ANY_URI), (.ref w_HEX_BINARY), (.ref w_BASE64_BINARY), (.ref w_DAY_TIME_DURATION), (.ref w_YEAR_MONTH_DURATION), (.ref w_X500_NAME), (.ref w_RFC822_NAME), .null, .null] .null := V37'
  refine own_adv (B := T37.setTop (mkF m 97 #[.val (.int p1), .unset, .unset, .unset] [(.ref b)])) st37 ?_
  refine own_adv (B := T37.setTop (mkF m 98 #[.val (.int p1), .unset, .unset, .unset] [(.ref b), (.ref b)])) (fun t k => XS.dup X37.here hx rfl (hb hby at_97) rfl rfl k) ?_
  refine own_adv (B := T37.setTop (mkF m 100 #[.val (.int p1), .unset, .unset, .unset] [(.int (14 : Int32)), (.ref b), (.ref b)])) (fun t k => XS.bipush X37.here hx rfl (hb hby at_98) k) ?_
  obtain ⟨T38, X38, e38, st38⟩ := getS2 X37 hx hZ hown (host := "") (Or.inl (hw _ (List.mem_of_getElem? (i := 45) rfl))) Via.refl rfl (S_IP_ADDRESS.ext K37) (g := (mkF m 100 #[.val (.int p1), .unset, .unset, .unset] [(.int (14 : Int32)), (.ref b), (.ref b)])) rfl (hb hby at_100)
  refine own_adv (B := T38.setTop (mkF m 103 #[.val (.int p1), .unset, .unset, .unset] [(.ref w_IP_ADDRESS), (.int (14 : Int32)), (.ref b), (.ref b)])) st38 ?_
  obtain ⟨T39, L39, X39, N39, K39, V39', st39⟩ := own_sto X38 hx hZ e38 K37 hb0 V37 O100 (Ins.of_exa E_IP_ADDRESS (hw _ (List.mem_of_getElem? (i := 47) rfl))) (by decide) 14 (by decide) (Nat.le_of_ble_eq_true rfl) N37 nb (g := (mkF m 103 #[.val (.int p1), .unset, .unset, .unset] [(.ref w_IP_ADDRESS), (.int (14 : Int32)), (.ref b), (.ref b)])) rfl rfl (hb hby at_103)
  have V39 : Arv Z T39.heap b kA (.object "com/example/certain_policy/certainpolicy/DataType") (16 : Int32) [(.ref w_STRING), (.ref w_BOOLEAN), (.ref w_INTEGER), (.ref w_DOUBLE), (.ref w_DATE), (.ref w_TIME), (.ref w_DATE_TIME), (.ref w_ANY_URI), (.ref w_HEX_BINARY), (.ref w_BASE64_BINARY), (.ref w_DAY_TIME_DURATION), (.ref w_YEAR_MONTH_DURATION), (.ref w_X500_NAME), (.ref w_RFC822_NAME), (.ref w_IP_ADDRESS), .null] .null := V39'
  refine own_adv (B := T39.setTop (mkF m 104 #[.val (.int p1), .unset, .unset, .unset] [(.ref b)])) st39 ?_
  refine own_adv (B := T39.setTop (mkF m 105 #[.val (.int p1), .unset, .unset, .unset] [(.ref b), (.ref b)])) (fun t k => XS.dup X39.here hx rfl (hb hby at_104) rfl rfl k) ?_
  refine own_adv (B := T39.setTop (mkF m 107 #[.val (.int p1), .unset, .unset, .unset] [(.int (15 : Int32)), (.ref b), (.ref b)])) (fun t k => XS.bipush X39.here hx rfl (hb hby at_105) k) ?_
  obtain ⟨T40, X40, e40, st40⟩ := getS2 X39 hx hZ hown (host := "") (Or.inl (hw _ (List.mem_of_getElem? (i := 48) rfl))) Via.refl rfl (S_DNS_NAME.ext K39) (g := (mkF m 107 #[.val (.int p1), .unset, .unset, .unset] [(.int (15 : Int32)), (.ref b), (.ref b)])) rfl (hb hby at_107)
  refine own_adv (B := T40.setTop (mkF m 110 #[.val (.int p1), .unset, .unset, .unset] [(.ref w_DNS_NAME), (.int (15 : Int32)), (.ref b), (.ref b)])) st40 ?_
  obtain ⟨T41, L41, X41, N41, K41, V41', st41⟩ := own_sto X40 hx hZ e40 K39 hb0 V39 O100 (Ins.of_exa E_DNS_NAME (hw _ (List.mem_of_getElem? (i := 50) rfl))) (by decide) 15 (by decide) (Nat.le_of_ble_eq_true rfl) N39 nb (g := (mkF m 110 #[.val (.int p1), .unset, .unset, .unset] [(.ref w_DNS_NAME), (.int (15 : Int32)), (.ref b), (.ref b)])) rfl rfl (hb hby at_110)
  have V41 : Arv Z T41.heap b kA (.object "com/example/certain_policy/certainpolicy/DataType") (16 : Int32) [(.ref w_STRING), (.ref w_BOOLEAN), (.ref w_INTEGER), (.ref w_DOUBLE), (.ref w_DATE), (.ref w_TIME), (.ref w_DATE_TIME), (.ref w_ANY_URI), (.ref w_HEX_BINARY), (.ref w_BASE64_BINARY), (.ref w_DAY_TIME_DURATION), (.ref w_YEAR_MONTH_DURATION), (.ref w_X500_NAME), (.ref w_RFC822_NAME), (.ref w_IP_ADDRESS), (.ref w_DNS_NAME)] .null := V41'
  refine own_adv (B := T41.setTop (mkF m 111 #[.val (.int p1), .unset, .unset, .unset] [(.ref b)])) st41 ?_
  refine own_adv (B := T41.setTop (mkF m 112 #[.val (.int p1), .val (.ref b), .unset, .unset] [])) (fun t k => XS.astoreN X41.here hx rfl (hb hby at_111) rfl rfl (l' := #[.val (.int p1), .val (.ref b), .unset, .unset]) rfl k) ?_
  refine own_adv (B := T41.setTop (mkF m 113 #[.val (.int p1), .val (.ref b), .unset, .unset] [(.int p1)])) (fun t k => XS.iloadN X41.here hx rfl (hb hby at_112) rfl k) ?_
  refine own_adv (B := T41.setTop (mkF m 115 #[.val (.int p1), .val (.ref b), .unset, .unset] [(.int (15 : Int32)), (.int p1)])) (fun t k => XS.bipush X41.here hx rfl (hb hby at_113) k) ?_
  refine own_adv (B := T41.setTop (mkF m 116 #[.val (.int p1), .val (.ref b), .unset, .unset] [(.int (p1 &&& (15 : Int32)))])) (fun t k => XS.iand X41.here hx rfl (hb hby at_115) rfl k) ?_
  refine own_adv (B := T41.setTop (mkF m 117 #[.val (.int p1), .val (.ref b), .val (.int (p1 &&& (15 : Int32))), .unset] [])) (fun t k => XS.istoreN X41.here hx rfl (hb hby at_116) rfl (l' := #[.val (.int p1), .val (.ref b), .val (.int (p1 &&& (15 : Int32))), .unset]) rfl k) ?_
  refine own_adv (B := T41.setTop (mkF m 118 #[.val (.int p1), .val (.ref b), .val (.int (p1 &&& (15 : Int32))), .unset] [(.int (p1 &&& (15 : Int32)))])) (fun t k => XS.iloadN X41.here hx rfl (hb hby at_117) rfl k) ?_
  refine own_adv (B := T41.setTop (mkF m 120 #[.val (.int p1), .val (.ref b), .val (.int (p1 &&& (15 : Int32))), .unset] [(.int (14 : Int32)), (.int (p1 &&& (15 : Int32)))])) (fun t k => XS.bipush X41.here hx rfl (hb hby at_118) k) ?_
  obtain ⟨cA, ArA, qA, SA, NA, HA, GA⟩ := V41
  rcases own_m15 p1 with c0 | c1 | c2 | c3 | c4 | c5 | c6 | c7 | c8 | c9 | c10 | c11 | c12 | c13 | c14 | c15
  · skip
    refine own_adv (B := T41.setTop (mkF m 123 #[.val (.int p1), .val (.ref b), .val (.int (p1 &&& (15 : Int32))), .unset] [])) (fun t k => XS.icmpNo X41.here hx rfl (hb hby at_120) rfl (feq (by rw [c0]; decide)).1 k) ?_
    refine own_adv (B := T41.setTop (mkF m 124 #[.val (.int p1), .val (.ref b), .val (.int (p1 &&& (15 : Int32))), .unset] [(.int (p1 &&& (15 : Int32)))])) (fun t k => XS.iloadN X41.here hx rfl (hb hby at_123) rfl k) ?_
    refine own_adv (B := T41.setTop (mkF m 126 #[.val (.int p1), .val (.ref b), .val (.int (p1 &&& (15 : Int32))), .unset] [(.int (15 : Int32)), (.int (p1 &&& (15 : Int32)))])) (fun t k => XS.bipush X41.here hx rfl (hb hby at_124) k) ?_
    refine own_adv (B := T41.setTop (mkF m 129 #[.val (.int p1), .val (.ref b), .val (.int (p1 &&& (15 : Int32))), .unset] [])) (fun t k => XS.icmpNo X41.here hx rfl (hb hby at_126) rfl (feq (by rw [c0]; decide)).1 k) ?_
    refine own_adv (B := T41.setTop (mkF m 130 #[.val (.int p1), .val (.ref b), .val (.int (p1 &&& (15 : Int32))), .unset] [(.int (1 : Int32))])) (fun t k => XS.iconst X41.here hx rfl (hb hby at_129) k) ?_
    refine own_adv (B := T41.setTop (mkF m 134 #[.val (.int p1), .val (.ref b), .val (.int (p1 &&& (15 : Int32))), .unset] [(.int (1 : Int32))])) (fun t k => XS.goto X41.here hx rfl (pc0 := 130) (pc' := 134) rfl (hb hby at_130) (by decide) (by decide) k) ?_
    refine own_adv (B := T41.setTop (mkF m 135 #[.val (.int p1), .val (.ref b), .val (.int (p1 &&& (15 : Int32))), .val (.int (1 : Int32))] [])) (fun t k => XS.istoreN X41.here hx rfl (hb hby at_134) rfl (l' := #[.val (.int p1), .val (.ref b), .val (.int (p1 &&& (15 : Int32))), .val (.int (1 : Int32))]) rfl k) ?_
    refine own_adv (B := T41.setTop (mkF m 136 #[.val (.int p1), .val (.ref b), .val (.int (p1 &&& (15 : Int32))), .val (.int (1 : Int32))] [(.ref b)])) (fun t k => XS.aloadN X41.here hx rfl (hb hby at_135) rfl rfl k) ?_
    refine own_adv (B := T41.setTop (mkF m 137 #[.val (.int p1), .val (.ref b), .val (.int (p1 &&& (15 : Int32))), .val (.int (1 : Int32))] [(.int (p1 &&& (15 : Int32))), (.ref b)])) (fun t k => XS.iloadN X41.here hx rfl (hb hby at_136) rfl k) ?_
    have hin : ¬ ((p1 &&& (15 : Int32)) < 0 ∨ cA.slots.size ≤ ((p1 &&& (15 : Int32))).toNatClampNeg) := inb_of SA ⟨by rw [c0]; decide, by rw [c0]; decide⟩
    have hat : cA.slots[((p1 &&& (15 : Int32))).toNatClampNeg]? = some (.ref w_STRING) := HA.at hin (by rw [c0]; rfl)
    refine own_adv (B := T41.setTop (mkF m 138 #[.val (.int p1), .val (.ref b), .val (.int (p1 &&& (15 : Int32))), .val (.int (1 : Int32))] [(.ref w_STRING)])) (fun t k => X41.aaload hx (j := (p1 &&& (15 : Int32))) (v := .ref w_STRING) ArA.1 (State.isArrayOf_alike hZ.alike ArA.2.1) rfl ArA.2.2 hin hat (g := (mkF m 137 #[.val (.int p1), .val (.ref b), .val (.int (p1 &&& (15 : Int32))), .val (.int (1 : Int32))] [(.int (p1 &&& (15 : Int32))), (.ref b)])) rfl rfl (hb hby at_137) _ k) ?_
    obtain ⟨cq42, kq42, q42a, q42b, q42c⟩ := isOf hZ rfl (E_STRING.ext K41)
    obtain ⟨_, _, ⟨T42, L42, k42, n42⟩, -, X42, ⟨Lc42, hQ42, l42, y42, z42⟩, st42⟩ := X41.virtualBack hx (y := (⟨"com/example/certain_policy/certainpolicy/DataType", "hasEquality", "()Z"⟩ : MethodName)) (z := (⟨"com/example/certain_policy/certainpolicy/DataType", "hasEquality", "()Z"⟩ : MethodName)) hown (mvT hZ (hw _ (List.mem_of_getElem? (i := 51) rfl))) (mvT hZ (hw _ (List.mem_of_getElem? (i := 52) rfl))) (notFace_of_selects (args := #[]) (mvT hZ (hw _ (List.mem_of_getElem? (i := 54) rfl)))) (mvT hZ (hw _ (List.mem_of_getElem? (i := 54) rfl))) (mvT hZ (hw _ (List.mem_of_getElem? (i := 53) rfl))) (by decide) (backOf (W := 0) (rm1 l Z a0 hw [] w_STRING w_IP_ADDRESS w_DNS_NAME (1 : Int32) T41.heap n0 (Nat.le_trans Z0 K41.1) (S_IP_ADDRESS.ext K41) (S_DNS_NAME.ext K41) (Or.inr (Or.inr ⟨(ne_exa E_STRING E_IP_ADDRESS (by decide)), (ne_exa E_STRING E_DNS_NAME (by decide)), rfl⟩))) hZ (hw _ (List.mem_of_getElem? (i := 55) rfl)) (hw _ (List.mem_of_getElem? (i := 3) rfl)) (by decide) (by decide)) q42a q42c (g := (mkF m 138 #[.val (.int p1), .val (.ref b), .val (.int (p1 &&& (15 : Int32))), .val (.int (1 : Int32))] [(.ref w_STRING)])) rfl (by rw [hml]; rfl) (Steps.refl _) (argsL := []) (rest := []) (lenOf own_pd___Z rfl) rfl (by show 2 * 0 + _ ≤ _; exact Nat.le_of_eq rfl) (hb hby at_138) (fun _ _ => ⟨rfl, rfl, (by decide : 1 + 0 ≤ _), (by decide : 16 + 0 ≤ _)⟩)
    dsimp only [Pt.U, Pt.locs, Pt.cells, Pt.slots] at X42 l42 y42 z42 st42 hQ42
    subst l42 y42 z42
    obtain ⟨rfl, N42q, e42⟩ := hQ42
    have N42 := Fr.app N41 N42q
    refine own_adv (B := T42.setTop (mkF m 141 #[.val (.int p1), .val (.ref b), .val (.int (p1 &&& (15 : Int32))), .val (.int (1 : Int32))] [(.int (1 : Int32))])) (fun t k => st42.trans k) ?_
    refine own_adv (B := T42.setTop (mkF m 142 #[.val (.int p1), .val (.ref b), .val (.int (p1 &&& (15 : Int32))), .val (.int (1 : Int32))] [(.int (1 : Int32)), (.int (1 : Int32))])) (fun t k => XS.iloadN X42.here hx rfl (hb hby at_141) rfl k) ?_
    refine own_adv (B := T42.setTop (mkF m 145 #[.val (.int p1), .val (.ref b), .val (.int (p1 &&& (15 : Int32))), .val (.int (1 : Int32))] [])) (fun t k => XS.icmpNo X42.here hx rfl (hb hby at_142) rfl (teq (rfl : (1 : Int32) = (1 : Int32))).2 k) ?_
    refine own_adv (B := T42.setTop (mkF m 146 #[.val (.int p1), .val (.ref b), .val (.int (p1 &&& (15 : Int32))), .val (.int (1 : Int32))] [(.int (1 : Int32))])) (fun t k => XS.iconst X42.here hx rfl (hb hby at_145) k) ?_
    refine own_adv (B := T42.setTop (mkF m 150 #[.val (.int p1), .val (.ref b), .val (.int (p1 &&& (15 : Int32))), .val (.int (1 : Int32))] [(.int (1 : Int32))])) (fun t k => XS.goto X42.here hx rfl (pc0 := 146) (pc' := 150) rfl (hb hby at_146) (by decide) (by decide) k) ?_
    obtain ⟨fs, hr, hrun, hended, hW, hsame⟩ := X42.leave (v := some (.int (1 : Int32))) (fun h => by rw [Bd.returns] at h; cases h)
    refine ⟨_, _, retN X42 hx (t := .boolean) Bd.returns (by simp) (hb hby at_150) hr, hrun, hended, _, _, rfl, ?_, ⟨_, rfl⟩, hW, hsame.mono (by decide) (by decide)⟩
    exact ⟨rfl, N42⟩
  · skip
    refine own_adv (B := T41.setTop (mkF m 123 #[.val (.int p1), .val (.ref b), .val (.int (p1 &&& (15 : Int32))), .unset] [])) (fun t k => XS.icmpNo X41.here hx rfl (hb hby at_120) rfl (feq (by rw [c1]; decide)).1 k) ?_
    refine own_adv (B := T41.setTop (mkF m 124 #[.val (.int p1), .val (.ref b), .val (.int (p1 &&& (15 : Int32))), .unset] [(.int (p1 &&& (15 : Int32)))])) (fun t k => XS.iloadN X41.here hx rfl (hb hby at_123) rfl k) ?_
    refine own_adv (B := T41.setTop (mkF m 126 #[.val (.int p1), .val (.ref b), .val (.int (p1 &&& (15 : Int32))), .unset] [(.int (15 : Int32)), (.int (p1 &&& (15 : Int32)))])) (fun t k => XS.bipush X41.here hx rfl (hb hby at_124) k) ?_
    refine own_adv (B := T41.setTop (mkF m 129 #[.val (.int p1), .val (.ref b), .val (.int (p1 &&& (15 : Int32))), .unset] [])) (fun t k => XS.icmpNo X41.here hx rfl (hb hby at_126) rfl (feq (by rw [c1]; decide)).1 k) ?_
    refine own_adv (B := T41.setTop (mkF m 130 #[.val (.int p1), .val (.ref b), .val (.int (p1 &&& (15 : Int32))), .unset] [(.int (1 : Int32))])) (fun t k => XS.iconst X41.here hx rfl (hb hby at_129) k) ?_
    refine own_adv (B := T41.setTop (mkF m 134 #[.val (.int p1), .val (.ref b), .val (.int (p1 &&& (15 : Int32))), .unset] [(.int (1 : Int32))])) (fun t k => XS.goto X41.here hx rfl (pc0 := 130) (pc' := 134) rfl (hb hby at_130) (by decide) (by decide) k) ?_
    refine own_adv (B := T41.setTop (mkF m 135 #[.val (.int p1), .val (.ref b), .val (.int (p1 &&& (15 : Int32))), .val (.int (1 : Int32))] [])) (fun t k => XS.istoreN X41.here hx rfl (hb hby at_134) rfl (l' := #[.val (.int p1), .val (.ref b), .val (.int (p1 &&& (15 : Int32))), .val (.int (1 : Int32))]) rfl k) ?_
    refine own_adv (B := T41.setTop (mkF m 136 #[.val (.int p1), .val (.ref b), .val (.int (p1 &&& (15 : Int32))), .val (.int (1 : Int32))] [(.ref b)])) (fun t k => XS.aloadN X41.here hx rfl (hb hby at_135) rfl rfl k) ?_
    refine own_adv (B := T41.setTop (mkF m 137 #[.val (.int p1), .val (.ref b), .val (.int (p1 &&& (15 : Int32))), .val (.int (1 : Int32))] [(.int (p1 &&& (15 : Int32))), (.ref b)])) (fun t k => XS.iloadN X41.here hx rfl (hb hby at_136) rfl k) ?_
    have hin : ¬ ((p1 &&& (15 : Int32)) < 0 ∨ cA.slots.size ≤ ((p1 &&& (15 : Int32))).toNatClampNeg) := inb_of SA ⟨by rw [c1]; decide, by rw [c1]; decide⟩
    have hat : cA.slots[((p1 &&& (15 : Int32))).toNatClampNeg]? = some (.ref w_BOOLEAN) := HA.at hin (by rw [c1]; rfl)
    refine own_adv (B := T41.setTop (mkF m 138 #[.val (.int p1), .val (.ref b), .val (.int (p1 &&& (15 : Int32))), .val (.int (1 : Int32))] [(.ref w_BOOLEAN)])) (fun t k => X41.aaload hx (j := (p1 &&& (15 : Int32))) (v := .ref w_BOOLEAN) ArA.1 (State.isArrayOf_alike hZ.alike ArA.2.1) rfl ArA.2.2 hin hat (g := (mkF m 137 #[.val (.int p1), .val (.ref b), .val (.int (p1 &&& (15 : Int32))), .val (.int (1 : Int32))] [(.int (p1 &&& (15 : Int32))), (.ref b)])) rfl rfl (hb hby at_137) _ k) ?_
    obtain ⟨cq43, kq43, q43a, q43b, q43c⟩ := isOf hZ rfl (E_BOOLEAN.ext K41)
    obtain ⟨_, _, ⟨T43, L43, k43, n43⟩, -, X43, ⟨Lc43, hQ43, l43, y43, z43⟩, st43⟩ := X41.virtualBack hx (y := (⟨"com/example/certain_policy/certainpolicy/DataType", "hasEquality", "()Z"⟩ : MethodName)) (z := (⟨"com/example/certain_policy/certainpolicy/DataType", "hasEquality", "()Z"⟩ : MethodName)) hown (mvT hZ (hw _ (List.mem_of_getElem? (i := 51) rfl))) (mvT hZ (hw _ (List.mem_of_getElem? (i := 52) rfl))) (notFace_of_selects (args := #[]) (mvT hZ (hw _ (List.mem_of_getElem? (i := 66) rfl)))) (mvT hZ (hw _ (List.mem_of_getElem? (i := 66) rfl))) (mvT hZ (hw _ (List.mem_of_getElem? (i := 53) rfl))) (by decide) (backOf (W := 0) (rm1 l Z a0 hw [] w_BOOLEAN w_IP_ADDRESS w_DNS_NAME (1 : Int32) T41.heap n0 (Nat.le_trans Z0 K41.1) (S_IP_ADDRESS.ext K41) (S_DNS_NAME.ext K41) (Or.inr (Or.inr ⟨(ne_exa E_BOOLEAN E_IP_ADDRESS (by decide)), (ne_exa E_BOOLEAN E_DNS_NAME (by decide)), rfl⟩))) hZ (hw _ (List.mem_of_getElem? (i := 55) rfl)) (hw _ (List.mem_of_getElem? (i := 3) rfl)) (by decide) (by decide)) q43a q43c (g := (mkF m 138 #[.val (.int p1), .val (.ref b), .val (.int (p1 &&& (15 : Int32))), .val (.int (1 : Int32))] [(.ref w_BOOLEAN)])) rfl (by rw [hml]; rfl) (Steps.refl _) (argsL := []) (rest := []) (lenOf own_pd___Z rfl) rfl (by show 2 * 0 + _ ≤ _; exact Nat.le_of_eq rfl) (hb hby at_138) (fun _ _ => ⟨rfl, rfl, (by decide : 1 + 0 ≤ _), (by decide : 16 + 0 ≤ _)⟩)
    dsimp only [Pt.U, Pt.locs, Pt.cells, Pt.slots] at X43 l43 y43 z43 st43 hQ43
    subst l43 y43 z43
    obtain ⟨rfl, N43q, e43⟩ := hQ43
    have N43 := Fr.app N41 N43q
    refine own_adv (B := T43.setTop (mkF m 141 #[.val (.int p1), .val (.ref b), .val (.int (p1 &&& (15 : Int32))), .val (.int (1 : Int32))] [(.int (1 : Int32))])) (fun t k => st43.trans k) ?_
    refine own_adv (B := T43.setTop (mkF m 142 #[.val (.int p1), .val (.ref b), .val (.int (p1 &&& (15 : Int32))), .val (.int (1 : Int32))] [(.int (1 : Int32)), (.int (1 : Int32))])) (fun t k => XS.iloadN X43.here hx rfl (hb hby at_141) rfl k) ?_
    refine own_adv (B := T43.setTop (mkF m 145 #[.val (.int p1), .val (.ref b), .val (.int (p1 &&& (15 : Int32))), .val (.int (1 : Int32))] [])) (fun t k => XS.icmpNo X43.here hx rfl (hb hby at_142) rfl (teq (rfl : (1 : Int32) = (1 : Int32))).2 k) ?_
    refine own_adv (B := T43.setTop (mkF m 146 #[.val (.int p1), .val (.ref b), .val (.int (p1 &&& (15 : Int32))), .val (.int (1 : Int32))] [(.int (1 : Int32))])) (fun t k => XS.iconst X43.here hx rfl (hb hby at_145) k) ?_
    refine own_adv (B := T43.setTop (mkF m 150 #[.val (.int p1), .val (.ref b), .val (.int (p1 &&& (15 : Int32))), .val (.int (1 : Int32))] [(.int (1 : Int32))])) (fun t k => XS.goto X43.here hx rfl (pc0 := 146) (pc' := 150) rfl (hb hby at_146) (by decide) (by decide) k) ?_
    obtain ⟨fs, hr, hrun, hended, hW, hsame⟩ := X43.leave (v := some (.int (1 : Int32))) (fun h => by rw [Bd.returns] at h; cases h)
    refine ⟨_, _, retN X43 hx (t := .boolean) Bd.returns (by simp) (hb hby at_150) hr, hrun, hended, _, _, rfl, ?_, ⟨_, rfl⟩, hW, hsame.mono (by decide) (by decide)⟩
    exact ⟨rfl, N43⟩
  · skip
    refine own_adv (B := T41.setTop (mkF m 123 #[.val (.int p1), .val (.ref b), .val (.int (p1 &&& (15 : Int32))), .unset] [])) (fun t k => XS.icmpNo X41.here hx rfl (hb hby at_120) rfl (feq (by rw [c2]; decide)).1 k) ?_
    refine own_adv (B := T41.setTop (mkF m 124 #[.val (.int p1), .val (.ref b), .val (.int (p1 &&& (15 : Int32))), .unset] [(.int (p1 &&& (15 : Int32)))])) (fun t k => XS.iloadN X41.here hx rfl (hb hby at_123) rfl k) ?_
    refine own_adv (B := T41.setTop (mkF m 126 #[.val (.int p1), .val (.ref b), .val (.int (p1 &&& (15 : Int32))), .unset] [(.int (15 : Int32)), (.int (p1 &&& (15 : Int32)))])) (fun t k => XS.bipush X41.here hx rfl (hb hby at_124) k) ?_
    refine own_adv (B := T41.setTop (mkF m 129 #[.val (.int p1), .val (.ref b), .val (.int (p1 &&& (15 : Int32))), .unset] [])) (fun t k => XS.icmpNo X41.here hx rfl (hb hby at_126) rfl (feq (by rw [c2]; decide)).1 k) ?_
    refine own_adv (B := T41.setTop (mkF m 130 #[.val (.int p1), .val (.ref b), .val (.int (p1 &&& (15 : Int32))), .unset] [(.int (1 : Int32))])) (fun t k => XS.iconst X41.here hx rfl (hb hby at_129) k) ?_
    refine own_adv (B := T41.setTop (mkF m 134 #[.val (.int p1), .val (.ref b), .val (.int (p1 &&& (15 : Int32))), .unset] [(.int (1 : Int32))])) (fun t k => XS.goto X41.here hx rfl (pc0 := 130) (pc' := 134) rfl (hb hby at_130) (by decide) (by decide) k) ?_
    refine own_adv (B := T41.setTop (mkF m 135 #[.val (.int p1), .val (.ref b), .val (.int (p1 &&& (15 : Int32))), .val (.int (1 : Int32))] [])) (fun t k => XS.istoreN X41.here hx rfl (hb hby at_134) rfl (l' := #[.val (.int p1), .val (.ref b), .val (.int (p1 &&& (15 : Int32))), .val (.int (1 : Int32))]) rfl k) ?_
    refine own_adv (B := T41.setTop (mkF m 136 #[.val (.int p1), .val (.ref b), .val (.int (p1 &&& (15 : Int32))), .val (.int (1 : Int32))] [(.ref b)])) (fun t k => XS.aloadN X41.here hx rfl (hb hby at_135) rfl rfl k) ?_
    refine own_adv (B := T41.setTop (mkF m 137 #[.val (.int p1), .val (.ref b), .val (.int (p1 &&& (15 : Int32))), .val (.int (1 : Int32))] [(.int (p1 &&& (15 : Int32))), (.ref b)])) (fun t k => XS.iloadN X41.here hx rfl (hb hby at_136) rfl k) ?_
    have hin : ¬ ((p1 &&& (15 : Int32)) < 0 ∨ cA.slots.size ≤ ((p1 &&& (15 : Int32))).toNatClampNeg) := inb_of SA ⟨by rw [c2]; decide, by rw [c2]; decide⟩
    have hat : cA.slots[((p1 &&& (15 : Int32))).toNatClampNeg]? = some (.ref w_INTEGER) := HA.at hin (by rw [c2]; rfl)
    refine own_adv (B := T41.setTop (mkF m 138 #[.val (.int p1), .val (.ref b), .val (.int (p1 &&& (15 : Int32))), .val (.int (1 : Int32))] [(.ref w_INTEGER)])) (fun t k => X41.aaload hx (j := (p1 &&& (15 : Int32))) (v := .ref w_INTEGER) ArA.1 (State.isArrayOf_alike hZ.alike ArA.2.1) rfl ArA.2.2 hin hat (g := (mkF m 137 #[.val (.int p1), .val (.ref b), .val (.int (p1 &&& (15 : Int32))), .val (.int (1 : Int32))] [(.int (p1 &&& (15 : Int32))), (.ref b)])) rfl rfl (hb hby at_137) _ k) ?_
    obtain ⟨cq44, kq44, q44a, q44b, q44c⟩ := isOf hZ rfl (E_INTEGER.ext K41)
    obtain ⟨_, _, ⟨T44, L44, k44, n44⟩, -, X44, ⟨Lc44, hQ44, l44, y44, z44⟩, st44⟩ := X41.virtualBack hx (y := (⟨"com/example/certain_policy/certainpolicy/DataType", "hasEquality", "()Z"⟩ : MethodName)) (z := (⟨"com/example/certain_policy/certainpolicy/DataType", "hasEquality", "()Z"⟩ : MethodName)) hown (mvT hZ (hw _ (List.mem_of_getElem? (i := 51) rfl))) (mvT hZ (hw _ (List.mem_of_getElem? (i := 52) rfl))) (notFace_of_selects (args := #[]) (mvT hZ (hw _ (List.mem_of_getElem? (i := 63) rfl)))) (mvT hZ (hw _ (List.mem_of_getElem? (i := 63) rfl))) (mvT hZ (hw _ (List.mem_of_getElem? (i := 53) rfl))) (by decide) (backOf (W := 0) (rm1 l Z a0 hw [] w_INTEGER w_IP_ADDRESS w_DNS_NAME (1 : Int32) T41.heap n0 (Nat.le_trans Z0 K41.1) (S_IP_ADDRESS.ext K41) (S_DNS_NAME.ext K41) (Or.inr (Or.inr ⟨(ne_exa E_INTEGER E_IP_ADDRESS (by decide)), (ne_exa E_INTEGER E_DNS_NAME (by decide)), rfl⟩))) hZ (hw _ (List.mem_of_getElem? (i := 55) rfl)) (hw _ (List.mem_of_getElem? (i := 3) rfl)) (by decide) (by decide)) q44a q44c (g := (mkF m 138 #[.val (.int p1), .val (.ref b), .val (.int (p1 &&& (15 : Int32))), .val (.int (1 : Int32))] [(.ref w_INTEGER)])) rfl (by rw [hml]; rfl) (Steps.refl _) (argsL := []) (rest := []) (lenOf own_pd___Z rfl) rfl (by show 2 * 0 + _ ≤ _; exact Nat.le_of_eq rfl) (hb hby at_138) (fun _ _ => ⟨rfl, rfl, (by decide : 1 + 0 ≤ _), (by decide : 16 + 0 ≤ _)⟩)
    dsimp only [Pt.U, Pt.locs, Pt.cells, Pt.slots] at X44 l44 y44 z44 st44 hQ44
    subst l44 y44 z44
    obtain ⟨rfl, N44q, e44⟩ := hQ44
    have N44 := Fr.app N41 N44q
    refine own_adv (B := T44.setTop (mkF m 141 #[.val (.int p1), .val (.ref b), .val (.int (p1 &&& (15 : Int32))), .val (.int (1 : Int32))] [(.int (1 : Int32))])) (fun t k => st44.trans k) ?_
    refine own_adv (B := T44.setTop (mkF m 142 #[.val (.int p1), .val (.ref b), .val (.int (p1 &&& (15 : Int32))), .val (.int (1 : Int32))] [(.int (1 : Int32)), (.int (1 : Int32))])) (fun t k => XS.iloadN X44.here hx rfl (hb hby at_141) rfl k) ?_
    refine own_adv (B := T44.setTop (mkF m 145 #[.val (.int p1), .val (.ref b), .val (.int (p1 &&& (15 : Int32))), .val (.int (1 : Int32))] [])) (fun t k => XS.icmpNo X44.here hx rfl (hb hby at_142) rfl (teq (rfl : (1 : Int32) = (1 : Int32))).2 k) ?_
    refine own_adv (B := T44.setTop (mkF m 146 #[.val (.int p1), .val (.ref b), .val (.int (p1 &&& (15 : Int32))), .val (.int (1 : Int32))] [(.int (1 : Int32))])) (fun t k => XS.iconst X44.here hx rfl (hb hby at_145) k) ?_
    refine own_adv (B := T44.setTop (mkF m 150 #[.val (.int p1), .val (.ref b), .val (.int (p1 &&& (15 : Int32))), .val (.int (1 : Int32))] [(.int (1 : Int32))])) (fun t k => XS.goto X44.here hx rfl (pc0 := 146) (pc' := 150) rfl (hb hby at_146) (by decide) (by decide) k) ?_
    obtain ⟨fs, hr, hrun, hended, hW, hsame⟩ := X44.leave (v := some (.int (1 : Int32))) (fun h => by rw [Bd.returns] at h; cases h)
    refine ⟨_, _, retN X44 hx (t := .boolean) Bd.returns (by simp) (hb hby at_150) hr, hrun, hended, _, _, rfl, ?_, ⟨_, rfl⟩, hW, hsame.mono (by decide) (by decide)⟩
    exact ⟨rfl, N44⟩
  · skip
    refine own_adv (B := T41.setTop (mkF m 123 #[.val (.int p1), .val (.ref b), .val (.int (p1 &&& (15 : Int32))), .unset] [])) (fun t k => XS.icmpNo X41.here hx rfl (hb hby at_120) rfl (feq (by rw [c3]; decide)).1 k) ?_
    refine own_adv (B := T41.setTop (mkF m 124 #[.val (.int p1), .val (.ref b), .val (.int (p1 &&& (15 : Int32))), .unset] [(.int (p1 &&& (15 : Int32)))])) (fun t k => XS.iloadN X41.here hx rfl (hb hby at_123) rfl k) ?_
    refine own_adv (B := T41.setTop (mkF m 126 #[.val (.int p1), .val (.ref b), .val (.int (p1 &&& (15 : Int32))), .unset] [(.int (15 : Int32)), (.int (p1 &&& (15 : Int32)))])) (fun t k => XS.bipush X41.here hx rfl (hb hby at_124) k) ?_
    refine own_adv (B := T41.setTop (mkF m 129 #[.val (.int p1), .val (.ref b), .val (.int (p1 &&& (15 : Int32))), .unset] [])) (fun t k => XS.icmpNo X41.here hx rfl (hb hby at_126) rfl (feq (by rw [c3]; decide)).1 k) ?_
    refine own_adv (B := T41.setTop (mkF m 130 #[.val (.int p1), .val (.ref b), .val (.int (p1 &&& (15 : Int32))), .unset] [(.int (1 : Int32))])) (fun t k => XS.iconst X41.here hx rfl (hb hby at_129) k) ?_
    refine own_adv (B := T41.setTop (mkF m 134 #[.val (.int p1), .val (.ref b), .val (.int (p1 &&& (15 : Int32))), .unset] [(.int (1 : Int32))])) (fun t k => XS.goto X41.here hx rfl (pc0 := 130) (pc' := 134) rfl (hb hby at_130) (by decide) (by decide) k) ?_
    refine own_adv (B := T41.setTop (mkF m 135 #[.val (.int p1), .val (.ref b), .val (.int (p1 &&& (15 : Int32))), .val (.int (1 : Int32))] [])) (fun t k => XS.istoreN X41.here hx rfl (hb hby at_134) rfl (l' := #[.val (.int p1), .val (.ref b), .val (.int (p1 &&& (15 : Int32))), .val (.int (1 : Int32))]) rfl k) ?_
    refine own_adv (B := T41.setTop (mkF m 136 #[.val (.int p1), .val (.ref b), .val (.int (p1 &&& (15 : Int32))), .val (.int (1 : Int32))] [(.ref b)])) (fun t k => XS.aloadN X41.here hx rfl (hb hby at_135) rfl rfl k) ?_
    refine own_adv (B := T41.setTop (mkF m 137 #[.val (.int p1), .val (.ref b), .val (.int (p1 &&& (15 : Int32))), .val (.int (1 : Int32))] [(.int (p1 &&& (15 : Int32))), (.ref b)])) (fun t k => XS.iloadN X41.here hx rfl (hb hby at_136) rfl k) ?_
    have hin : ¬ ((p1 &&& (15 : Int32)) < 0 ∨ cA.slots.size ≤ ((p1 &&& (15 : Int32))).toNatClampNeg) := inb_of SA ⟨by rw [c3]; decide, by rw [c3]; decide⟩
    have hat : cA.slots[((p1 &&& (15 : Int32))).toNatClampNeg]? = some (.ref w_DOUBLE) := HA.at hin (by rw [c3]; rfl)
    refine own_adv (B := T41.setTop (mkF m 138 #[.val (.int p1), .val (.ref b), .val (.int (p1 &&& (15 : Int32))), .val (.int (1 : Int32))] [(.ref w_DOUBLE)])) (fun t k => X41.aaload hx (j := (p1 &&& (15 : Int32))) (v := .ref w_DOUBLE) ArA.1 (State.isArrayOf_alike hZ.alike ArA.2.1) rfl ArA.2.2 hin hat (g := (mkF m 137 #[.val (.int p1), .val (.ref b), .val (.int (p1 &&& (15 : Int32))), .val (.int (1 : Int32))] [(.int (p1 &&& (15 : Int32))), (.ref b)])) rfl rfl (hb hby at_137) _ k) ?_
    obtain ⟨cq45, kq45, q45a, q45b, q45c⟩ := isOf hZ rfl (E_DOUBLE.ext K41)
    obtain ⟨_, _, ⟨T45, L45, k45, n45⟩, -, X45, ⟨Lc45, hQ45, l45, y45, z45⟩, st45⟩ := X41.virtualBack hx (y := (⟨"com/example/certain_policy/certainpolicy/DataType", "hasEquality", "()Z"⟩ : MethodName)) (z := (⟨"com/example/certain_policy/certainpolicy/DataType", "hasEquality", "()Z"⟩ : MethodName)) hown (mvT hZ (hw _ (List.mem_of_getElem? (i := 51) rfl))) (mvT hZ (hw _ (List.mem_of_getElem? (i := 52) rfl))) (notFace_of_selects (args := #[]) (mvT hZ (hw _ (List.mem_of_getElem? (i := 58) rfl)))) (mvT hZ (hw _ (List.mem_of_getElem? (i := 58) rfl))) (mvT hZ (hw _ (List.mem_of_getElem? (i := 53) rfl))) (by decide) (backOf (W := 0) (rm1 l Z a0 hw [] w_DOUBLE w_IP_ADDRESS w_DNS_NAME (1 : Int32) T41.heap n0 (Nat.le_trans Z0 K41.1) (S_IP_ADDRESS.ext K41) (S_DNS_NAME.ext K41) (Or.inr (Or.inr ⟨(ne_exa E_DOUBLE E_IP_ADDRESS (by decide)), (ne_exa E_DOUBLE E_DNS_NAME (by decide)), rfl⟩))) hZ (hw _ (List.mem_of_getElem? (i := 55) rfl)) (hw _ (List.mem_of_getElem? (i := 3) rfl)) (by decide) (by decide)) q45a q45c (g := (mkF m 138 #[.val (.int p1), .val (.ref b), .val (.int (p1 &&& (15 : Int32))), .val (.int (1 : Int32))] [(.ref w_DOUBLE)])) rfl (by rw [hml]; rfl) (Steps.refl _) (argsL := []) (rest := []) (lenOf own_pd___Z rfl) rfl (by show 2 * 0 + _ ≤ _; exact Nat.le_of_eq rfl) (hb hby at_138) (fun _ _ => ⟨rfl, rfl, (by decide : 1 + 0 ≤ _), (by decide : 16 + 0 ≤ _)⟩)
    dsimp only [Pt.U, Pt.locs, Pt.cells, Pt.slots] at X45 l45 y45 z45 st45 hQ45
    subst l45 y45 z45
    obtain ⟨rfl, N45q, e45⟩ := hQ45
    have N45 := Fr.app N41 N45q
    refine own_adv (B := T45.setTop (mkF m 141 #[.val (.int p1), .val (.ref b), .val (.int (p1 &&& (15 : Int32))), .val (.int (1 : Int32))] [(.int (1 : Int32))])) (fun t k => st45.trans k) ?_
    refine own_adv (B := T45.setTop (mkF m 142 #[.val (.int p1), .val (.ref b), .val (.int (p1 &&& (15 : Int32))), .val (.int (1 : Int32))] [(.int (1 : Int32)), (.int (1 : Int32))])) (fun t k => XS.iloadN X45.here hx rfl (hb hby at_141) rfl k) ?_
    refine own_adv (B := T45.setTop (mkF m 145 #[.val (.int p1), .val (.ref b), .val (.int (p1 &&& (15 : Int32))), .val (.int (1 : Int32))] [])) (fun t k => XS.icmpNo X45.here hx rfl (hb hby at_142) rfl (teq (rfl : (1 : Int32) = (1 : Int32))).2 k) ?_
    refine own_adv (B := T45.setTop (mkF m 146 #[.val (.int p1), .val (.ref b), .val (.int (p1 &&& (15 : Int32))), .val (.int (1 : Int32))] [(.int (1 : Int32))])) (fun t k => XS.iconst X45.here hx rfl (hb hby at_145) k) ?_
    refine own_adv (B := T45.setTop (mkF m 150 #[.val (.int p1), .val (.ref b), .val (.int (p1 &&& (15 : Int32))), .val (.int (1 : Int32))] [(.int (1 : Int32))])) (fun t k => XS.goto X45.here hx rfl (pc0 := 146) (pc' := 150) rfl (hb hby at_146) (by decide) (by decide) k) ?_
    obtain ⟨fs, hr, hrun, hended, hW, hsame⟩ := X45.leave (v := some (.int (1 : Int32))) (fun h => by rw [Bd.returns] at h; cases h)
    refine ⟨_, _, retN X45 hx (t := .boolean) Bd.returns (by simp) (hb hby at_150) hr, hrun, hended, _, _, rfl, ?_, ⟨_, rfl⟩, hW, hsame.mono (by decide) (by decide)⟩
    exact ⟨rfl, N45⟩
  · skip
    refine own_adv (B := T41.setTop (mkF m 123 #[.val (.int p1), .val (.ref b), .val (.int (p1 &&& (15 : Int32))), .unset] [])) (fun t k => XS.icmpNo X41.here hx rfl (hb hby at_120) rfl (feq (by rw [c4]; decide)).1 k) ?_
    refine own_adv (B := T41.setTop (mkF m 124 #[.val (.int p1), .val (.ref b), .val (.int (p1 &&& (15 : Int32))), .unset] [(.int (p1 &&& (15 : Int32)))])) (fun t k => XS.iloadN X41.here hx rfl (hb hby at_123) rfl k) ?_
    refine own_adv (B := T41.setTop (mkF m 126 #[.val (.int p1), .val (.ref b), .val (.int (p1 &&& (15 : Int32))), .unset] [(.int (15 : Int32)), (.int (p1 &&& (15 : Int32)))])) (fun t k => XS.bipush X41.here hx rfl (hb hby at_124) k) ?_
    refine own_adv (B := T41.setTop (mkF m 129 #[.val (.int p1), .val (.ref b), .val (.int (p1 &&& (15 : Int32))), .unset] [])) (fun t k => XS.icmpNo X41.here hx rfl (hb hby at_126) rfl (feq (by rw [c4]; decide)).1 k) ?_
    refine own_adv (B := T41.setTop (mkF m 130 #[.val (.int p1), .val (.ref b), .val (.int (p1 &&& (15 : Int32))), .unset] [(.int (1 : Int32))])) (fun t k => XS.iconst X41.here hx rfl (hb hby at_129) k) ?_
    refine own_adv (B := T41.setTop (mkF m 134 #[.val (.int p1), .val (.ref b), .val (.int (p1 &&& (15 : Int32))), .unset] [(.int (1 : Int32))])) (fun t k => XS.goto X41.here hx rfl (pc0 := 130) (pc' := 134) rfl (hb hby at_130) (by decide) (by decide) k) ?_
    refine own_adv (B := T41.setTop (mkF m 135 #[.val (.int p1), .val (.ref b), .val (.int (p1 &&& (15 : Int32))), .val (.int (1 : Int32))] [])) (fun t k => XS.istoreN X41.here hx rfl (hb hby at_134) rfl (l' := #[.val (.int p1), .val (.ref b), .val (.int (p1 &&& (15 : Int32))), .val (.int (1 : Int32))]) rfl k) ?_
    refine own_adv (B := T41.setTop (mkF m 136 #[.val (.int p1), .val (.ref b), .val (.int (p1 &&& (15 : Int32))), .val (.int (1 : Int32))] [(.ref b)])) (fun t k => XS.aloadN X41.here hx rfl (hb hby at_135) rfl rfl k) ?_
    refine own_adv (B := T41.setTop (mkF m 137 #[.val (.int p1), .val (.ref b), .val (.int (p1 &&& (15 : Int32))), .val (.int (1 : Int32))] [(.int (p1 &&& (15 : Int32))), (.ref b)])) (fun t k => XS.iloadN X41.here hx rfl (hb hby at_136) rfl k) ?_
    have hin : ¬ ((p1 &&& (15 : Int32)) < 0 ∨ cA.slots.size ≤ ((p1 &&& (15 : Int32))).toNatClampNeg) := inb_of SA ⟨by rw [c4]; decide, by rw [c4]; decide⟩
    have hat : cA.slots[((p1 &&& (15 : Int32))).toNatClampNeg]? = some (.ref w_DATE) := HA.at hin (by rw [c4]; rfl)
    refine own_adv (B := T41.setTop (mkF m 138 #[.val (.int p1), .val (.ref b), .val (.int (p1 &&& (15 : Int32))), .val (.int (1 : Int32))] [(.ref w_DATE)])) (fun t k => X41.aaload hx (j := (p1 &&& (15 : Int32))) (v := .ref w_DATE) ArA.1 (State.isArrayOf_alike hZ.alike ArA.2.1) rfl ArA.2.2 hin hat (g := (mkF m 137 #[.val (.int p1), .val (.ref b), .val (.int (p1 &&& (15 : Int32))), .val (.int (1 : Int32))] [(.int (p1 &&& (15 : Int32))), (.ref b)])) rfl rfl (hb hby at_137) _ k) ?_
    obtain ⟨cq46, kq46, q46a, q46b, q46c⟩ := isOf hZ rfl (E_DATE.ext K41)
    obtain ⟨_, _, ⟨T46, L46, k46, n46⟩, -, X46, ⟨Lc46, hQ46, l46, y46, z46⟩, st46⟩ := X41.virtualBack hx (y := (⟨"com/example/certain_policy/certainpolicy/DataType", "hasEquality", "()Z"⟩ : MethodName)) (z := (⟨"com/example/certain_policy/certainpolicy/DataType", "hasEquality", "()Z"⟩ : MethodName)) hown (mvT hZ (hw _ (List.mem_of_getElem? (i := 51) rfl))) (mvT hZ (hw _ (List.mem_of_getElem? (i := 52) rfl))) (notFace_of_selects (args := #[]) (mvT hZ (hw _ (List.mem_of_getElem? (i := 67) rfl)))) (mvT hZ (hw _ (List.mem_of_getElem? (i := 67) rfl))) (mvT hZ (hw _ (List.mem_of_getElem? (i := 53) rfl))) (by decide) (backOf (W := 0) (rm1 l Z a0 hw [] w_DATE w_IP_ADDRESS w_DNS_NAME (1 : Int32) T41.heap n0 (Nat.le_trans Z0 K41.1) (S_IP_ADDRESS.ext K41) (S_DNS_NAME.ext K41) (Or.inr (Or.inr ⟨(ne_exa E_DATE E_IP_ADDRESS (by decide)), (ne_exa E_DATE E_DNS_NAME (by decide)), rfl⟩))) hZ (hw _ (List.mem_of_getElem? (i := 55) rfl)) (hw _ (List.mem_of_getElem? (i := 3) rfl)) (by decide) (by decide)) q46a q46c (g := (mkF m 138 #[.val (.int p1), .val (.ref b), .val (.int (p1 &&& (15 : Int32))), .val (.int (1 : Int32))] [(.ref w_DATE)])) rfl (by rw [hml]; rfl) (Steps.refl _) (argsL := []) (rest := []) (lenOf own_pd___Z rfl) rfl (by show 2 * 0 + _ ≤ _; exact Nat.le_of_eq rfl) (hb hby at_138) (fun _ _ => ⟨rfl, rfl, (by decide : 1 + 0 ≤ _), (by decide : 16 + 0 ≤ _)⟩)
    dsimp only [Pt.U, Pt.locs, Pt.cells, Pt.slots] at X46 l46 y46 z46 st46 hQ46
    subst l46 y46 z46
    obtain ⟨rfl, N46q, e46⟩ := hQ46
    have N46 := Fr.app N41 N46q
    refine own_adv (B := T46.setTop (mkF m 141 #[.val (.int p1), .val (.ref b), .val (.int (p1 &&& (15 : Int32))), .val (.int (1 : Int32))] [(.int (1 : Int32))])) (fun t k => st46.trans k) ?_
    refine own_adv (B := T46.setTop (mkF m 142 #[.val (.int p1), .val (.ref b), .val (.int (p1 &&& (15 : Int32))), .val (.int (1 : Int32))] [(.int (1 : Int32)), (.int (1 : Int32))])) (fun t k => XS.iloadN X46.here hx rfl (hb hby at_141) rfl k) ?_
    refine own_adv (B := T46.setTop (mkF m 145 #[.val (.int p1), .val (.ref b), .val (.int (p1 &&& (15 : Int32))), .val (.int (1 : Int32))] [])) (fun t k => XS.icmpNo X46.here hx rfl (hb hby at_142) rfl (teq (rfl : (1 : Int32) = (1 : Int32))).2 k) ?_
    refine own_adv (B := T46.setTop (mkF m 146 #[.val (.int p1), .val (.ref b), .val (.int (p1 &&& (15 : Int32))), .val (.int (1 : Int32))] [(.int (1 : Int32))])) (fun t k => XS.iconst X46.here hx rfl (hb hby at_145) k) ?_
    refine own_adv (B := T46.setTop (mkF m 150 #[.val (.int p1), .val (.ref b), .val (.int (p1 &&& (15 : Int32))), .val (.int (1 : Int32))] [(.int (1 : Int32))])) (fun t k => XS.goto X46.here hx rfl (pc0 := 146) (pc' := 150) rfl (hb hby at_146) (by decide) (by decide) k) ?_
    obtain ⟨fs, hr, hrun, hended, hW, hsame⟩ := X46.leave (v := some (.int (1 : Int32))) (fun h => by rw [Bd.returns] at h; cases h)
    refine ⟨_, _, retN X46 hx (t := .boolean) Bd.returns (by simp) (hb hby at_150) hr, hrun, hended, _, _, rfl, ?_, ⟨_, rfl⟩, hW, hsame.mono (by decide) (by decide)⟩
    exact ⟨rfl, N46⟩
  · skip
    refine own_adv (B := T41.setTop (mkF m 123 #[.val (.int p1), .val (.ref b), .val (.int (p1 &&& (15 : Int32))), .unset] [])) (fun t k => XS.icmpNo X41.here hx rfl (hb hby at_120) rfl (feq (by rw [c5]; decide)).1 k) ?_
    refine own_adv (B := T41.setTop (mkF m 124 #[.val (.int p1), .val (.ref b), .val (.int (p1 &&& (15 : Int32))), .unset] [(.int (p1 &&& (15 : Int32)))])) (fun t k => XS.iloadN X41.here hx rfl (hb hby at_123) rfl k) ?_
    refine own_adv (B := T41.setTop (mkF m 126 #[.val (.int p1), .val (.ref b), .val (.int (p1 &&& (15 : Int32))), .unset] [(.int (15 : Int32)), (.int (p1 &&& (15 : Int32)))])) (fun t k => XS.bipush X41.here hx rfl (hb hby at_124) k) ?_
    refine own_adv (B := T41.setTop (mkF m 129 #[.val (.int p1), .val (.ref b), .val (.int (p1 &&& (15 : Int32))), .unset] [])) (fun t k => XS.icmpNo X41.here hx rfl (hb hby at_126) rfl (feq (by rw [c5]; decide)).1 k) ?_
    refine own_adv (B := T41.setTop (mkF m 130 #[.val (.int p1), .val (.ref b), .val (.int (p1 &&& (15 : Int32))), .unset] [(.int (1 : Int32))])) (fun t k => XS.iconst X41.here hx rfl (hb hby at_129) k) ?_
    refine own_adv (B := T41.setTop (mkF m 134 #[.val (.int p1), .val (.ref b), .val (.int (p1 &&& (15 : Int32))), .unset] [(.int (1 : Int32))])) (fun t k => XS.goto X41.here hx rfl (pc0 := 130) (pc' := 134) rfl (hb hby at_130) (by decide) (by decide) k) ?_
    refine own_adv (B := T41.setTop (mkF m 135 #[.val (.int p1), .val (.ref b), .val (.int (p1 &&& (15 : Int32))), .val (.int (1 : Int32))] [])) (fun t k => XS.istoreN X41.here hx rfl (hb hby at_134) rfl (l' := #[.val (.int p1), .val (.ref b), .val (.int (p1 &&& (15 : Int32))), .val (.int (1 : Int32))]) rfl k) ?_
    refine own_adv (B := T41.setTop (mkF m 136 #[.val (.int p1), .val (.ref b), .val (.int (p1 &&& (15 : Int32))), .val (.int (1 : Int32))] [(.ref b)])) (fun t k => XS.aloadN X41.here hx rfl (hb hby at_135) rfl rfl k) ?_
    refine own_adv (B := T41.setTop (mkF m 137 #[.val (.int p1), .val (.ref b), .val (.int (p1 &&& (15 : Int32))), .val (.int (1 : Int32))] [(.int (p1 &&& (15 : Int32))), (.ref b)])) (fun t k => XS.iloadN X41.here hx rfl (hb hby at_136) rfl k) ?_
    have hin : ¬ ((p1 &&& (15 : Int32)) < 0 ∨ cA.slots.size ≤ ((p1 &&& (15 : Int32))).toNatClampNeg) := inb_of SA ⟨by rw [c5]; decide, by rw [c5]; decide⟩
    have hat : cA.slots[((p1 &&& (15 : Int32))).toNatClampNeg]? = some (.ref w_TIME) := HA.at hin (by rw [c5]; rfl)
    refine own_adv (B := T41.setTop (mkF m 138 #[.val (.int p1), .val (.ref b), .val (.int (p1 &&& (15 : Int32))), .val (.int (1 : Int32))] [(.ref w_TIME)])) (fun t k => X41.aaload hx (j := (p1 &&& (15 : Int32))) (v := .ref w_TIME) ArA.1 (State.isArrayOf_alike hZ.alike ArA.2.1) rfl ArA.2.2 hin hat (g := (mkF m 137 #[.val (.int p1), .val (.ref b), .val (.int (p1 &&& (15 : Int32))), .val (.int (1 : Int32))] [(.int (p1 &&& (15 : Int32))), (.ref b)])) rfl rfl (hb hby at_137) _ k) ?_
    obtain ⟨cq47, kq47, q47a, q47b, q47c⟩ := isOf hZ rfl (E_TIME.ext K41)
    obtain ⟨_, _, ⟨T47, L47, k47, n47⟩, -, X47, ⟨Lc47, hQ47, l47, y47, z47⟩, st47⟩ := X41.virtualBack hx (y := (⟨"com/example/certain_policy/certainpolicy/DataType", "hasEquality", "()Z"⟩ : MethodName)) (z := (⟨"com/example/certain_policy/certainpolicy/DataType", "hasEquality", "()Z"⟩ : MethodName)) hown (mvT hZ (hw _ (List.mem_of_getElem? (i := 51) rfl))) (mvT hZ (hw _ (List.mem_of_getElem? (i := 52) rfl))) (notFace_of_selects (args := #[]) (mvT hZ (hw _ (List.mem_of_getElem? (i := 72) rfl)))) (mvT hZ (hw _ (List.mem_of_getElem? (i := 72) rfl))) (mvT hZ (hw _ (List.mem_of_getElem? (i := 53) rfl))) (by decide) (backOf (W := 0) (rm1 l Z a0 hw [] w_TIME w_IP_ADDRESS w_DNS_NAME (1 : Int32) T41.heap n0 (Nat.le_trans Z0 K41.1) (S_IP_ADDRESS.ext K41) (S_DNS_NAME.ext K41) (Or.inr (Or.inr ⟨(ne_exa E_TIME E_IP_ADDRESS (by decide)), (ne_exa E_TIME E_DNS_NAME (by decide)), rfl⟩))) hZ (hw _ (List.mem_of_getElem? (i := 55) rfl)) (hw _ (List.mem_of_getElem? (i := 3) rfl)) (by decide) (by decide)) q47a q47c (g := (mkF m 138 #[.val (.int p1), .val (.ref b), .val (.int (p1 &&& (15 : Int32))), .val (.int (1 : Int32))] [(.ref w_TIME)])) rfl (by rw [hml]; rfl) (Steps.refl _) (argsL := []) (rest := []) (lenOf own_pd___Z rfl) rfl (by show 2 * 0 + _ ≤ _; exact Nat.le_of_eq rfl) (hb hby at_138) (fun _ _ => ⟨rfl, rfl, (by decide : 1 + 0 ≤ _), (by decide : 16 + 0 ≤ _)⟩)
    dsimp only [Pt.U, Pt.locs, Pt.cells, Pt.slots] at X47 l47 y47 z47 st47 hQ47
    subst l47 y47 z47
    obtain ⟨rfl, N47q, e47⟩ := hQ47
    have N47 := Fr.app N41 N47q
    refine own_adv (B := T47.setTop (mkF m 141 #[.val (.int p1), .val (.ref b), .val (.int (p1 &&& (15 : Int32))), .val (.int (1 : Int32))] [(.int (1 : Int32))])) (fun t k => st47.trans k) ?_
    refine own_adv (B := T47.setTop (mkF m 142 #[.val (.int p1), .val (.ref b), .val (.int (p1 &&& (15 : Int32))), .val (.int (1 : Int32))] [(.int (1 : Int32)), (.int (1 : Int32))])) (fun t k => XS.iloadN X47.here hx rfl (hb hby at_141) rfl k) ?_
    refine own_adv (B := T47.setTop (mkF m 145 #[.val (.int p1), .val (.ref b), .val (.int (p1 &&& (15 : Int32))), .val (.int (1 : Int32))] [])) (fun t k => XS.icmpNo X47.here hx rfl (hb hby at_142) rfl (teq (rfl : (1 : Int32) = (1 : Int32))).2 k) ?_
    refine own_adv (B := T47.setTop (mkF m 146 #[.val (.int p1), .val (.ref b), .val (.int (p1 &&& (15 : Int32))), .val (.int (1 : Int32))] [(.int (1 : Int32))])) (fun t k => XS.iconst X47.here hx rfl (hb hby at_145) k) ?_
    refine own_adv (B := T47.setTop (mkF m 150 #[.val (.int p1), .val (.ref b), .val (.int (p1 &&& (15 : Int32))), .val (.int (1 : Int32))] [(.int (1 : Int32))])) (fun t k => XS.goto X47.here hx rfl (pc0 := 146) (pc' := 150) rfl (hb hby at_146) (by decide) (by decide) k) ?_
    obtain ⟨fs, hr, hrun, hended, hW, hsame⟩ := X47.leave (v := some (.int (1 : Int32))) (fun h => by rw [Bd.returns] at h; cases h)
    refine ⟨_, _, retN X47 hx (t := .boolean) Bd.returns (by simp) (hb hby at_150) hr, hrun, hended, _, _, rfl, ?_, ⟨_, rfl⟩, hW, hsame.mono (by decide) (by decide)⟩
    exact ⟨rfl, N47⟩
  · skip
    refine own_adv (B := T41.setTop (mkF m 123 #[.val (.int p1), .val (.ref b), .val (.int (p1 &&& (15 : Int32))), .unset] [])) (fun t k => XS.icmpNo X41.here hx rfl (hb hby at_120) rfl (feq (by rw [c6]; decide)).1 k) ?_
    refine own_adv (B := T41.setTop (mkF m 124 #[.val (.int p1), .val (.ref b), .val (.int (p1 &&& (15 : Int32))), .unset] [(.int (p1 &&& (15 : Int32)))])) (fun t k => XS.iloadN X41.here hx rfl (hb hby at_123) rfl k) ?_
    refine own_adv (B := T41.setTop (mkF m 126 #[.val (.int p1), .val (.ref b), .val (.int (p1 &&& (15 : Int32))), .unset] [(.int (15 : Int32)), (.int (p1 &&& (15 : Int32)))])) (fun t k => XS.bipush X41.here hx rfl (hb hby at_124) k) ?_
    refine own_adv (B := T41.setTop (mkF m 129 #[.val (.int p1), .val (.ref b), .val (.int (p1 &&& (15 : Int32))), .unset] [])) (fun t k => XS.icmpNo X41.here hx rfl (hb hby at_126) rfl (feq (by rw [c6]; decide)).1 k) ?_
    refine own_adv (B := T41.setTop (mkF m 130 #[.val (.int p1), .val (.ref b), .val (.int (p1 &&& (15 : Int32))), .unset] [(.int (1 : Int32))])) (fun t k => XS.iconst X41.here hx rfl (hb hby at_129) k) ?_
    refine own_adv (B := T41.setTop (mkF m 134 #[.val (.int p1), .val (.ref b), .val (.int (p1 &&& (15 : Int32))), .unset] [(.int (1 : Int32))])) (fun t k => XS.goto X41.here hx rfl (pc0 := 130) (pc' := 134) rfl (hb hby at_130) (by decide) (by decide) k) ?_
    refine own_adv (B := T41.setTop (mkF m 135 #[.val (.int p1), .val (.ref b), .val (.int (p1 &&& (15 : Int32))), .val (.int (1 : Int32))] [])) (fun t k => XS.istoreN X41.here hx rfl (hb hby at_134) rfl (l' := #[.val (.int p1), .val (.ref b), .val (.int (p1 &&& (15 : Int32))), .val (.int (1 : Int32))]) rfl k) ?_
    refine own_adv (B := T41.setTop (mkF m 136 #[.val (.int p1), .val (.ref b), .val (.int (p1 &&& (15 : Int32))), .val (.int (1 : Int32))] [(.ref b)])) (fun t k => XS.aloadN X41.here hx rfl (hb hby at_135) rfl rfl k) ?_
    refine own_adv (B := T41.setTop (mkF m 137 #[.val (.int p1), .val (.ref b), .val (.int (p1 &&& (15 : Int32))), .val (.int (1 : Int32))] [(.int (p1 &&& (15 : Int32))), (.ref b)])) (fun t k => XS.iloadN X41.here hx rfl (hb hby at_136) rfl k) ?_
    have hin : ¬ ((p1 &&& (15 : Int32)) < 0 ∨ cA.slots.size ≤ ((p1 &&& (15 : Int32))).toNatClampNeg) := inb_of SA ⟨by rw [c6]; decide, by rw [c6]; decide⟩
    have hat : cA.slots[((p1 &&& (15 : Int32))).toNatClampNeg]? = some (.ref w_DATE_TIME) := HA.at hin (by rw [c6]; rfl)
    refine own_adv (B := T41.setTop (mkF m 138 #[.val (.int p1), .val (.ref b), .val (.int (p1 &&& (15 : Int32))), .val (.int (1 : Int32))] [(.ref w_DATE_TIME)])) (fun t k => X41.aaload hx (j := (p1 &&& (15 : Int32))) (v := .ref w_DATE_TIME) ArA.1 (State.isArrayOf_alike hZ.alike ArA.2.1) rfl ArA.2.2 hin hat (g := (mkF m 137 #[.val (.int p1), .val (.ref b), .val (.int (p1 &&& (15 : Int32))), .val (.int (1 : Int32))] [(.int (p1 &&& (15 : Int32))), (.ref b)])) rfl rfl (hb hby at_137) _ k) ?_
    obtain ⟨cq48, kq48, q48a, q48b, q48c⟩ := isOf hZ rfl (E_DATE_TIME.ext K41)
    obtain ⟨_, _, ⟨T48, L48, k48, n48⟩, -, X48, ⟨Lc48, hQ48, l48, y48, z48⟩, st48⟩ := X41.virtualBack hx (y := (⟨"com/example/certain_policy/certainpolicy/DataType", "hasEquality", "()Z"⟩ : MethodName)) (z := (⟨"com/example/certain_policy/certainpolicy/DataType", "hasEquality", "()Z"⟩ : MethodName)) hown (mvT hZ (hw _ (List.mem_of_getElem? (i := 51) rfl))) (mvT hZ (hw _ (List.mem_of_getElem? (i := 52) rfl))) (notFace_of_selects (args := #[]) (mvT hZ (hw _ (List.mem_of_getElem? (i := 70) rfl)))) (mvT hZ (hw _ (List.mem_of_getElem? (i := 70) rfl))) (mvT hZ (hw _ (List.mem_of_getElem? (i := 53) rfl))) (by decide) (backOf (W := 0) (rm1 l Z a0 hw [] w_DATE_TIME w_IP_ADDRESS w_DNS_NAME (1 : Int32) T41.heap n0 (Nat.le_trans Z0 K41.1) (S_IP_ADDRESS.ext K41) (S_DNS_NAME.ext K41) (Or.inr (Or.inr ⟨(ne_exa E_DATE_TIME E_IP_ADDRESS (by decide)), (ne_exa E_DATE_TIME E_DNS_NAME (by decide)), rfl⟩))) hZ (hw _ (List.mem_of_getElem? (i := 55) rfl)) (hw _ (List.mem_of_getElem? (i := 3) rfl)) (by decide) (by decide)) q48a q48c (g := (mkF m 138 #[.val (.int p1), .val (.ref b), .val (.int (p1 &&& (15 : Int32))), .val (.int (1 : Int32))] [(.ref w_DATE_TIME)])) rfl (by rw [hml]; rfl) (Steps.refl _) (argsL := []) (rest := []) (lenOf own_pd___Z rfl) rfl (by show 2 * 0 + _ ≤ _; exact Nat.le_of_eq rfl) (hb hby at_138) (fun _ _ => ⟨rfl, rfl, (by decide : 1 + 0 ≤ _), (by decide : 16 + 0 ≤ _)⟩)
    dsimp only [Pt.U, Pt.locs, Pt.cells, Pt.slots] at X48 l48 y48 z48 st48 hQ48
    subst l48 y48 z48
    obtain ⟨rfl, N48q, e48⟩ := hQ48
    have N48 := Fr.app N41 N48q
    refine own_adv (B := T48.setTop (mkF m 141 #[.val (.int p1), .val (.ref b), .val (.int (p1 &&& (15 : Int32))), .val (.int (1 : Int32))] [(.int (1 : Int32))])) (fun t k => st48.trans k) ?_
    refine own_adv (B := T48.setTop (mkF m 142 #[.val (.int p1), .val (.ref b), .val (.int (p1 &&& (15 : Int32))), .val (.int (1 : Int32))] [(.int (1 : Int32)), (.int (1 : Int32))])) (fun t k => XS.iloadN X48.here hx rfl (hb hby at_141) rfl k) ?_
    refine own_adv (B := T48.setTop (mkF m 145 #[.val (.int p1), .val (.ref b), .val (.int (p1 &&& (15 : Int32))), .val (.int (1 : Int32))] [])) (fun t k => XS.icmpNo X48.here hx rfl (hb hby at_142) rfl (teq (rfl : (1 : Int32) = (1 : Int32))).2 k) ?_
    refine own_adv (B := T48.setTop (mkF m 146 #[.val (.int p1), .val (.ref b), .val (.int (p1 &&& (15 : Int32))), .val (.int (1 : Int32))] [(.int (1 : Int32))])) (fun t k => XS.iconst X48.here hx rfl (hb hby at_145) k) ?_
    refine own_adv (B := T48.setTop (mkF m 150 #[.val (.int p1), .val (.ref b), .val (.int (p1 &&& (15 : Int32))), .val (.int (1 : Int32))] [(.int (1 : Int32))])) (fun t k => XS.goto X48.here hx rfl (pc0 := 146) (pc' := 150) rfl (hb hby at_146) (by decide) (by decide) k) ?_
    obtain ⟨fs, hr, hrun, hended, hW, hsame⟩ := X48.leave (v := some (.int (1 : Int32))) (fun h => by rw [Bd.returns] at h; cases h)
    refine ⟨_, _, retN X48 hx (t := .boolean) Bd.returns (by simp) (hb hby at_150) hr, hrun, hended, _, _, rfl, ?_, ⟨_, rfl⟩, hW, hsame.mono (by decide) (by decide)⟩
    exact ⟨rfl, N48⟩
  · skip
    refine own_adv (B := T41.setTop (mkF m 123 #[.val (.int p1), .val (.ref b), .val (.int (p1 &&& (15 : Int32))), .unset] [])) (fun t k => XS.icmpNo X41.here hx rfl (hb hby at_120) rfl (feq (by rw [c7]; decide)).1 k) ?_
    refine own_adv (B := T41.setTop (mkF m 124 #[.val (.int p1), .val (.ref b), .val (.int (p1 &&& (15 : Int32))), .unset] [(.int (p1 &&& (15 : Int32)))])) (fun t k => XS.iloadN X41.here hx rfl (hb hby at_123) rfl k) ?_
    refine own_adv (B := T41.setTop (mkF m 126 #[.val (.int p1), .val (.ref b), .val (.int (p1 &&& (15 : Int32))), .unset] [(.int (15 : Int32)), (.int (p1 &&& (15 : Int32)))])) (fun t k => XS.bipush X41.here hx rfl (hb hby at_124) k) ?_
    refine own_adv (B := T41.setTop (mkF m 129 #[.val (.int p1), .val (.ref b), .val (.int (p1 &&& (15 : Int32))), .unset] [])) (fun t k => XS.icmpNo X41.here hx rfl (hb hby at_126) rfl (feq (by rw [c7]; decide)).1 k) ?_
    refine own_adv (B := T41.setTop (mkF m 130 #[.val (.int p1), .val (.ref b), .val (.int (p1 &&& (15 : Int32))), .unset] [(.int (1 : Int32))])) (fun t k => XS.iconst X41.here hx rfl (hb hby at_129) k) ?_
    refine own_adv (B := T41.setTop (mkF m 134 #[.val (.int p1), .val (.ref b), .val (.int (p1 &&& (15 : Int32))), .unset] [(.int (1 : Int32))])) (fun t k => XS.goto X41.here hx rfl (pc0 := 130) (pc' := 134) rfl (hb hby at_130) (by decide) (by decide) k) ?_
    refine own_adv (B := T41.setTop (mkF m 135 #[.val (.int p1), .val (.ref b), .val (.int (p1 &&& (15 : Int32))), .val (.int (1 : Int32))] [])) (fun t k => XS.istoreN X41.here hx rfl (hb hby at_134) rfl (l' := #[.val (.int p1), .val (.ref b), .val (.int (p1 &&& (15 : Int32))), .val (.int (1 : Int32))]) rfl k) ?_
    refine own_adv (B := T41.setTop (mkF m 136 #[.val (.int p1), .val (.ref b), .val (.int (p1 &&& (15 : Int32))), .val (.int (1 : Int32))] [(.ref b)])) (fun t k => XS.aloadN X41.here hx rfl (hb hby at_135) rfl rfl k) ?_
    refine own_adv (B := T41.setTop (mkF m 137 #[.val (.int p1), .val (.ref b), .val (.int (p1 &&& (15 : Int32))), .val (.int (1 : Int32))] [(.int (p1 &&& (15 : Int32))), (.ref b)])) (fun t k => XS.iloadN X41.here hx rfl (hb hby at_136) rfl k) ?_
    have hin : ¬ ((p1 &&& (15 : Int32)) < 0 ∨ cA.slots.size ≤ ((p1 &&& (15 : Int32))).toNatClampNeg) := inb_of SA ⟨by rw [c7]; decide, by rw [c7]; decide⟩
    have hat : cA.slots[((p1 &&& (15 : Int32))).toNatClampNeg]? = some (.ref w_ANY_URI) := HA.at hin (by rw [c7]; rfl)
    refine own_adv (B := T41.setTop (mkF m 138 #[.val (.int p1), .val (.ref b), .val (.int (p1 &&& (15 : Int32))), .val (.int (1 : Int32))] [(.ref w_ANY_URI)])) (fun t k => X41.aaload hx (j := (p1 &&& (15 : Int32))) (v := .ref w_ANY_URI) ArA.1 (State.isArrayOf_alike hZ.alike ArA.2.1) rfl ArA.2.2 hin hat (g := (mkF m 137 #[.val (.int p1), .val (.ref b), .val (.int (p1 &&& (15 : Int32))), .val (.int (1 : Int32))] [(.int (p1 &&& (15 : Int32))), (.ref b)])) rfl rfl (hb hby at_137) _ k) ?_
    obtain ⟨cq49, kq49, q49a, q49b, q49c⟩ := isOf hZ rfl (E_ANY_URI.ext K41)
    obtain ⟨_, _, ⟨T49, L49, k49, n49⟩, -, X49, ⟨Lc49, hQ49, l49, y49, z49⟩, st49⟩ := X41.virtualBack hx (y := (⟨"com/example/certain_policy/certainpolicy/DataType", "hasEquality", "()Z"⟩ : MethodName)) (z := (⟨"com/example/certain_policy/certainpolicy/DataType", "hasEquality", "()Z"⟩ : MethodName)) hown (mvT hZ (hw _ (List.mem_of_getElem? (i := 51) rfl))) (mvT hZ (hw _ (List.mem_of_getElem? (i := 52) rfl))) (notFace_of_selects (args := #[]) (mvT hZ (hw _ (List.mem_of_getElem? (i := 62) rfl)))) (mvT hZ (hw _ (List.mem_of_getElem? (i := 62) rfl))) (mvT hZ (hw _ (List.mem_of_getElem? (i := 53) rfl))) (by decide) (backOf (W := 0) (rm1 l Z a0 hw [] w_ANY_URI w_IP_ADDRESS w_DNS_NAME (1 : Int32) T41.heap n0 (Nat.le_trans Z0 K41.1) (S_IP_ADDRESS.ext K41) (S_DNS_NAME.ext K41) (Or.inr (Or.inr ⟨(ne_exa E_ANY_URI E_IP_ADDRESS (by decide)), (ne_exa E_ANY_URI E_DNS_NAME (by decide)), rfl⟩))) hZ (hw _ (List.mem_of_getElem? (i := 55) rfl)) (hw _ (List.mem_of_getElem? (i := 3) rfl)) (by decide) (by decide)) q49a q49c (g := (mkF m 138 #[.val (.int p1), .val (.ref b), .val (.int (p1 &&& (15 : Int32))), .val (.int (1 : Int32))] [(.ref w_ANY_URI)])) rfl (by rw [hml]; rfl) (Steps.refl _) (argsL := []) (rest := []) (lenOf own_pd___Z rfl) rfl (by show 2 * 0 + _ ≤ _; exact Nat.le_of_eq rfl) (hb hby at_138) (fun _ _ => ⟨rfl, rfl, (by decide : 1 + 0 ≤ _), (by decide : 16 + 0 ≤ _)⟩)
    dsimp only [Pt.U, Pt.locs, Pt.cells, Pt.slots] at X49 l49 y49 z49 st49 hQ49
    subst l49 y49 z49
    obtain ⟨rfl, N49q, e49⟩ := hQ49
    have N49 := Fr.app N41 N49q
    refine own_adv (B := T49.setTop (mkF m 141 #[.val (.int p1), .val (.ref b), .val (.int (p1 &&& (15 : Int32))), .val (.int (1 : Int32))] [(.int (1 : Int32))])) (fun t k => st49.trans k) ?_
    refine own_adv (B := T49.setTop (mkF m 142 #[.val (.int p1), .val (.ref b), .val (.int (p1 &&& (15 : Int32))), .val (.int (1 : Int32))] [(.int (1 : Int32)), (.int (1 : Int32))])) (fun t k => XS.iloadN X49.here hx rfl (hb hby at_141) rfl k) ?_
    refine own_adv (B := T49.setTop (mkF m 145 #[.val (.int p1), .val (.ref b), .val (.int (p1 &&& (15 : Int32))), .val (.int (1 : Int32))] [])) (fun t k => XS.icmpNo X49.here hx rfl (hb hby at_142) rfl (teq (rfl : (1 : Int32) = (1 : Int32))).2 k) ?_
    refine own_adv (B := T49.setTop (mkF m 146 #[.val (.int p1), .val (.ref b), .val (.int (p1 &&& (15 : Int32))), .val (.int (1 : Int32))] [(.int (1 : Int32))])) (fun t k => XS.iconst X49.here hx rfl (hb hby at_145) k) ?_
    refine own_adv (B := T49.setTop (mkF m 150 #[.val (.int p1), .val (.ref b), .val (.int (p1 &&& (15 : Int32))), .val (.int (1 : Int32))] [(.int (1 : Int32))])) (fun t k => XS.goto X49.here hx rfl (pc0 := 146) (pc' := 150) rfl (hb hby at_146) (by decide) (by decide) k) ?_
    obtain ⟨fs, hr, hrun, hended, hW, hsame⟩ := X49.leave (v := some (.int (1 : Int32))) (fun h => by rw [Bd.returns] at h; cases h)
    refine ⟨_, _, retN X49 hx (t := .boolean) Bd.returns (by simp) (hb hby at_150) hr, hrun, hended, _, _, rfl, ?_, ⟨_, rfl⟩, hW, hsame.mono (by decide) (by decide)⟩
    exact ⟨rfl, N49⟩
  · skip
    refine own_adv (B := T41.setTop (mkF m 123 #[.val (.int p1), .val (.ref b), .val (.int (p1 &&& (15 : Int32))), .unset] [])) (fun t k => XS.icmpNo X41.here hx rfl (hb hby at_120) rfl (feq (by rw [c8]; decide)).1 k) ?_
    refine own_adv (B := T41.setTop (mkF m 124 #[.val (.int p1), .val (.ref b), .val (.int (p1 &&& (15 : Int32))), .unset] [(.int (p1 &&& (15 : Int32)))])) (fun t k => XS.iloadN X41.here hx rfl (hb hby at_123) rfl k) ?_
    refine own_adv (B := T41.setTop (mkF m 126 #[.val (.int p1), .val (.ref b), .val (.int (p1 &&& (15 : Int32))), .unset] [(.int (15 : Int32)), (.int (p1 &&& (15 : Int32)))])) (fun t k => XS.bipush X41.here hx rfl (hb hby at_124) k) ?_
    refine own_adv (B := T41.setTop (mkF m 129 #[.val (.int p1), .val (.ref b), .val (.int (p1 &&& (15 : Int32))), .unset] [])) (fun t k => XS.icmpNo X41.here hx rfl (hb hby at_126) rfl (feq (by rw [c8]; decide)).1 k) ?_
    refine own_adv (B := T41.setTop (mkF m 130 #[.val (.int p1), .val (.ref b), .val (.int (p1 &&& (15 : Int32))), .unset] [(.int (1 : Int32))])) (fun t k => XS.iconst X41.here hx rfl (hb hby at_129) k) ?_
    refine own_adv (B := T41.setTop (mkF m 134 #[.val (.int p1), .val (.ref b), .val (.int (p1 &&& (15 : Int32))), .unset] [(.int (1 : Int32))])) (fun t k => XS.goto X41.here hx rfl (pc0 := 130) (pc' := 134) rfl (hb hby at_130) (by decide) (by decide) k) ?_
    refine own_adv (B := T41.setTop (mkF m 135 #[.val (.int p1), .val (.ref b), .val (.int (p1 &&& (15 : Int32))), .val (.int (1 : Int32))] [])) (fun t k => XS.istoreN X41.here hx rfl (hb hby at_134) rfl (l' := #[.val (.int p1), .val (.ref b), .val (.int (p1 &&& (15 : Int32))), .val (.int (1 : Int32))]) rfl k) ?_
    refine own_adv (B := T41.setTop (mkF m 136 #[.val (.int p1), .val (.ref b), .val (.int (p1 &&& (15 : Int32))), .val (.int (1 : Int32))] [(.ref b)])) (fun t k => XS.aloadN X41.here hx rfl (hb hby at_135) rfl rfl k) ?_
    refine own_adv (B := T41.setTop (mkF m 137 #[.val (.int p1), .val (.ref b), .val (.int (p1 &&& (15 : Int32))), .val (.int (1 : Int32))] [(.int (p1 &&& (15 : Int32))), (.ref b)])) (fun t k => XS.iloadN X41.here hx rfl (hb hby at_136) rfl k) ?_
    have hin : ¬ ((p1 &&& (15 : Int32)) < 0 ∨ cA.slots.size ≤ ((p1 &&& (15 : Int32))).toNatClampNeg) := inb_of SA ⟨by rw [c8]; decide, by rw [c8]; decide⟩
    have hat : cA.slots[((p1 &&& (15 : Int32))).toNatClampNeg]? = some (.ref w_HEX_BINARY) := HA.at hin (by rw [c8]; rfl)
    refine own_adv (B := T41.setTop (mkF m 138 #[.val (.int p1), .val (.ref b), .val (.int (p1 &&& (15 : Int32))), .val (.int (1 : Int32))] [(.ref w_HEX_BINARY)])) (fun t k => X41.aaload hx (j := (p1 &&& (15 : Int32))) (v := .ref w_HEX_BINARY) ArA.1 (State.isArrayOf_alike hZ.alike ArA.2.1) rfl ArA.2.2 hin hat (g := (mkF m 137 #[.val (.int p1), .val (.ref b), .val (.int (p1 &&& (15 : Int32))), .val (.int (1 : Int32))] [(.int (p1 &&& (15 : Int32))), (.ref b)])) rfl rfl (hb hby at_137) _ k) ?_
    obtain ⟨cq50, kq50, q50a, q50b, q50c⟩ := isOf hZ rfl (E_HEX_BINARY.ext K41)
    obtain ⟨_, _, ⟨T50, L50, k50, n50⟩, -, X50, ⟨Lc50, hQ50, l50, y50, z50⟩, st50⟩ := X41.virtualBack hx (y := (⟨"com/example/certain_policy/certainpolicy/DataType", "hasEquality", "()Z"⟩ : MethodName)) (z := (⟨"com/example/certain_policy/certainpolicy/DataType", "hasEquality", "()Z"⟩ : MethodName)) hown (mvT hZ (hw _ (List.mem_of_getElem? (i := 51) rfl))) (mvT hZ (hw _ (List.mem_of_getElem? (i := 52) rfl))) (notFace_of_selects (args := #[]) (mvT hZ (hw _ (List.mem_of_getElem? (i := 65) rfl)))) (mvT hZ (hw _ (List.mem_of_getElem? (i := 65) rfl))) (mvT hZ (hw _ (List.mem_of_getElem? (i := 53) rfl))) (by decide) (backOf (W := 0) (rm1 l Z a0 hw [] w_HEX_BINARY w_IP_ADDRESS w_DNS_NAME (1 : Int32) T41.heap n0 (Nat.le_trans Z0 K41.1) (S_IP_ADDRESS.ext K41) (S_DNS_NAME.ext K41) (Or.inr (Or.inr ⟨(ne_exa E_HEX_BINARY E_IP_ADDRESS (by decide)), (ne_exa E_HEX_BINARY E_DNS_NAME (by decide)), rfl⟩))) hZ (hw _ (List.mem_of_getElem? (i := 55) rfl)) (hw _ (List.mem_of_getElem? (i := 3) rfl)) (by decide) (by decide)) q50a q50c (g := (mkF m 138 #[.val (.int p1), .val (.ref b), .val (.int (p1 &&& (15 : Int32))), .val (.int (1 : Int32))] [(.ref w_HEX_BINARY)])) rfl (by rw [hml]; rfl) (Steps.refl _) (argsL := []) (rest := []) (lenOf own_pd___Z rfl) rfl (by show 2 * 0 + _ ≤ _; exact Nat.le_of_eq rfl) (hb hby at_138) (fun _ _ => ⟨rfl, rfl, (by decide : 1 + 0 ≤ _), (by decide : 16 + 0 ≤ _)⟩)
    dsimp only [Pt.U, Pt.locs, Pt.cells, Pt.slots] at X50 l50 y50 z50 st50 hQ50
    subst l50 y50 z50
    obtain ⟨rfl, N50q, e50⟩ := hQ50
    have N50 := Fr.app N41 N50q
    refine own_adv (B := T50.setTop (mkF m 141 #[.val (.int p1), .val (.ref b), .val (.int (p1 &&& (15 : Int32))), .val (.int (1 : Int32))] [(.int (1 : Int32))])) (fun t k => st50.trans k) ?_
    refine own_adv (B := T50.setTop (mkF m 142 #[.val (.int p1), .val (.ref b), .val (.int (p1 &&& (15 : Int32))), .val (.int (1 : Int32))] [(.int (1 : Int32)), (.int (1 : Int32))])) (fun t k => XS.iloadN X50.here hx rfl (hb hby at_141) rfl k) ?_
    refine own_adv (B := T50.setTop (mkF m 145 #[.val (.int p1), .val (.ref b), .val (.int (p1 &&& (15 : Int32))), .val (.int (1 : Int32))] [])) (fun t k => XS.icmpNo X50.here hx rfl (hb hby at_142) rfl (teq (rfl : (1 : Int32) = (1 : Int32))).2 k) ?_
    refine own_adv (B := T50.setTop (mkF m 146 #[.val (.int p1), .val (.ref b), .val (.int (p1 &&& (15 : Int32))), .val (.int (1 : Int32))] [(.int (1 : Int32))])) (fun t k => XS.iconst X50.here hx rfl (hb hby at_145) k) ?_
    refine own_adv (B := T50.setTop (mkF m 150 #[.val (.int p1), .val (.ref b), .val (.int (p1 &&& (15 : Int32))), .val (.int (1 : Int32))] [(.int (1 : Int32))])) (fun t k => XS.goto X50.here hx rfl (pc0 := 146) (pc' := 150) rfl (hb hby at_146) (by decide) (by decide) k) ?_
    obtain ⟨fs, hr, hrun, hended, hW, hsame⟩ := X50.leave (v := some (.int (1 : Int32))) (fun h => by rw [Bd.returns] at h; cases h)
    refine ⟨_, _, retN X50 hx (t := .boolean) Bd.returns (by simp) (hb hby at_150) hr, hrun, hended, _, _, rfl, ?_, ⟨_, rfl⟩, hW, hsame.mono (by decide) (by decide)⟩
    exact ⟨rfl, N50⟩
  · skip
    refine own_adv (B := T41.setTop (mkF m 123 #[.val (.int p1), .val (.ref b), .val (.int (p1 &&& (15 : Int32))), .unset] [])) (fun t k => XS.icmpNo X41.here hx rfl (hb hby at_120) rfl (feq (by rw [c9]; decide)).1 k) ?_
    refine own_adv (B := T41.setTop (mkF m 124 #[.val (.int p1), .val (.ref b), .val (.int (p1 &&& (15 : Int32))), .unset] [(.int (p1 &&& (15 : Int32)))])) (fun t k => XS.iloadN X41.here hx rfl (hb hby at_123) rfl k) ?_
    refine own_adv (B := T41.setTop (mkF m 126 #[.val (.int p1), .val (.ref b), .val (.int (p1 &&& (15 : Int32))), .unset] [(.int (15 : Int32)), (.int (p1 &&& (15 : Int32)))])) (fun t k => XS.bipush X41.here hx rfl (hb hby at_124) k) ?_
    refine own_adv (B := T41.setTop (mkF m 129 #[.val (.int p1), .val (.ref b), .val (.int (p1 &&& (15 : Int32))), .unset] [])) (fun t k => XS.icmpNo X41.here hx rfl (hb hby at_126) rfl (feq (by rw [c9]; decide)).1 k) ?_
    refine own_adv (B := T41.setTop (mkF m 130 #[.val (.int p1), .val (.ref b), .val (.int (p1 &&& (15 : Int32))), .unset] [(.int (1 : Int32))])) (fun t k => XS.iconst X41.here hx rfl (hb hby at_129) k) ?_
    refine own_adv (B := T41.setTop (mkF m 134 #[.val (.int p1), .val (.ref b), .val (.int (p1 &&& (15 : Int32))), .unset] [(.int (1 : Int32))])) (fun t k => XS.goto X41.here hx rfl (pc0 := 130) (pc' := 134) rfl (hb hby at_130) (by decide) (by decide) k) ?_
    refine own_adv (B := T41.setTop (mkF m 135 #[.val (.int p1), .val (.ref b), .val (.int (p1 &&& (15 : Int32))), .val (.int (1 : Int32))] [])) (fun t k => XS.istoreN X41.here hx rfl (hb hby at_134) rfl (l' := #[.val (.int p1), .val (.ref b), .val (.int (p1 &&& (15 : Int32))), .val (.int (1 : Int32))]) rfl k) ?_
    refine own_adv (B := T41.setTop (mkF m 136 #[.val (.int p1), .val (.ref b), .val (.int (p1 &&& (15 : Int32))), .val (.int (1 : Int32))] [(.ref b)])) (fun t k => XS.aloadN X41.here hx rfl (hb hby at_135) rfl rfl k) ?_
    refine own_adv (B := T41.setTop (mkF m 137 #[.val (.int p1), .val (.ref b), .val (.int (p1 &&& (15 : Int32))), .val (.int (1 : Int32))] [(.int (p1 &&& (15 : Int32))), (.ref b)])) (fun t k => XS.iloadN X41.here hx rfl (hb hby at_136) rfl k) ?_
    have hin : ¬ ((p1 &&& (15 : Int32)) < 0 ∨ cA.slots.size ≤ ((p1 &&& (15 : Int32))).toNatClampNeg) := inb_of SA ⟨by rw [c9]; decide, by rw [c9]; decide⟩
    have hat : cA.slots[((p1 &&& (15 : Int32))).toNatClampNeg]? = some (.ref w_BASE64_BINARY) := HA.at hin (by rw [c9]; rfl)
    refine own_adv (B := T41.setTop (mkF m 138 #[.val (.int p1), .val (.ref b), .val (.int (p1 &&& (15 : Int32))), .val (.int (1 : Int32))] [(.ref w_BASE64_BINARY)])) (fun t k => X41.aaload hx (j := (p1 &&& (15 : Int32))) (v := .ref w_BASE64_BINARY) ArA.1 (State.isArrayOf_alike hZ.alike ArA.2.1) rfl ArA.2.2 hin hat (g := (mkF m 137 #[.val (.int p1), .val (.ref b), .val (.int (p1 &&& (15 : Int32))), .val (.int (1 : Int32))] [(.int (p1 &&& (15 : Int32))), (.ref b)])) rfl rfl (hb hby at_137) _ k) ?_
    obtain ⟨cq51, kq51, q51a, q51b, q51c⟩ := isOf hZ rfl (E_BASE64_BINARY.ext K41)
    obtain ⟨_, _, ⟨T51, L51, k51, n51⟩, -, X51, ⟨Lc51, hQ51, l51, y51, z51⟩, st51⟩ := X41.virtualBack hx (y := (⟨"com/example/certain_policy/certainpolicy/DataType", "hasEquality", "()Z"⟩ : MethodName)) (z := (⟨"com/example/certain_policy/certainpolicy/DataType", "hasEquality", "()Z"⟩ : MethodName)) hown (mvT hZ (hw _ (List.mem_of_getElem? (i := 51) rfl))) (mvT hZ (hw _ (List.mem_of_getElem? (i := 52) rfl))) (notFace_of_selects (args := #[]) (mvT hZ (hw _ (List.mem_of_getElem? (i := 71) rfl)))) (mvT hZ (hw _ (List.mem_of_getElem? (i := 71) rfl))) (mvT hZ (hw _ (List.mem_of_getElem? (i := 53) rfl))) (by decide) (backOf (W := 0) (rm1 l Z a0 hw [] w_BASE64_BINARY w_IP_ADDRESS w_DNS_NAME (1 : Int32) T41.heap n0 (Nat.le_trans Z0 K41.1) (S_IP_ADDRESS.ext K41) (S_DNS_NAME.ext K41) (Or.inr (Or.inr ⟨(ne_exa E_BASE64_BINARY E_IP_ADDRESS (by decide)), (ne_exa E_BASE64_BINARY E_DNS_NAME (by decide)), rfl⟩))) hZ (hw _ (List.mem_of_getElem? (i := 55) rfl)) (hw _ (List.mem_of_getElem? (i := 3) rfl)) (by decide) (by decide)) q51a q51c (g := (mkF m 138 #[.val (.int p1), .val (.ref b), .val (.int (p1 &&& (15 : Int32))), .val (.int (1 : Int32))] [(.ref w_BASE64_BINARY)])) rfl (by rw [hml]; rfl) (Steps.refl _) (argsL := []) (rest := []) (lenOf own_pd___Z rfl) rfl (by show 2 * 0 + _ ≤ _; exact Nat.le_of_eq rfl) (hb hby at_138) (fun _ _ => ⟨rfl, rfl, (by decide : 1 + 0 ≤ _), (by decide : 16 + 0 ≤ _)⟩)
    dsimp only [Pt.U, Pt.locs, Pt.cells, Pt.slots] at X51 l51 y51 z51 st51 hQ51
    subst l51 y51 z51
    obtain ⟨rfl, N51q, e51⟩ := hQ51
    have N51 := Fr.app N41 N51q
    refine own_adv (B := T51.setTop (mkF m 141 #[.val (.int p1), .val (.ref b), .val (.int (p1 &&& (15 : Int32))), .val (.int (1 : Int32))] [(.int (1 : Int32))])) (fun t k => st51.trans k) ?_
    refine own_adv (B := T51.setTop (mkF m 142 #[.val (.int p1), .val (.ref b), .val (.int (p1 &&& (15 : Int32))), .val (.int (1 : Int32))] [(.int (1 : Int32)), (.int (1 : Int32))])) (fun t k => XS.iloadN X51.here hx rfl (hb hby at_141) rfl k) ?_
    refine own_adv (B := T51.setTop (mkF m 145 #[.val (.int p1), .val (.ref b), .val (.int (p1 &&& (15 : Int32))), .val (.int (1 : Int32))] [])) (fun t k => XS.icmpNo X51.here hx rfl (hb hby at_142) rfl (teq (rfl : (1 : Int32) = (1 : Int32))).2 k) ?_
    refine own_adv (B := T51.setTop (mkF m 146 #[.val (.int p1), .val (.ref b), .val (.int (p1 &&& (15 : Int32))), .val (.int (1 : Int32))] [(.int (1 : Int32))])) (fun t k => XS.iconst X51.here hx rfl (hb hby at_145) k) ?_
    refine own_adv (B := T51.setTop (mkF m 150 #[.val (.int p1), .val (.ref b), .val (.int (p1 &&& (15 : Int32))), .val (.int (1 : Int32))] [(.int (1 : Int32))])) (fun t k => XS.goto X51.here hx rfl (pc0 := 146) (pc' := 150) rfl (hb hby at_146) (by decide) (by decide) k) ?_
    obtain ⟨fs, hr, hrun, hended, hW, hsame⟩ := X51.leave (v := some (.int (1 : Int32))) (fun h => by rw [Bd.returns] at h; cases h)
    refine ⟨_, _, retN X51 hx (t := .boolean) Bd.returns (by simp) (hb hby at_150) hr, hrun, hended, _, _, rfl, ?_, ⟨_, rfl⟩, hW, hsame.mono (by decide) (by decide)⟩
    exact ⟨rfl, N51⟩
  · skip
    refine own_adv (B := T41.setTop (mkF m 123 #[.val (.int p1), .val (.ref b), .val (.int (p1 &&& (15 : Int32))), .unset] [])) (fun t k => XS.icmpNo X41.here hx rfl (hb hby at_120) rfl (feq (by rw [c10]; decide)).1 k) ?_
    refine own_adv (B := T41.setTop (mkF m 124 #[.val (.int p1), .val (.ref b), .val (.int (p1 &&& (15 : Int32))), .unset] [(.int (p1 &&& (15 : Int32)))])) (fun t k => XS.iloadN X41.here hx rfl (hb hby at_123) rfl k) ?_
    refine own_adv (B := T41.setTop (mkF m 126 #[.val (.int p1), .val (.ref b), .val (.int (p1 &&& (15 : Int32))), .unset] [(.int (15 : Int32)), (.int (p1 &&& (15 : Int32)))])) (fun t k => XS.bipush X41.here hx rfl (hb hby at_124) k) ?_
    refine own_adv (B := T41.setTop (mkF m 129 #[.val (.int p1), .val (.ref b), .val (.int (p1 &&& (15 : Int32))), .unset] [])) (fun t k => XS.icmpNo X41.here hx rfl (hb hby at_126) rfl (feq (by rw [c10]; decide)).1 k) ?_
    refine own_adv (B := T41.setTop (mkF m 130 #[.val (.int p1), .val (.ref b), .val (.int (p1 &&& (15 : Int32))), .unset] [(.int (1 : Int32))])) (fun t k => XS.iconst X41.here hx rfl (hb hby at_129) k) ?_
    refine own_adv (B := T41.setTop (mkF m 134 #[.val (.int p1), .val (.ref b), .val (.int (p1 &&& (15 : Int32))), .unset] [(.int (1 : Int32))])) (fun t k => XS.goto X41.here hx rfl (pc0 := 130) (pc' := 134) rfl (hb hby at_130) (by decide) (by decide) k) ?_
    refine own_adv (B := T41.setTop (mkF m 135 #[.val (.int p1), .val (.ref b), .val (.int (p1 &&& (15 : Int32))), .val (.int (1 : Int32))] [])) (fun t k => XS.istoreN X41.here hx rfl (hb hby at_134) rfl (l' := #[.val (.int p1), .val (.ref b), .val (.int (p1 &&& (15 : Int32))), .val (.int (1 : Int32))]) rfl k) ?_
    refine own_adv (B := T41.setTop (mkF m 136 #[.val (.int p1), .val (.ref b), .val (.int (p1 &&& (15 : Int32))), .val (.int (1 : Int32))] [(.ref b)])) (fun t k => XS.aloadN X41.here hx rfl (hb hby at_135) rfl rfl k) ?_
    refine own_adv (B := T41.setTop (mkF m 137 #[.val (.int p1), .val (.ref b), .val (.int (p1 &&& (15 : Int32))), .val (.int (1 : Int32))] [(.int (p1 &&& (15 : Int32))), (.ref b)])) (fun t k => XS.iloadN X41.here hx rfl (hb hby at_136) rfl k) ?_
    have hin : ¬ ((p1 &&& (15 : Int32)) < 0 ∨ cA.slots.size ≤ ((p1 &&& (15 : Int32))).toNatClampNeg) := inb_of SA ⟨by rw [c10]; decide, by rw [c10]; decide⟩
    have hat : cA.slots[((p1 &&& (15 : Int32))).toNatClampNeg]? = some (.ref w_DAY_TIME_DURATION) := HA.at hin (by rw [c10]; rfl)
    refine own_adv (B := T41.setTop (mkF m 138 #[.val (.int p1), .val (.ref b), .val (.int (p1 &&& (15 : Int32))), .val (.int (1 : Int32))] [(.ref w_DAY_TIME_DURATION)])) (fun t k => X41.aaload hx (j := (p1 &&& (15 : Int32))) (v := .ref w_DAY_TIME_DURATION) ArA.1 (State.isArrayOf_alike hZ.alike ArA.2.1) rfl ArA.2.2 hin hat (g := (mkF m 137 #[.val (.int p1), .val (.ref b), .val (.int (p1 &&& (15 : Int32))), .val (.int (1 : Int32))] [(.int (p1 &&& (15 : Int32))), (.ref b)])) rfl rfl (hb hby at_137) _ k) ?_
    obtain ⟨cq52, kq52, q52a, q52b, q52c⟩ := isOf hZ rfl (E_DAY_TIME_DURATION.ext K41)
    obtain ⟨_, _, ⟨T52, L52, k52, n52⟩, -, X52, ⟨Lc52, hQ52, l52, y52, z52⟩, st52⟩ := X41.virtualBack hx (y := (⟨"com/example/certain_policy/certainpolicy/DataType", "hasEquality", "()Z"⟩ : MethodName)) (z := (⟨"com/example/certain_policy/certainpolicy/DataType", "hasEquality", "()Z"⟩ : MethodName)) hown (mvT hZ (hw _ (List.mem_of_getElem? (i := 51) rfl))) (mvT hZ (hw _ (List.mem_of_getElem? (i := 52) rfl))) (notFace_of_selects (args := #[]) (mvT hZ (hw _ (List.mem_of_getElem? (i := 61) rfl)))) (mvT hZ (hw _ (List.mem_of_getElem? (i := 61) rfl))) (mvT hZ (hw _ (List.mem_of_getElem? (i := 53) rfl))) (by decide) (backOf (W := 0) (rm1 l Z a0 hw [] w_DAY_TIME_DURATION w_IP_ADDRESS w_DNS_NAME (1 : Int32) T41.heap n0 (Nat.le_trans Z0 K41.1) (S_IP_ADDRESS.ext K41) (S_DNS_NAME.ext K41) (Or.inr (Or.inr ⟨(ne_exa E_DAY_TIME_DURATION E_IP_ADDRESS (by decide)), (ne_exa E_DAY_TIME_DURATION E_DNS_NAME (by decide)), rfl⟩))) hZ (hw _ (List.mem_of_getElem? (i := 55) rfl)) (hw _ (List.mem_of_getElem? (i := 3) rfl)) (by decide) (by decide)) q52a q52c (g := (mkF m 138 #[.val (.int p1), .val (.ref b), .val (.int (p1 &&& (15 : Int32))), .val (.int (1 : Int32))] [(.ref w_DAY_TIME_DURATION)])) rfl (by rw [hml]; rfl) (Steps.refl _) (argsL := []) (rest := []) (lenOf own_pd___Z rfl) rfl (by show 2 * 0 + _ ≤ _; exact Nat.le_of_eq rfl) (hb hby at_138) (fun _ _ => ⟨rfl, rfl, (by decide : 1 + 0 ≤ _), (by decide : 16 + 0 ≤ _)⟩)
    dsimp only [Pt.U, Pt.locs, Pt.cells, Pt.slots] at X52 l52 y52 z52 st52 hQ52
    subst l52 y52 z52
    obtain ⟨rfl, N52q, e52⟩ := hQ52
    have N52 := Fr.app N41 N52q
    refine own_adv (B := T52.setTop (mkF m 141 #[.val (.int p1), .val (.ref b), .val (.int (p1 &&& (15 : Int32))), .val (.int (1 : Int32))] [(.int (1 : Int32))])) (fun t k => st52.trans k) ?_
    refine own_adv (B := T52.setTop (mkF m 142 #[.val (.int p1), .val (.ref b), .val (.int (p1 &&& (15 : Int32))), .val (.int (1 : Int32))] [(.int (1 : Int32)), (.int (1 : Int32))])) (fun t k => XS.iloadN X52.here hx rfl (hb hby at_141) rfl k) ?_
    refine own_adv (B := T52.setTop (mkF m 145 #[.val (.int p1), .val (.ref b), .val (.int (p1 &&& (15 : Int32))), .val (.int (1 : Int32))] [])) (fun t k => XS.icmpNo X52.here hx rfl (hb hby at_142) rfl (teq (rfl : (1 : Int32) = (1 : Int32))).2 k) ?_
    refine own_adv (B := T52.setTop (mkF m 146 #[.val (.int p1), .val (.ref b), .val (.int (p1 &&& (15 : Int32))), .val (.int (1 : Int32))] [(.int (1 : Int32))])) (fun t k => XS.iconst X52.here hx rfl (hb hby at_145) k) ?_
    refine own_adv (B := T52.setTop (mkF m 150 #[.val (.int p1), .val (.ref b), .val (.int (p1 &&& (15 : Int32))), .val (.int (1 : Int32))] [(.int (1 : Int32))])) (fun t k => XS.goto X52.here hx rfl (pc0 := 146) (pc' := 150) rfl (hb hby at_146) (by decide) (by decide) k) ?_
    obtain ⟨fs, hr, hrun, hended, hW, hsame⟩ := X52.leave (v := some (.int (1 : Int32))) (fun h => by rw [Bd.returns] at h; cases h)
    refine ⟨_, _, retN X52 hx (t := .boolean) Bd.returns (by simp) (hb hby at_150) hr, hrun, hended, _, _, rfl, ?_, ⟨_, rfl⟩, hW, hsame.mono (by decide) (by decide)⟩
    exact ⟨rfl, N52⟩
  · skip
    refine own_adv (B := T41.setTop (mkF m 123 #[.val (.int p1), .val (.ref b), .val (.int (p1 &&& (15 : Int32))), .unset] [])) (fun t k => XS.icmpNo X41.here hx rfl (hb hby at_120) rfl (feq (by rw [c11]; decide)).1 k) ?_
    refine own_adv (B := T41.setTop (mkF m 124 #[.val (.int p1), .val (.ref b), .val (.int (p1 &&& (15 : Int32))), .unset] [(.int (p1 &&& (15 : Int32)))])) (fun t k => XS.iloadN X41.here hx rfl (hb hby at_123) rfl k) ?_
    refine own_adv (B := T41.setTop (mkF m 126 #[.val (.int p1), .val (.ref b), .val (.int (p1 &&& (15 : Int32))), .unset] [(.int (15 : Int32)), (.int (p1 &&& (15 : Int32)))])) (fun t k => XS.bipush X41.here hx rfl (hb hby at_124) k) ?_
    refine own_adv (B := T41.setTop (mkF m 129 #[.val (.int p1), .val (.ref b), .val (.int (p1 &&& (15 : Int32))), .unset] [])) (fun t k => XS.icmpNo X41.here hx rfl (hb hby at_126) rfl (feq (by rw [c11]; decide)).1 k) ?_
    refine own_adv (B := T41.setTop (mkF m 130 #[.val (.int p1), .val (.ref b), .val (.int (p1 &&& (15 : Int32))), .unset] [(.int (1 : Int32))])) (fun t k => XS.iconst X41.here hx rfl (hb hby at_129) k) ?_
    refine own_adv (B := T41.setTop (mkF m 134 #[.val (.int p1), .val (.ref b), .val (.int (p1 &&& (15 : Int32))), .unset] [(.int (1 : Int32))])) (fun t k => XS.goto X41.here hx rfl (pc0 := 130) (pc' := 134) rfl (hb hby at_130) (by decide) (by decide) k) ?_
    refine own_adv (B := T41.setTop (mkF m 135 #[.val (.int p1), .val (.ref b), .val (.int (p1 &&& (15 : Int32))), .val (.int (1 : Int32))] [])) (fun t k => XS.istoreN X41.here hx rfl (hb hby at_134) rfl (l' := #[.val (.int p1), .val (.ref b), .val (.int (p1 &&& (15 : Int32))), .val (.int (1 : Int32))]) rfl k) ?_
    refine own_adv (B := T41.setTop (mkF m 136 #[.val (.int p1), .val (.ref b), .val (.int (p1 &&& (15 : Int32))), .val (.int (1 : Int32))] [(.ref b)])) (fun t k => XS.aloadN X41.here hx rfl (hb hby at_135) rfl rfl k) ?_
    refine own_adv (B := T41.setTop (mkF m 137 #[.val (.int p1), .val (.ref b), .val (.int (p1 &&& (15 : Int32))), .val (.int (1 : Int32))] [(.int (p1 &&& (15 : Int32))), (.ref b)])) (fun t k => XS.iloadN X41.here hx rfl (hb hby at_136) rfl k) ?_
    have hin : ¬ ((p1 &&& (15 : Int32)) < 0 ∨ cA.slots.size ≤ ((p1 &&& (15 : Int32))).toNatClampNeg) := inb_of SA ⟨by rw [c11]; decide, by rw [c11]; decide⟩
    have hat : cA.slots[((p1 &&& (15 : Int32))).toNatClampNeg]? = some (.ref w_YEAR_MONTH_DURATION) := HA.at hin (by rw [c11]; rfl)
    refine own_adv (B := T41.setTop (mkF m 138 #[.val (.int p1), .val (.ref b), .val (.int (p1 &&& (15 : Int32))), .val (.int (1 : Int32))] [(.ref w_YEAR_MONTH_DURATION)])) (fun t k => X41.aaload hx (j := (p1 &&& (15 : Int32))) (v := .ref w_YEAR_MONTH_DURATION) ArA.1 (State.isArrayOf_alike hZ.alike ArA.2.1) rfl ArA.2.2 hin hat (g := (mkF m 137 #[.val (.int p1), .val (.ref b), .val (.int (p1 &&& (15 : Int32))), .val (.int (1 : Int32))] [(.int (p1 &&& (15 : Int32))), (.ref b)])) rfl rfl (hb hby at_137) _ k) ?_
    obtain ⟨cq53, kq53, q53a, q53b, q53c⟩ := isOf hZ rfl (E_YEAR_MONTH_DURATION.ext K41)
    obtain ⟨_, _, ⟨T53, L53, k53, n53⟩, -, X53, ⟨Lc53, hQ53, l53, y53, z53⟩, st53⟩ := X41.virtualBack hx (y := (⟨"com/example/certain_policy/certainpolicy/DataType", "hasEquality", "()Z"⟩ : MethodName)) (z := (⟨"com/example/certain_policy/certainpolicy/DataType", "hasEquality", "()Z"⟩ : MethodName)) hown (mvT hZ (hw _ (List.mem_of_getElem? (i := 51) rfl))) (mvT hZ (hw _ (List.mem_of_getElem? (i := 52) rfl))) (notFace_of_selects (args := #[]) (mvT hZ (hw _ (List.mem_of_getElem? (i := 64) rfl)))) (mvT hZ (hw _ (List.mem_of_getElem? (i := 64) rfl))) (mvT hZ (hw _ (List.mem_of_getElem? (i := 53) rfl))) (by decide) (backOf (W := 0) (rm1 l Z a0 hw [] w_YEAR_MONTH_DURATION w_IP_ADDRESS w_DNS_NAME (1 : Int32) T41.heap n0 (Nat.le_trans Z0 K41.1) (S_IP_ADDRESS.ext K41) (S_DNS_NAME.ext K41) (Or.inr (Or.inr ⟨(ne_exa E_YEAR_MONTH_DURATION E_IP_ADDRESS (by decide)), (ne_exa E_YEAR_MONTH_DURATION E_DNS_NAME (by decide)), rfl⟩))) hZ (hw _ (List.mem_of_getElem? (i := 55) rfl)) (hw _ (List.mem_of_getElem? (i := 3) rfl)) (by decide) (by decide)) q53a q53c (g := (mkF m 138 #[.val (.int p1), .val (.ref b), .val (.int (p1 &&& (15 : Int32))), .val (.int (1 : Int32))] [(.ref w_YEAR_MONTH_DURATION)])) rfl (by rw [hml]; rfl) (Steps.refl _) (argsL := []) (rest := []) (lenOf own_pd___Z rfl) rfl (by show 2 * 0 + _ ≤ _; exact Nat.le_of_eq rfl) (hb hby at_138) (fun _ _ => ⟨rfl, rfl, (by decide : 1 + 0 ≤ _), (by decide : 16 + 0 ≤ _)⟩)
    dsimp only [Pt.U, Pt.locs, Pt.cells, Pt.slots] at X53 l53 y53 z53 st53 hQ53
    subst l53 y53 z53
    obtain ⟨rfl, N53q, e53⟩ := hQ53
    have N53 := Fr.app N41 N53q
    refine own_adv (B := T53.setTop (mkF m 141 #[.val (.int p1), .val (.ref b), .val (.int (p1 &&& (15 : Int32))), .val (.int (1 : Int32))] [(.int (1 : Int32))])) (fun t k => st53.trans k) ?_
    refine own_adv (B := T53.setTop (mkF m 142 #[.val (.int p1), .val (.ref b), .val (.int (p1 &&& (15 : Int32))), .val (.int (1 : Int32))] [(.int (1 : Int32)), (.int (1 : Int32))])) (fun t k => XS.iloadN X53.here hx rfl (hb hby at_141) rfl k) ?_
    refine own_adv (B := T53.setTop (mkF m 145 #[.val (.int p1), .val (.ref b), .val (.int (p1 &&& (15 : Int32))), .val (.int (1 : Int32))] [])) (fun t k => XS.icmpNo X53.here hx rfl (hb hby at_142) rfl (teq (rfl : (1 : Int32) = (1 : Int32))).2 k) ?_
    refine own_adv (B := T53.setTop (mkF m 146 #[.val (.int p1), .val (.ref b), .val (.int (p1 &&& (15 : Int32))), .val (.int (1 : Int32))] [(.int (1 : Int32))])) (fun t k => XS.iconst X53.here hx rfl (hb hby at_145) k) ?_
    refine own_adv (B := T53.setTop (mkF m 150 #[.val (.int p1), .val (.ref b), .val (.int (p1 &&& (15 : Int32))), .val (.int (1 : Int32))] [(.int (1 : Int32))])) (fun t k => XS.goto X53.here hx rfl (pc0 := 146) (pc' := 150) rfl (hb hby at_146) (by decide) (by decide) k) ?_
    obtain ⟨fs, hr, hrun, hended, hW, hsame⟩ := X53.leave (v := some (.int (1 : Int32))) (fun h => by rw [Bd.returns] at h; cases h)
    refine ⟨_, _, retN X53 hx (t := .boolean) Bd.returns (by simp) (hb hby at_150) hr, hrun, hended, _, _, rfl, ?_, ⟨_, rfl⟩, hW, hsame.mono (by decide) (by decide)⟩
    exact ⟨rfl, N53⟩
  · skip
    refine own_adv (B := T41.setTop (mkF m 123 #[.val (.int p1), .val (.ref b), .val (.int (p1 &&& (15 : Int32))), .unset] [])) (fun t k => XS.icmpNo X41.here hx rfl (hb hby at_120) rfl (feq (by rw [c12]; decide)).1 k) ?_
    refine own_adv (B := T41.setTop (mkF m 124 #[.val (.int p1), .val (.ref b), .val (.int (p1 &&& (15 : Int32))), .unset] [(.int (p1 &&& (15 : Int32)))])) (fun t k => XS.iloadN X41.here hx rfl (hb hby at_123) rfl k) ?_
    refine own_adv (B := T41.setTop (mkF m 126 #[.val (.int p1), .val (.ref b), .val (.int (p1 &&& (15 : Int32))), .unset] [(.int (15 : Int32)), (.int (p1 &&& (15 : Int32)))])) (fun t k => XS.bipush X41.here hx rfl (hb hby at_124) k) ?_
    refine own_adv (B := T41.setTop (mkF m 129 #[.val (.int p1), .val (.ref b), .val (.int (p1 &&& (15 : Int32))), .unset] [])) (fun t k => XS.icmpNo X41.here hx rfl (hb hby at_126) rfl (feq (by rw [c12]; decide)).1 k) ?_
    refine own_adv (B := T41.setTop (mkF m 130 #[.val (.int p1), .val (.ref b), .val (.int (p1 &&& (15 : Int32))), .unset] [(.int (1 : Int32))])) (fun t k => XS.iconst X41.here hx rfl (hb hby at_129) k) ?_
    refine own_adv (B := T41.setTop (mkF m 134 #[.val (.int p1), .val (.ref b), .val (.int (p1 &&& (15 : Int32))), .unset] [(.int (1 : Int32))])) (fun t k => XS.goto X41.here hx rfl (pc0 := 130) (pc' := 134) rfl (hb hby at_130) (by decide) (by decide) k) ?_
    refine own_adv (B := T41.setTop (mkF m 135 #[.val (.int p1), .val (.ref b), .val (.int (p1 &&& (15 : Int32))), .val (.int (1 : Int32))] [])) (fun t k => XS.istoreN X41.here hx rfl (hb hby at_134) rfl (l' := #[.val (.int p1), .val (.ref b), .val (.int (p1 &&& (15 : Int32))), .val (.int (1 : Int32))]) rfl k) ?_
    refine own_adv (B := T41.setTop (mkF m 136 #[.val (.int p1), .val (.ref b), .val (.int (p1 &&& (15 : Int32))), .val (.int (1 : Int32))] [(.ref b)])) (fun t k => XS.aloadN X41.here hx rfl (hb hby at_135) rfl rfl k) ?_
    refine own_adv (B := T41.setTop (mkF m 137 #[.val (.int p1), .val (.ref b), .val (.int (p1 &&& (15 : Int32))), .val (.int (1 : Int32))] [(.int (p1 &&& (15 : Int32))), (.ref b)])) (fun t k => XS.iloadN X41.here hx rfl (hb hby at_136) rfl k) ?_
    have hin : ¬ ((p1 &&& (15 : Int32)) < 0 ∨ cA.slots.size ≤ ((p1 &&& (15 : Int32))).toNatClampNeg) := inb_of SA ⟨by rw [c12]; decide, by rw [c12]; decide⟩
    have hat : cA.slots[((p1 &&& (15 : Int32))).toNatClampNeg]? = some (.ref w_X500_NAME) := HA.at hin (by rw [c12]; rfl)
    refine own_adv (B := T41.setTop (mkF m 138 #[.val (.int p1), .val (.ref b), .val (.int (p1 &&& (15 : Int32))), .val (.int (1 : Int32))] [(.ref w_X500_NAME)])) (fun t k => X41.aaload hx (j := (p1 &&& (15 : Int32))) (v := .ref w_X500_NAME) ArA.1 (State.isArrayOf_alike hZ.alike ArA.2.1) rfl ArA.2.2 hin hat (g := (mkF m 137 #[.val (.int p1), .val (.ref b), .val (.int (p1 &&& (15 : Int32))), .val (.int (1 : Int32))] [(.int (p1 &&& (15 : Int32))), (.ref b)])) rfl rfl (hb hby at_137) _ k) ?_
    obtain ⟨cq54, kq54, q54a, q54b, q54c⟩ := isOf hZ rfl (E_X500_NAME.ext K41)
    obtain ⟨_, _, ⟨T54, L54, k54, n54⟩, -, X54, ⟨Lc54, hQ54, l54, y54, z54⟩, st54⟩ := X41.virtualBack hx (y := (⟨"com/example/certain_policy/certainpolicy/DataType", "hasEquality", "()Z"⟩ : MethodName)) (z := (⟨"com/example/certain_policy/certainpolicy/DataType", "hasEquality", "()Z"⟩ : MethodName)) hown (mvT hZ (hw _ (List.mem_of_getElem? (i := 51) rfl))) (mvT hZ (hw _ (List.mem_of_getElem? (i := 52) rfl))) (notFace_of_selects (args := #[]) (mvT hZ (hw _ (List.mem_of_getElem? (i := 68) rfl)))) (mvT hZ (hw _ (List.mem_of_getElem? (i := 68) rfl))) (mvT hZ (hw _ (List.mem_of_getElem? (i := 53) rfl))) (by decide) (backOf (W := 0) (rm1 l Z a0 hw [] w_X500_NAME w_IP_ADDRESS w_DNS_NAME (1 : Int32) T41.heap n0 (Nat.le_trans Z0 K41.1) (S_IP_ADDRESS.ext K41) (S_DNS_NAME.ext K41) (Or.inr (Or.inr ⟨(ne_exa E_X500_NAME E_IP_ADDRESS (by decide)), (ne_exa E_X500_NAME E_DNS_NAME (by decide)), rfl⟩))) hZ (hw _ (List.mem_of_getElem? (i := 55) rfl)) (hw _ (List.mem_of_getElem? (i := 3) rfl)) (by decide) (by decide)) q54a q54c (g := (mkF m 138 #[.val (.int p1), .val (.ref b), .val (.int (p1 &&& (15 : Int32))), .val (.int (1 : Int32))] [(.ref w_X500_NAME)])) rfl (by rw [hml]; rfl) (Steps.refl _) (argsL := []) (rest := []) (lenOf own_pd___Z rfl) rfl (by show 2 * 0 + _ ≤ _; exact Nat.le_of_eq rfl) (hb hby at_138) (fun _ _ => ⟨rfl, rfl, (by decide : 1 + 0 ≤ _), (by decide : 16 + 0 ≤ _)⟩)
    dsimp only [Pt.U, Pt.locs, Pt.cells, Pt.slots] at X54 l54 y54 z54 st54 hQ54
    subst l54 y54 z54
    obtain ⟨rfl, N54q, e54⟩ := hQ54
    have N54 := Fr.app N41 N54q
    refine own_adv (B := T54.setTop (mkF m 141 #[.val (.int p1), .val (.ref b), .val (.int (p1 &&& (15 : Int32))), .val (.int (1 : Int32))] [(.int (1 : Int32))])) (fun t k => st54.trans k) ?_
    refine own_adv (B := T54.setTop (mkF m 142 #[.val (.int p1), .val (.ref b), .val (.int (p1 &&& (15 : Int32))), .val (.int (1 : Int32))] [(.int (1 : Int32)), (.int (1 : Int32))])) (fun t k => XS.iloadN X54.here hx rfl (hb hby at_141) rfl k) ?_
    refine own_adv (B := T54.setTop (mkF m 145 #[.val (.int p1), .val (.ref b), .val (.int (p1 &&& (15 : Int32))), .val (.int (1 : Int32))] [])) (fun t k => XS.icmpNo X54.here hx rfl (hb hby at_142) rfl (teq (rfl : (1 : Int32) = (1 : Int32))).2 k) ?_
    refine own_adv (B := T54.setTop (mkF m 146 #[.val (.int p1), .val (.ref b), .val (.int (p1 &&& (15 : Int32))), .val (.int (1 : Int32))] [(.int (1 : Int32))])) (fun t k => XS.iconst X54.here hx rfl (hb hby at_145) k) ?_
    refine own_adv (B := T54.setTop (mkF m 150 #[.val (.int p1), .val (.ref b), .val (.int (p1 &&& (15 : Int32))), .val (.int (1 : Int32))] [(.int (1 : Int32))])) (fun t k => XS.goto X54.here hx rfl (pc0 := 146) (pc' := 150) rfl (hb hby at_146) (by decide) (by decide) k) ?_
    obtain ⟨fs, hr, hrun, hended, hW, hsame⟩ := X54.leave (v := some (.int (1 : Int32))) (fun h => by rw [Bd.returns] at h; cases h)
    refine ⟨_, _, retN X54 hx (t := .boolean) Bd.returns (by simp) (hb hby at_150) hr, hrun, hended, _, _, rfl, ?_, ⟨_, rfl⟩, hW, hsame.mono (by decide) (by decide)⟩
    exact ⟨rfl, N54⟩
  · skip
    refine own_adv (B := T41.setTop (mkF m 123 #[.val (.int p1), .val (.ref b), .val (.int (p1 &&& (15 : Int32))), .unset] [])) (fun t k => XS.icmpNo X41.here hx rfl (hb hby at_120) rfl (feq (by rw [c13]; decide)).1 k) ?_
    refine own_adv (B := T41.setTop (mkF m 124 #[.val (.int p1), .val (.ref b), .val (.int (p1 &&& (15 : Int32))), .unset] [(.int (p1 &&& (15 : Int32)))])) (fun t k => XS.iloadN X41.here hx rfl (hb hby at_123) rfl k) ?_
    refine own_adv (B := T41.setTop (mkF m 126 #[.val (.int p1), .val (.ref b), .val (.int (p1 &&& (15 : Int32))), .unset] [(.int (15 : Int32)), (.int (p1 &&& (15 : Int32)))])) (fun t k => XS.bipush X41.here hx rfl (hb hby at_124) k) ?_
    refine own_adv (B := T41.setTop (mkF m 129 #[.val (.int p1), .val (.ref b), .val (.int (p1 &&& (15 : Int32))), .unset] [])) (fun t k => XS.icmpNo X41.here hx rfl (hb hby at_126) rfl (feq (by rw [c13]; decide)).1 k) ?_
    refine own_adv (B := T41.setTop (mkF m 130 #[.val (.int p1), .val (.ref b), .val (.int (p1 &&& (15 : Int32))), .unset] [(.int (1 : Int32))])) (fun t k => XS.iconst X41.here hx rfl (hb hby at_129) k) ?_
    refine own_adv (B := T41.setTop (mkF m 134 #[.val (.int p1), .val (.ref b), .val (.int (p1 &&& (15 : Int32))), .unset] [(.int (1 : Int32))])) (fun t k => XS.goto X41.here hx rfl (pc0 := 130) (pc' := 134) rfl (hb hby at_130) (by decide) (by decide) k) ?_
    refine own_adv (B := T41.setTop (mkF m 135 #[.val (.int p1), .val (.ref b), .val (.int (p1 &&& (15 : Int32))), .val (.int (1 : Int32))] [])) (fun t k => XS.istoreN X41.here hx rfl (hb hby at_134) rfl (l' := #[.val (.int p1), .val (.ref b), .val (.int (p1 &&& (15 : Int32))), .val (.int (1 : Int32))]) rfl k) ?_
    refine own_adv (B := T41.setTop (mkF m 136 #[.val (.int p1), .val (.ref b), .val (.int (p1 &&& (15 : Int32))), .val (.int (1 : Int32))] [(.ref b)])) (fun t k => XS.aloadN X41.here hx rfl (hb hby at_135) rfl rfl k) ?_
    refine own_adv (B := T41.setTop (mkF m 137 #[.val (.int p1), .val (.ref b), .val (.int (p1 &&& (15 : Int32))), .val (.int (1 : Int32))] [(.int (p1 &&& (15 : Int32))), (.ref b)])) (fun t k => XS.iloadN X41.here hx rfl (hb hby at_136) rfl k) ?_
    have hin : ¬ ((p1 &&& (15 : Int32)) < 0 ∨ cA.slots.size ≤ ((p1 &&& (15 : Int32))).toNatClampNeg) := inb_of SA ⟨by rw [c13]; decide, by rw [c13]; decide⟩
    have hat : cA.slots[((p1 &&& (15 : Int32))).toNatClampNeg]? = some (.ref w_RFC822_NAME) := HA.at hin (by rw [c13]; rfl)
    refine own_adv (B := T41.setTop (mkF m 138 #[.val (.int p1), .val (.ref b), .val (.int (p1 &&& (15 : Int32))), .val (.int (1 : Int32))] [(.ref w_RFC822_NAME)])) (fun t k => X41.aaload hx (j := (p1 &&& (15 : Int32))) (v := .ref w_RFC822_NAME) ArA.1 (State.isArrayOf_alike hZ.alike ArA.2.1) rfl ArA.2.2 hin hat (g := (mkF m 137 #[.val (.int p1), .val (.ref b), .val (.int (p1 &&& (15 : Int32))), .val (.int (1 : Int32))] [(.int (p1 &&& (15 : Int32))), (.ref b)])) rfl rfl (hb hby at_137) _ k) ?_
    obtain ⟨cq55, kq55, q55a, q55b, q55c⟩ := isOf hZ rfl (E_RFC822_NAME.ext K41)
    obtain ⟨_, _, ⟨T55, L55, k55, n55⟩, -, X55, ⟨Lc55, hQ55, l55, y55, z55⟩, st55⟩ := X41.virtualBack hx (y := (⟨"com/example/certain_policy/certainpolicy/DataType", "hasEquality", "()Z"⟩ : MethodName)) (z := (⟨"com/example/certain_policy/certainpolicy/DataType", "hasEquality", "()Z"⟩ : MethodName)) hown (mvT hZ (hw _ (List.mem_of_getElem? (i := 51) rfl))) (mvT hZ (hw _ (List.mem_of_getElem? (i := 52) rfl))) (notFace_of_selects (args := #[]) (mvT hZ (hw _ (List.mem_of_getElem? (i := 69) rfl)))) (mvT hZ (hw _ (List.mem_of_getElem? (i := 69) rfl))) (mvT hZ (hw _ (List.mem_of_getElem? (i := 53) rfl))) (by decide) (backOf (W := 0) (rm1 l Z a0 hw [] w_RFC822_NAME w_IP_ADDRESS w_DNS_NAME (1 : Int32) T41.heap n0 (Nat.le_trans Z0 K41.1) (S_IP_ADDRESS.ext K41) (S_DNS_NAME.ext K41) (Or.inr (Or.inr ⟨(ne_exa E_RFC822_NAME E_IP_ADDRESS (by decide)), (ne_exa E_RFC822_NAME E_DNS_NAME (by decide)), rfl⟩))) hZ (hw _ (List.mem_of_getElem? (i := 55) rfl)) (hw _ (List.mem_of_getElem? (i := 3) rfl)) (by decide) (by decide)) q55a q55c (g := (mkF m 138 #[.val (.int p1), .val (.ref b), .val (.int (p1 &&& (15 : Int32))), .val (.int (1 : Int32))] [(.ref w_RFC822_NAME)])) rfl (by rw [hml]; rfl) (Steps.refl _) (argsL := []) (rest := []) (lenOf own_pd___Z rfl) rfl (by show 2 * 0 + _ ≤ _; exact Nat.le_of_eq rfl) (hb hby at_138) (fun _ _ => ⟨rfl, rfl, (by decide : 1 + 0 ≤ _), (by decide : 16 + 0 ≤ _)⟩)
    dsimp only [Pt.U, Pt.locs, Pt.cells, Pt.slots] at X55 l55 y55 z55 st55 hQ55
    subst l55 y55 z55
    obtain ⟨rfl, N55q, e55⟩ := hQ55
    have N55 := Fr.app N41 N55q
    refine own_adv (B := T55.setTop (mkF m 141 #[.val (.int p1), .val (.ref b), .val (.int (p1 &&& (15 : Int32))), .val (.int (1 : Int32))] [(.int (1 : Int32))])) (fun t k => st55.trans k) ?_
    refine own_adv (B := T55.setTop (mkF m 142 #[.val (.int p1), .val (.ref b), .val (.int (p1 &&& (15 : Int32))), .val (.int (1 : Int32))] [(.int (1 : Int32)), (.int (1 : Int32))])) (fun t k => XS.iloadN X55.here hx rfl (hb hby at_141) rfl k) ?_
    refine own_adv (B := T55.setTop (mkF m 145 #[.val (.int p1), .val (.ref b), .val (.int (p1 &&& (15 : Int32))), .val (.int (1 : Int32))] [])) (fun t k => XS.icmpNo X55.here hx rfl (hb hby at_142) rfl (teq (rfl : (1 : Int32) = (1 : Int32))).2 k) ?_
    refine own_adv (B := T55.setTop (mkF m 146 #[.val (.int p1), .val (.ref b), .val (.int (p1 &&& (15 : Int32))), .val (.int (1 : Int32))] [(.int (1 : Int32))])) (fun t k => XS.iconst X55.here hx rfl (hb hby at_145) k) ?_
    refine own_adv (B := T55.setTop (mkF m 150 #[.val (.int p1), .val (.ref b), .val (.int (p1 &&& (15 : Int32))), .val (.int (1 : Int32))] [(.int (1 : Int32))])) (fun t k => XS.goto X55.here hx rfl (pc0 := 146) (pc' := 150) rfl (hb hby at_146) (by decide) (by decide) k) ?_
    obtain ⟨fs, hr, hrun, hended, hW, hsame⟩ := X55.leave (v := some (.int (1 : Int32))) (fun h => by rw [Bd.returns] at h; cases h)
    refine ⟨_, _, retN X55 hx (t := .boolean) Bd.returns (by simp) (hb hby at_150) hr, hrun, hended, _, _, rfl, ?_, ⟨_, rfl⟩, hW, hsame.mono (by decide) (by decide)⟩
    exact ⟨rfl, N55⟩
  · skip
    refine own_adv (B := T41.setTop (mkF m 133 #[.val (.int p1), .val (.ref b), .val (.int (p1 &&& (15 : Int32))), .unset] [])) (fun t k => XS.icmpYes X41.here hx rfl (pc0 := 120) (pc' := 133) rfl (hb hby at_120) rfl (teq c14).1 (by decide) (by decide) k) ?_
    refine own_adv (B := T41.setTop (mkF m 134 #[.val (.int p1), .val (.ref b), .val (.int (p1 &&& (15 : Int32))), .unset] [(.int (0 : Int32))])) (fun t k => XS.iconst X41.here hx rfl (hb hby at_133) k) ?_
    refine own_adv (B := T41.setTop (mkF m 135 #[.val (.int p1), .val (.ref b), .val (.int (p1 &&& (15 : Int32))), .val (.int (0 : Int32))] [])) (fun t k => XS.istoreN X41.here hx rfl (hb hby at_134) rfl (l' := #[.val (.int p1), .val (.ref b), .val (.int (p1 &&& (15 : Int32))), .val (.int (0 : Int32))]) rfl k) ?_
    refine own_adv (B := T41.setTop (mkF m 136 #[.val (.int p1), .val (.ref b), .val (.int (p1 &&& (15 : Int32))), .val (.int (0 : Int32))] [(.ref b)])) (fun t k => XS.aloadN X41.here hx rfl (hb hby at_135) rfl rfl k) ?_
    refine own_adv (B := T41.setTop (mkF m 137 #[.val (.int p1), .val (.ref b), .val (.int (p1 &&& (15 : Int32))), .val (.int (0 : Int32))] [(.int (p1 &&& (15 : Int32))), (.ref b)])) (fun t k => XS.iloadN X41.here hx rfl (hb hby at_136) rfl k) ?_
    have hin : ¬ ((p1 &&& (15 : Int32)) < 0 ∨ cA.slots.size ≤ ((p1 &&& (15 : Int32))).toNatClampNeg) := inb_of SA ⟨by rw [c14]; decide, by rw [c14]; decide⟩
    have hat : cA.slots[((p1 &&& (15 : Int32))).toNatClampNeg]? = some (.ref w_IP_ADDRESS) := HA.at hin (by rw [c14]; rfl)
    refine own_adv (B := T41.setTop (mkF m 138 #[.val (.int p1), .val (.ref b), .val (.int (p1 &&& (15 : Int32))), .val (.int (0 : Int32))] [(.ref w_IP_ADDRESS)])) (fun t k => X41.aaload hx (j := (p1 &&& (15 : Int32))) (v := .ref w_IP_ADDRESS) ArA.1 (State.isArrayOf_alike hZ.alike ArA.2.1) rfl ArA.2.2 hin hat (g := (mkF m 137 #[.val (.int p1), .val (.ref b), .val (.int (p1 &&& (15 : Int32))), .val (.int (0 : Int32))] [(.int (p1 &&& (15 : Int32))), (.ref b)])) rfl rfl (hb hby at_137) _ k) ?_
    obtain ⟨cq56, kq56, q56a, q56b, q56c⟩ := isOf hZ rfl (E_IP_ADDRESS.ext K41)
    obtain ⟨_, _, ⟨T56, L56, k56, n56⟩, -, X56, ⟨Lc56, hQ56, l56, y56, z56⟩, st56⟩ := X41.virtualBack hx (y := (⟨"com/example/certain_policy/certainpolicy/DataType", "hasEquality", "()Z"⟩ : MethodName)) (z := (⟨"com/example/certain_policy/certainpolicy/DataType", "hasEquality", "()Z"⟩ : MethodName)) hown (mvT hZ (hw _ (List.mem_of_getElem? (i := 51) rfl))) (mvT hZ (hw _ (List.mem_of_getElem? (i := 52) rfl))) (notFace_of_selects (args := #[]) (mvT hZ (hw _ (List.mem_of_getElem? (i := 59) rfl)))) (mvT hZ (hw _ (List.mem_of_getElem? (i := 59) rfl))) (mvT hZ (hw _ (List.mem_of_getElem? (i := 53) rfl))) (by decide) (backOf (W := 0) (rm1 l Z a0 hw [] w_IP_ADDRESS w_IP_ADDRESS w_DNS_NAME (0 : Int32) T41.heap n0 (Nat.le_trans Z0 K41.1) (S_IP_ADDRESS.ext K41) (S_DNS_NAME.ext K41) (Or.inl ⟨rfl, rfl⟩)) hZ (hw _ (List.mem_of_getElem? (i := 55) rfl)) (hw _ (List.mem_of_getElem? (i := 3) rfl)) (by decide) (by decide)) q56a q56c (g := (mkF m 138 #[.val (.int p1), .val (.ref b), .val (.int (p1 &&& (15 : Int32))), .val (.int (0 : Int32))] [(.ref w_IP_ADDRESS)])) rfl (by rw [hml]; rfl) (Steps.refl _) (argsL := []) (rest := []) (lenOf own_pd___Z rfl) rfl (by show 2 * 0 + _ ≤ _; exact Nat.le_of_eq rfl) (hb hby at_138) (fun _ _ => ⟨rfl, rfl, (by decide : 1 + 0 ≤ _), (by decide : 16 + 0 ≤ _)⟩)
    dsimp only [Pt.U, Pt.locs, Pt.cells, Pt.slots] at X56 l56 y56 z56 st56 hQ56
    subst l56 y56 z56
    obtain ⟨rfl, N56q, e56⟩ := hQ56
    have N56 := Fr.app N41 N56q
    refine own_adv (B := T56.setTop (mkF m 141 #[.val (.int p1), .val (.ref b), .val (.int (p1 &&& (15 : Int32))), .val (.int (0 : Int32))] [(.int (0 : Int32))])) (fun t k => st56.trans k) ?_
    refine own_adv (B := T56.setTop (mkF m 142 #[.val (.int p1), .val (.ref b), .val (.int (p1 &&& (15 : Int32))), .val (.int (0 : Int32))] [(.int (0 : Int32)), (.int (0 : Int32))])) (fun t k => XS.iloadN X56.here hx rfl (hb hby at_141) rfl k) ?_
    refine own_adv (B := T56.setTop (mkF m 145 #[.val (.int p1), .val (.ref b), .val (.int (p1 &&& (15 : Int32))), .val (.int (0 : Int32))] [])) (fun t k => XS.icmpNo X56.here hx rfl (hb hby at_142) rfl (teq (rfl : (0 : Int32) = (0 : Int32))).2 k) ?_
    refine own_adv (B := T56.setTop (mkF m 146 #[.val (.int p1), .val (.ref b), .val (.int (p1 &&& (15 : Int32))), .val (.int (0 : Int32))] [(.int (1 : Int32))])) (fun t k => XS.iconst X56.here hx rfl (hb hby at_145) k) ?_
    refine own_adv (B := T56.setTop (mkF m 150 #[.val (.int p1), .val (.ref b), .val (.int (p1 &&& (15 : Int32))), .val (.int (0 : Int32))] [(.int (1 : Int32))])) (fun t k => XS.goto X56.here hx rfl (pc0 := 146) (pc' := 150) rfl (hb hby at_146) (by decide) (by decide) k) ?_
    obtain ⟨fs, hr, hrun, hended, hW, hsame⟩ := X56.leave (v := some (.int (1 : Int32))) (fun h => by rw [Bd.returns] at h; cases h)
    refine ⟨_, _, retN X56 hx (t := .boolean) Bd.returns (by simp) (hb hby at_150) hr, hrun, hended, _, _, rfl, ?_, ⟨_, rfl⟩, hW, hsame.mono (by decide) (by decide)⟩
    exact ⟨rfl, N56⟩
  · skip
    refine own_adv (B := T41.setTop (mkF m 123 #[.val (.int p1), .val (.ref b), .val (.int (p1 &&& (15 : Int32))), .unset] [])) (fun t k => XS.icmpNo X41.here hx rfl (hb hby at_120) rfl (feq (by rw [c15]; decide)).1 k) ?_
    refine own_adv (B := T41.setTop (mkF m 124 #[.val (.int p1), .val (.ref b), .val (.int (p1 &&& (15 : Int32))), .unset] [(.int (p1 &&& (15 : Int32)))])) (fun t k => XS.iloadN X41.here hx rfl (hb hby at_123) rfl k) ?_
    refine own_adv (B := T41.setTop (mkF m 126 #[.val (.int p1), .val (.ref b), .val (.int (p1 &&& (15 : Int32))), .unset] [(.int (15 : Int32)), (.int (p1 &&& (15 : Int32)))])) (fun t k => XS.bipush X41.here hx rfl (hb hby at_124) k) ?_
    refine own_adv (B := T41.setTop (mkF m 133 #[.val (.int p1), .val (.ref b), .val (.int (p1 &&& (15 : Int32))), .unset] [])) (fun t k => XS.icmpYes X41.here hx rfl (pc0 := 126) (pc' := 133) rfl (hb hby at_126) rfl (teq c15).1 (by decide) (by decide) k) ?_
    refine own_adv (B := T41.setTop (mkF m 134 #[.val (.int p1), .val (.ref b), .val (.int (p1 &&& (15 : Int32))), .unset] [(.int (0 : Int32))])) (fun t k => XS.iconst X41.here hx rfl (hb hby at_133) k) ?_
    refine own_adv (B := T41.setTop (mkF m 135 #[.val (.int p1), .val (.ref b), .val (.int (p1 &&& (15 : Int32))), .val (.int (0 : Int32))] [])) (fun t k => XS.istoreN X41.here hx rfl (hb hby at_134) rfl (l' := #[.val (.int p1), .val (.ref b), .val (.int (p1 &&& (15 : Int32))), .val (.int (0 : Int32))]) rfl k) ?_
    refine own_adv (B := T41.setTop (mkF m 136 #[.val (.int p1), .val (.ref b), .val (.int (p1 &&& (15 : Int32))), .val (.int (0 : Int32))] [(.ref b)])) (fun t k => XS.aloadN X41.here hx rfl (hb hby at_135) rfl rfl k) ?_
    refine own_adv (B := T41.setTop (mkF m 137 #[.val (.int p1), .val (.ref b), .val (.int (p1 &&& (15 : Int32))), .val (.int (0 : Int32))] [(.int (p1 &&& (15 : Int32))), (.ref b)])) (fun t k => XS.iloadN X41.here hx rfl (hb hby at_136) rfl k) ?_
    have hin : ¬ ((p1 &&& (15 : Int32)) < 0 ∨ cA.slots.size ≤ ((p1 &&& (15 : Int32))).toNatClampNeg) := inb_of SA ⟨by rw [c15]; decide, by rw [c15]; decide⟩
    have hat : cA.slots[((p1 &&& (15 : Int32))).toNatClampNeg]? = some (.ref w_DNS_NAME) := HA.at hin (by rw [c15]; rfl)
    refine own_adv (B := T41.setTop (mkF m 138 #[.val (.int p1), .val (.ref b), .val (.int (p1 &&& (15 : Int32))), .val (.int (0 : Int32))] [(.ref w_DNS_NAME)])) (fun t k => X41.aaload hx (j := (p1 &&& (15 : Int32))) (v := .ref w_DNS_NAME) ArA.1 (State.isArrayOf_alike hZ.alike ArA.2.1) rfl ArA.2.2 hin hat (g := (mkF m 137 #[.val (.int p1), .val (.ref b), .val (.int (p1 &&& (15 : Int32))), .val (.int (0 : Int32))] [(.int (p1 &&& (15 : Int32))), (.ref b)])) rfl rfl (hb hby at_137) _ k) ?_
    obtain ⟨cq57, kq57, q57a, q57b, q57c⟩ := isOf hZ rfl (E_DNS_NAME.ext K41)
    obtain ⟨_, _, ⟨T57, L57, k57, n57⟩, -, X57, ⟨Lc57, hQ57, l57, y57, z57⟩, st57⟩ := X41.virtualBack hx (y := (⟨"com/example/certain_policy/certainpolicy/DataType", "hasEquality", "()Z"⟩ : MethodName)) (z := (⟨"com/example/certain_policy/certainpolicy/DataType", "hasEquality", "()Z"⟩ : MethodName)) hown (mvT hZ (hw _ (List.mem_of_getElem? (i := 51) rfl))) (mvT hZ (hw _ (List.mem_of_getElem? (i := 52) rfl))) (notFace_of_selects (args := #[]) (mvT hZ (hw _ (List.mem_of_getElem? (i := 60) rfl)))) (mvT hZ (hw _ (List.mem_of_getElem? (i := 60) rfl))) (mvT hZ (hw _ (List.mem_of_getElem? (i := 53) rfl))) (by decide) (backOf (W := 0) (rm1 l Z a0 hw [] w_DNS_NAME w_IP_ADDRESS w_DNS_NAME (0 : Int32) T41.heap n0 (Nat.le_trans Z0 K41.1) (S_IP_ADDRESS.ext K41) (S_DNS_NAME.ext K41) (Or.inr (Or.inl ⟨(ne_exa E_DNS_NAME E_IP_ADDRESS (by decide)), rfl, rfl⟩))) hZ (hw _ (List.mem_of_getElem? (i := 55) rfl)) (hw _ (List.mem_of_getElem? (i := 3) rfl)) (by decide) (by decide)) q57a q57c (g := (mkF m 138 #[.val (.int p1), .val (.ref b), .val (.int (p1 &&& (15 : Int32))), .val (.int (0 : Int32))] [(.ref w_DNS_NAME)])) rfl (by rw [hml]; rfl) (Steps.refl _) (argsL := []) (rest := []) (lenOf own_pd___Z rfl) rfl (by show 2 * 0 + _ ≤ _; exact Nat.le_of_eq rfl) (hb hby at_138) (fun _ _ => ⟨rfl, rfl, (by decide : 1 + 0 ≤ _), (by decide : 16 + 0 ≤ _)⟩)
    dsimp only [Pt.U, Pt.locs, Pt.cells, Pt.slots] at X57 l57 y57 z57 st57 hQ57
    subst l57 y57 z57
    obtain ⟨rfl, N57q, e57⟩ := hQ57
    have N57 := Fr.app N41 N57q
    refine own_adv (B := T57.setTop (mkF m 141 #[.val (.int p1), .val (.ref b), .val (.int (p1 &&& (15 : Int32))), .val (.int (0 : Int32))] [(.int (0 : Int32))])) (fun t k => st57.trans k) ?_
    refine own_adv (B := T57.setTop (mkF m 142 #[.val (.int p1), .val (.ref b), .val (.int (p1 &&& (15 : Int32))), .val (.int (0 : Int32))] [(.int (0 : Int32)), (.int (0 : Int32))])) (fun t k => XS.iloadN X57.here hx rfl (hb hby at_141) rfl k) ?_
    refine own_adv (B := T57.setTop (mkF m 145 #[.val (.int p1), .val (.ref b), .val (.int (p1 &&& (15 : Int32))), .val (.int (0 : Int32))] [])) (fun t k => XS.icmpNo X57.here hx rfl (hb hby at_142) rfl (teq (rfl : (0 : Int32) = (0 : Int32))).2 k) ?_
    refine own_adv (B := T57.setTop (mkF m 146 #[.val (.int p1), .val (.ref b), .val (.int (p1 &&& (15 : Int32))), .val (.int (0 : Int32))] [(.int (1 : Int32))])) (fun t k => XS.iconst X57.here hx rfl (hb hby at_145) k) ?_
    refine own_adv (B := T57.setTop (mkF m 150 #[.val (.int p1), .val (.ref b), .val (.int (p1 &&& (15 : Int32))), .val (.int (0 : Int32))] [(.int (1 : Int32))])) (fun t k => XS.goto X57.here hx rfl (pc0 := 146) (pc' := 150) rfl (hb hby at_146) (by decide) (by decide) k) ?_
    obtain ⟨fs, hr, hrun, hended, hW, hsame⟩ := X57.leave (v := some (.int (1 : Int32))) (fun h => by rw [Bd.returns] at h; cases h)
    refine ⟨_, _, retN X57 hx (t := .boolean) Bd.returns (by simp) (hb hby at_150) hr, hrun, hended, _, _, rfl, ?_, ⟨_, rfl⟩, hW, hsame.mono (by decide) (by decide)⟩
    exact ⟨rfl, N57⟩
set_option maxRecDepth 65536 in
set_option maxHeartbeats 40000000 in
theorem comes_1 {Post : Tables → Env → Array Value → State → Outcome → State → Prop} (hpost : ∀ tb e args s v u, (limb_1_1.after args s (.returned v) u = true ∧ limb_1_2.after args s (.returned v) u = true ∧ True) → FrameEnd s (.returned v) u (Jvm.fieldLocs frame_1_writes args s ++ Jvm.arrayLocs frame_1_arrays args s ++ Jvm.staticLocs frame_1_statics s) 16 128 → Post tb e args s (.returned v) u) :
    ArmFor flags0 classFile x code maxLocals ret World_1 tables_1 room_1 Calls_1 rest_1 Pre_1 Post := by
  intro l hfl _ _ p e ha hc hk s m args below hf hA hF happ hP
  obtain ⟨hcalls, hrest, hpre⟩ := hP
  obtain ⟨-, -, -, hnamed, -, -, -, hat⟩ := (Spec.applies_iff hf).mp happ
  obtain ⟨hg, hn⟩ := and_e (Cond.before_iff.mp (show (Jvm.Cond.and given_1 narrow_1).before args s = true from hpre))
  obtain ⟨gc, g0⟩ := and_e hg
  obtain ⟨w0, rfl⟩ : ∃ w0 : Value, args = #[w0] := by
    have hs : args.size = 1 := by simpa [Cond.value, given_1] using gc
    obtain ⟨L⟩ := args
    match L, hs with
    | [w0], _ => exact ⟨w0, rfl⟩
  have hw := fun d (hd : d ∈ tables_1) => atoms_spec (ws := Jvm.Cond.code x code maxLocals ret :: tables_1) hat d (List.mem_cons_of_mem _ hd)
  obtain ⟨i0, ei0⟩ := is_v g0
  obtain rfl : w0 = (.int i0) := Option.some.inj ei0
  obtain ⟨c0, n0⟩ := and_e hn
  obtain ⟨c1, n1⟩ := and_e n0
  obtain ⟨c2, n2⟩ := and_e n1
  obtain ⟨c3, n3⟩ := and_e n2
  obtain ⟨c4, n4⟩ := and_e n3
  obtain ⟨c5, n5⟩ := and_e n4
  obtain ⟨c6, n6⟩ := and_e n5
  obtain ⟨c7, n7⟩ := and_e n6
  obtain ⟨c8, n8⟩ := and_e n7
  obtain ⟨c9, n9⟩ := and_e n8
  obtain ⟨c10, n10⟩ := and_e n9
  obtain ⟨c11, n11⟩ := and_e n10
  obtain ⟨c12, n12⟩ := and_e n11
  obtain ⟨c13, n13⟩ := and_e n12
  obtain ⟨c14, n14⟩ := and_e n13
  obtain ⟨w_STRING, v_STRING⟩ := exa_v c0
  have E_STRING := Exa.start v_STRING c0
  have S_STRING := Sta.start v_STRING (Or.inr ⟨(hw _ (List.mem_of_getElem? (i := 3) rfl)), (hw _ (List.mem_of_getElem? (i := 4) rfl))⟩)
  obtain ⟨w_BOOLEAN, v_BOOLEAN⟩ := exa_v c1
  have E_BOOLEAN := Exa.start v_BOOLEAN c1
  have S_BOOLEAN := Sta.start v_BOOLEAN (Or.inr ⟨(hw _ (List.mem_of_getElem? (i := 3) rfl)), (hw _ (List.mem_of_getElem? (i := 7) rfl))⟩)
  obtain ⟨w_INTEGER, v_INTEGER⟩ := exa_v c2
  have E_INTEGER := Exa.start v_INTEGER c2
  have S_INTEGER := Sta.start v_INTEGER (Or.inr ⟨(hw _ (List.mem_of_getElem? (i := 3) rfl)), (hw _ (List.mem_of_getElem? (i := 10) rfl))⟩)
  obtain ⟨w_DOUBLE, v_DOUBLE⟩ := exa_v c3
  have E_DOUBLE := Exa.start v_DOUBLE c3
  have S_DOUBLE := Sta.start v_DOUBLE (Or.inr ⟨(hw _ (List.mem_of_getElem? (i := 3) rfl)), (hw _ (List.mem_of_getElem? (i := 13) rfl))⟩)
  obtain ⟨w_DATE, v_DATE⟩ := exa_v c4
  have E_DATE := Exa.start v_DATE c4
  have S_DATE := Sta.start v_DATE (Or.inr ⟨(hw _ (List.mem_of_getElem? (i := 3) rfl)), (hw _ (List.mem_of_getElem? (i := 16) rfl))⟩)
  obtain ⟨w_TIME, v_TIME⟩ := exa_v c5
  have E_TIME := Exa.start v_TIME c5
  have S_TIME := Sta.start v_TIME (Or.inr ⟨(hw _ (List.mem_of_getElem? (i := 3) rfl)), (hw _ (List.mem_of_getElem? (i := 19) rfl))⟩)
  obtain ⟨w_DATE_TIME, v_DATE_TIME⟩ := exa_v c6
  have E_DATE_TIME := Exa.start v_DATE_TIME c6
  have S_DATE_TIME := Sta.start v_DATE_TIME (Or.inr ⟨(hw _ (List.mem_of_getElem? (i := 3) rfl)), (hw _ (List.mem_of_getElem? (i := 22) rfl))⟩)
  obtain ⟨w_ANY_URI, v_ANY_URI⟩ := exa_v c7
  have E_ANY_URI := Exa.start v_ANY_URI c7
  have S_ANY_URI := Sta.start v_ANY_URI (Or.inr ⟨(hw _ (List.mem_of_getElem? (i := 3) rfl)), (hw _ (List.mem_of_getElem? (i := 25) rfl))⟩)
  obtain ⟨w_HEX_BINARY, v_HEX_BINARY⟩ := exa_v c8
  have E_HEX_BINARY := Exa.start v_HEX_BINARY c8
  have S_HEX_BINARY := Sta.start v_HEX_BINARY (Or.inr ⟨(hw _ (List.mem_of_getElem? (i := 3) rfl)), (hw _ (List.mem_of_getElem? (i := 28) rfl))⟩)
  obtain ⟨w_BASE64_BINARY, v_BASE64_BINARY⟩ := exa_v c9
  have E_BASE64_BINARY := Exa.start v_BASE64_BINARY c9
  have S_BASE64_BINARY := Sta.start v_BASE64_BINARY (Or.inr ⟨(hw _ (List.mem_of_getElem? (i := 3) rfl)), (hw _ (List.mem_of_getElem? (i := 31) rfl))⟩)
  obtain ⟨w_DAY_TIME_DURATION, v_DAY_TIME_DURATION⟩ := exa_v c10
  have E_DAY_TIME_DURATION := Exa.start v_DAY_TIME_DURATION c10
  have S_DAY_TIME_DURATION := Sta.start v_DAY_TIME_DURATION (Or.inr ⟨(hw _ (List.mem_of_getElem? (i := 3) rfl)), (hw _ (List.mem_of_getElem? (i := 34) rfl))⟩)
  obtain ⟨w_YEAR_MONTH_DURATION, v_YEAR_MONTH_DURATION⟩ := exa_v c11
  have E_YEAR_MONTH_DURATION := Exa.start v_YEAR_MONTH_DURATION c11
  have S_YEAR_MONTH_DURATION := Sta.start v_YEAR_MONTH_DURATION (Or.inr ⟨(hw _ (List.mem_of_getElem? (i := 3) rfl)), (hw _ (List.mem_of_getElem? (i := 37) rfl))⟩)
  obtain ⟨w_X500_NAME, v_X500_NAME⟩ := exa_v c12
  have E_X500_NAME := Exa.start v_X500_NAME c12
  have S_X500_NAME := Sta.start v_X500_NAME (Or.inr ⟨(hw _ (List.mem_of_getElem? (i := 3) rfl)), (hw _ (List.mem_of_getElem? (i := 40) rfl))⟩)
  obtain ⟨w_RFC822_NAME, v_RFC822_NAME⟩ := exa_v c13
  have E_RFC822_NAME := Exa.start v_RFC822_NAME c13
  have S_RFC822_NAME := Sta.start v_RFC822_NAME (Or.inr ⟨(hw _ (List.mem_of_getElem? (i := 3) rfl)), (hw _ (List.mem_of_getElem? (i := 43) rfl))⟩)
  obtain ⟨w_IP_ADDRESS, v_IP_ADDRESS⟩ := exa_v c14
  have E_IP_ADDRESS := Exa.start v_IP_ADDRESS c14
  have S_IP_ADDRESS := Sta.start v_IP_ADDRESS (Or.inr ⟨(hw _ (List.mem_of_getElem? (i := 3) rfl)), (hw _ (List.mem_of_getElem? (i := 46) rfl))⟩)
  obtain ⟨w_DNS_NAME, v_DNS_NAME⟩ := exa_v n14
  have E_DNS_NAME := Exa.start v_DNS_NAME n14
  have S_DNS_NAME := Sta.start v_DNS_NAME (Or.inr ⟨(hw _ (List.mem_of_getElem? (i := 3) rfl)), (hw _ (List.mem_of_getElem? (i := 49) rfl))⟩)
  obtain ⟨n, o, h1, h2, h3, _, L, rfl, ⟨rfl, N⟩, hq⟩ := rm0 l s _ hw tables_1 i0 w_STRING w_BOOLEAN w_INTEGER w_DOUBLE w_DATE w_TIME w_DATE_TIME w_ANY_URI w_HEX_BINARY w_BASE64_BINARY w_DAY_TIME_DURATION w_YEAR_MONTH_DURATION w_X500_NAME w_RFC822_NAME w_IP_ADDRESS w_DNS_NAME s.heap s.heap.size (Nat.le_refl _) S_STRING S_BOOLEAN S_INTEGER S_DOUBLE S_DATE S_TIME S_DATE_TIME S_ANY_URI S_HEX_BINARY S_BASE64_BINARY S_DAY_TIME_DURATION S_YEAR_MONTH_DURATION S_X500_NAME S_RFC822_NAME S_IP_ADDRESS S_DNS_NAME E_STRING E_BOOLEAN E_INTEGER E_DOUBLE E_DATE E_TIME E_DATE_TIME E_ANY_URI E_HEX_BINARY E_BASE64_BINARY E_DAY_TIME_DURATION E_YEAR_MONTH_DURATION E_X500_NAME E_RFC822_NAME E_IP_ADDRESS E_DNS_NAME p e ha hc hk s m _ below hf ((Spec.applies_iff_loose hf).mp happ).1 ⟨rfl, State.Warmed39.refl s, rfl⟩ trivial
  exact ⟨n, _, h1, h2, h3, hpost _ _ _ _ _ _ ⟨Cond.after_iff.mpr rfl, Cond.after_iff.mpr (eq_i res_at (Term.int_eval (1)) rfl), trivial⟩ ⟨hq.1, hq.2.1, (hq.2.2.sift fun y hy => Or.inr (N y hy)).mono (by decide) (by decide)⟩⟩
theorem main_1_1 : Claimed_1_1 := comes_1 fun _ _ _ _ _ _ h hF => ⟨h.1, hF⟩
theorem main_1_2 : Claimed_1_2 := comes_1 fun _ _ _ _ _ _ h hF => ⟨h.2.1, hF⟩
end Jvm.Pilot.@@N@@
namespace Jvm.Pilot.@@N@@
open Jvm Jvm.ClassFile Sem Op Lib Jvm.Free Jvm.Stand Jvm.Pilot.@@N@@.Jvm.D
/-! MADE BY PROGRAM (witnessworld.py) out of the Statement's table words and the real class files: 29 classes; the members and pool entries that the words name. The judged class is class 1, her method 1. -/
namespace start1
open Jvm.ClassFile
def u (s : String) : CpInfo := .utf8 (stringToUtf16 s)
/-- a pool by its gaps: so many unusable entries, then the entry; so many at the end -/
def gap : Nat → List CpInfo → List CpInfo
  | 0, r => r
  | n + 1, r => .unusable :: gap n r
def poolList (es : List (Nat × CpInfo)) (last : Nat) : List CpInfo := es.foldr (fun e r => gap e.1 (e.2 :: r)) (gap last [])
def pool (es : List (Nat × CpInfo)) (last : Nat) : Array CpInfo := ⟨poolList es last⟩
def fileOf (pool : Array CpInfo) (this : Nat) (attrs : Array Attribute := #[]) (ms : Array MethodInfo := #[]) (fl : Nat := 33) (sup : Nat := 0) (ifs : Array Nat := #[]) (fds : Array FieldInfo := #[]) : ClassFile where
  minorVersion := 0
  majorVersion := 65
  constantPool := pool
  accessFlags := fl
  thisClass := this
  superClass := sup
  interfaces := ifs
  fields := fds
  methods := ms
  attributes := attrs
def plain (name : String) (sup : Option ClassId) : Class where
  name := name
  kind := .ordinary
  loader := none
  accessFlags := 33
  super := sup
  interfaces := #[]
  cf := none
  fields := #[]
  methods := #[]
  instanceTypes := #[]
  staticTypes := #[]
  resolved := #[]
  callSites := []
  init := .initialized
  statics := none
  mirror := none

def pool0 : Array CpInfo := pool [(5, u "<init>"), (0, u "()V"), (1, .class_ 10), (1, u "java/lang/Object")] 113

def k0m0 : Method := { name := "<init>", desc := "()V", sig := { parameters := [], returnType := none }, accessFlags := 1, code := none }
/-- java/lang/Object -/
def k0 : Class := { plain "java/lang/Object" none with
  accessFlags := 33
  interfaces := #[]
  cf := some (fileOf pool0 8 #[] #[{ accessFlags := 1, nameIndex := 5, descriptorIndex := 6, attributes := #[] }] 33 0 #[] #[])
  fields := #[]
  methods := #[k0m0]
  instanceTypes := #[]
  staticTypes := #[]
  resolved := Array.replicate 124 none
  statics := none }

def pool1 : Array CpInfo := pool [(2, .class_ 4), (1, u "java/lang/Object"), (0, u "<init>"), (0, u "()V"), (0, .class_ 8), (0, u "com/example/certain_policy/certainpolicy/DataType"), (0, .fieldref 7 10), (0, .nameAndType 11 12), (0, u "STRING"), (0, u "Lcom/example/certain_policy/certainpolicy/DataType;"), (0, .fieldref 7 14), (0, .nameAndType 15 12), (0, u "BOOLEAN"), (0, .fieldref 7 17), (0, .nameAndType 18 12), (0, u "INTEGER"), (0, .fieldref 7 20), (0, .nameAndType 21 12), (0, u "DOUBLE"), (0, .fieldref 7 23), (0, .nameAndType 24 12), (0, u "DATE"), (0, .fieldref 7 26), (0, .nameAndType 27 12), (0, u "TIME"), (0, .fieldref 7 29), (0, .nameAndType 30 12), (0, u "DATE_TIME"), (0, .fieldref 7 32), (0, .nameAndType 33 12), (0, u "ANY_URI"), (0, .fieldref 7 35), (0, .nameAndType 36 12), (0, u "HEX_BINARY"), (0, .fieldref 7 38), (0, .nameAndType 39 12), (0, u "BASE64_BINARY"), (0, .fieldref 7 41), (0, .nameAndType 42 12), (0, u "DAY_TIME_DURATION"), (0, .fieldref 7 44), (0, .nameAndType 45 12), (0, u "YEAR_MONTH_DURATION"), (0, .fieldref 7 47), (0, .nameAndType 48 12), (0, u "X500_NAME"), (0, .fieldref 7 50), (0, .nameAndType 51 12), (0, u "RFC822_NAME"), (0, .fieldref 7 53), (0, .nameAndType 54 12), (0, u "IP_ADDRESS"), (0, .fieldref 7 56), (0, .nameAndType 57 12), (0, u "DNS_NAME"), (0, .methodref 7 59), (0, .nameAndType 60 61), (0, u "hasEquality"), (0, u "()Z"), (0, .class_ 63), (0, u "com/example/certain_policy/certainpolicy/DataTypeHasEqualityPinLaw"), (2, u "law"), (0, u "(I)Z")] 5

def k1m0 : Method := { name := "<init>", desc := "()V", sig := { parameters := [], returnType := none }, accessFlags := 1, code := none }
def k1c1 : Code := { maxStack := 4, maxLocals := 4, code := code, exceptionTable := #[], attributes := #[] }
def k1m1 : Method := { name := "law", desc := "(I)Z", sig := { parameters := [.int], returnType := some .boolean }, accessFlags := 9, code := some k1c1 }
/-- com/example/certain_policy/certainpolicy/DataTypeHasEqualityPinLaw -/
def k1 : Class := { plain "com/example/certain_policy/certainpolicy/DataTypeHasEqualityPinLaw" (some 0) with
  accessFlags := 49
  interfaces := #[]
  cf := some (fileOf pool1 62 #[] #[{ accessFlags := 1, nameIndex := 5, descriptorIndex := 6, attributes := #[] }, { accessFlags := 9, nameIndex := 66, descriptorIndex := 67, attributes := #[] }] 49 2 #[] #[])
  fields := #[]
  methods := #[k1m0, k1m1]
  instanceTypes := #[]
  staticTypes := #[]
  resolved := Array.replicate 73 none
  statics := none }

def pool2 : Array CpInfo := pool [(1, .class_ 2), (0, u "java/lang/constant/Constable"), (0, .class_ 4), (0, u "java/lang/Object")] 6

/-- java/lang/constant/Constable -/
def k2 : Class := { plain "java/lang/constant/Constable" (some 0) with
  accessFlags := 1537
  interfaces := #[]
  cf := some (fileOf pool2 1 #[] #[] 1537 3 #[] #[])
  fields := #[]
  methods := #[]
  instanceTypes := #[]
  staticTypes := #[]
  resolved := Array.replicate 11 none
  statics := none }

def pool3 : Array CpInfo := pool [(1, .class_ 2), (0, u "java/lang/Comparable"), (0, .class_ 4), (0, u "java/lang/Object")] 7

/-- java/lang/Comparable -/
def k3 : Class := { plain "java/lang/Comparable" (some 0) with
  accessFlags := 1537
  interfaces := #[]
  cf := some (fileOf pool3 1 #[] #[] 1537 3 #[] #[])
  fields := #[]
  methods := #[]
  instanceTypes := #[]
  staticTypes := #[]
  resolved := Array.replicate 12 none
  statics := none }

def pool4 : Array CpInfo := pool [(1, .class_ 2), (0, u "java/io/Serializable"), (0, .class_ 4), (0, u "java/lang/Object")] 2

/-- java/io/Serializable -/
def k4 : Class := { plain "java/io/Serializable" (some 0) with
  accessFlags := 1537
  interfaces := #[]
  cf := some (fileOf pool4 1 #[] #[] 1537 3 #[] #[])
  fields := #[]
  methods := #[]
  instanceTypes := #[]
  staticTypes := #[]
  resolved := Array.replicate 7 none
  statics := none }

def pool5 : Array CpInfo := pool [(2, .class_ 4), (1, u "java/lang/Enum"), (0, u "name"), (0, u "Ljava/lang/String;"), (2, u "ordinal"), (0, u "I"), (1, .class_ 14), (1, u "java/lang/Object"), (4, u "hash"), (86, .class_ 108), (1, u "java/lang/Enum$EnumDesc"), (2, .class_ 112), (0, u "java/lang/constant/Constable"), (0, .class_ 114), (0, u "java/lang/Comparable"), (0, .class_ 116), (0, u "java/io/Serializable")] 87

/-- java/lang/Enum -/
def k5 : Class := { plain "java/lang/Enum" (some 0) with
  accessFlags := 1057
  interfaces := #[2, 3, 4]
  cf := some (fileOf pool5 2 #[.nestMembers #[106]] #[] 1057 12 #[111, 113, 115] #[{ accessFlags := 18, nameIndex := 5, descriptorIndex := 6, attributes := #[] }, { accessFlags := 18, nameIndex := 9, descriptorIndex := 10, attributes := #[] }, { accessFlags := 2, nameIndex := 19, descriptorIndex := 10, attributes := #[] }])
  fields := #[{ name := "name", type := (.object "java/lang/String"), accessFlags := 18, slot := 0, constantValue := 0 }, { name := "ordinal", type := .int, accessFlags := 18, slot := 1, constantValue := 0 }, { name := "hash", type := .int, accessFlags := 2, slot := 2, constantValue := 0 }]
  methods := #[]
  instanceTypes := #[(.object "java/lang/String"), .int, .int]
  staticTypes := #[]
  resolved := Array.replicate 204 none
  statics := none }

def pool6 : Array CpInfo := pool [(1, .class_ 2), (0, u "com/example/certain_policy/certainpolicy/DataType"), (2, u "STRING"), (0, u "Lcom/example/certain_policy/certainpolicy/DataType;"), (2, u "BOOLEAN"), (2, u "INTEGER"), (2, u "DOUBLE"), (2, u "DATE"), (2, u "TIME"), (2, u "DATE_TIME"), (2, u "ANY_URI"), (2, u "HEX_BINARY"), (2, u "BASE64_BINARY"), (2, u "DAY_TIME_DURATION"), (2, u "YEAR_MONTH_DURATION"), (2, u "X500_NAME"), (2, u "RFC822_NAME"), (0, .fieldref 1 47), (0, .nameAndType 48 6), (0, u "IP_ADDRESS"), (0, .fieldref 1 50), (0, .nameAndType 51 6), (0, u "DNS_NAME"), (2, u "$VALUES"), (0, u "[Lcom/example/certain_policy/certainpolicy/DataType;"), (6, .class_ 64), (1, u "java/lang/Enum"), (8, u "id"), (0, u "Ljava/lang/String;"), (2, u "name"), (309, u "INTEGER_FORM"), (0, u "Ljava/util/regex/Pattern;"), (11, u "()Z"), (11, u "WHITESPACE"), (12, .class_ 426), (0, u "com/example/certain_policy/certainpolicy/DataType$1"), (8, .class_ 436), (0, u "com/example/certain_policy/certainpolicy/DataType$2"), (6, .class_ 444), (0, u "com/example/certain_policy/certainpolicy/DataType$3"), (6, .class_ 452), (0, u "com/example/certain_policy/certainpolicy/DataType$4"), (6, .class_ 460), (0, u "com/example/certain_policy/certainpolicy/DataType$5"), (6, .class_ 468), (0, u "com/example/certain_policy/certainpolicy/DataType$6"), (6, .class_ 476), (0, u "com/example/certain_policy/certainpolicy/DataType$7"), (6, .class_ 484), (0, u "com/example/certain_policy/certainpolicy/DataType$8"), (6, .class_ 492), (0, u "com/example/certain_policy/certainpolicy/DataType$9"), (6, .class_ 500), (0, u "com/example/certain_policy/certainpolicy/DataType$10"), (6, .class_ 508), (0, u "com/example/certain_policy/certainpolicy/DataType$11"), (6, .class_ 516), (0, u "com/example/certain_policy/certainpolicy/DataType$12"), (6, .class_ 524), (0, u "com/example/certain_policy/certainpolicy/DataType$13"), (6, .class_ 532), (0, u "com/example/certain_policy/certainpolicy/DataType$14"), (6, .class_ 540), (0, u "com/example/certain_policy/certainpolicy/DataType$15"), (6, .class_ 548), (0, u "com/example/certain_policy/certainpolicy/DataType$16"), (19, u "DECIMAL_FORM"), (6, u "HEX_FORM"), (4, u "BASE64_FORM"), (18, u "hasEquality")] 53

def k6c0 : Code := { maxStack := 2, maxLocals := 1, code := prog_19_method_16_code, exceptionTable := #[], attributes := #[] }
def k6m0 : Method := { name := "hasEquality", desc := "()Z", sig := { parameters := [], returnType := some .boolean }, accessFlags := 0, code := some k6c0 }
/-- com/example/certain_policy/certainpolicy/DataType -/
def k6 : Class := { plain "com/example/certain_policy/certainpolicy/DataType" (some 5) with
  accessFlags := 17441
  interfaces := #[]
  cf := some (fileOf pool6 1 #[.nestMembers #[547, 539, 531, 523, 515, 507, 499, 491, 483, 475, 467, 459, 451, 443, 435, 425]] #[{ accessFlags := 0, nameIndex := 599, descriptorIndex := 400, attributes := #[] }] 17441 62 #[] #[{ accessFlags := 16409, nameIndex := 5, descriptorIndex := 6, attributes := #[] }, { accessFlags := 16409, nameIndex := 9, descriptorIndex := 6, attributes := #[] }, { accessFlags := 16409, nameIndex := 12, descriptorIndex := 6, attributes := #[] }, { accessFlags := 16409, nameIndex := 15, descriptorIndex := 6, attributes := #[] }, { accessFlags := 16409, nameIndex := 18, descriptorIndex := 6, attributes := #[] }, { accessFlags := 16409, nameIndex := 21, descriptorIndex := 6, attributes := #[] }, { accessFlags := 16409, nameIndex := 24, descriptorIndex := 6, attributes := #[] }, { accessFlags := 16409, nameIndex := 27, descriptorIndex := 6, attributes := #[] }, { accessFlags := 16409, nameIndex := 30, descriptorIndex := 6, attributes := #[] }, { accessFlags := 16409, nameIndex := 33, descriptorIndex := 6, attributes := #[] }, { accessFlags := 16409, nameIndex := 36, descriptorIndex := 6, attributes := #[] }, { accessFlags := 16409, nameIndex := 39, descriptorIndex := 6, attributes := #[] }, { accessFlags := 16409, nameIndex := 42, descriptorIndex := 6, attributes := #[] }, { accessFlags := 16409, nameIndex := 45, descriptorIndex := 6, attributes := #[] }, { accessFlags := 16409, nameIndex := 48, descriptorIndex := 6, attributes := #[] }, { accessFlags := 16409, nameIndex := 51, descriptorIndex := 6, attributes := #[] }, { accessFlags := 26, nameIndex := 387, descriptorIndex := 388, attributes := #[] }, { accessFlags := 26, nameIndex := 568, descriptorIndex := 388, attributes := #[] }, { accessFlags := 26, nameIndex := 412, descriptorIndex := 388, attributes := #[] }, { accessFlags := 26, nameIndex := 575, descriptorIndex := 388, attributes := #[] }, { accessFlags := 26, nameIndex := 580, descriptorIndex := 388, attributes := #[] }, { accessFlags := 18, nameIndex := 73, descriptorIndex := 74, attributes := #[] }, { accessFlags := 18, nameIndex := 77, descriptorIndex := 74, attributes := #[] }, { accessFlags := 4122, nameIndex := 54, descriptorIndex := 55, attributes := #[] }])
  fields := #[{ name := "STRING", type := (.object "com/example/certain_policy/certainpolicy/DataType"), accessFlags := 16409, slot := 0, constantValue := 0 }, { name := "BOOLEAN", type := (.object "com/example/certain_policy/certainpolicy/DataType"), accessFlags := 16409, slot := 1, constantValue := 0 }, { name := "INTEGER", type := (.object "com/example/certain_policy/certainpolicy/DataType"), accessFlags := 16409, slot := 2, constantValue := 0 }, { name := "DOUBLE", type := (.object "com/example/certain_policy/certainpolicy/DataType"), accessFlags := 16409, slot := 3, constantValue := 0 }, { name := "DATE", type := (.object "com/example/certain_policy/certainpolicy/DataType"), accessFlags := 16409, slot := 4, constantValue := 0 }, { name := "TIME", type := (.object "com/example/certain_policy/certainpolicy/DataType"), accessFlags := 16409, slot := 5, constantValue := 0 }, { name := "DATE_TIME", type := (.object "com/example/certain_policy/certainpolicy/DataType"), accessFlags := 16409, slot := 6, constantValue := 0 }, { name := "ANY_URI", type := (.object "com/example/certain_policy/certainpolicy/DataType"), accessFlags := 16409, slot := 7, constantValue := 0 }, { name := "HEX_BINARY", type := (.object "com/example/certain_policy/certainpolicy/DataType"), accessFlags := 16409, slot := 8, constantValue := 0 }, { name := "BASE64_BINARY", type := (.object "com/example/certain_policy/certainpolicy/DataType"), accessFlags := 16409, slot := 9, constantValue := 0 }, { name := "DAY_TIME_DURATION", type := (.object "com/example/certain_policy/certainpolicy/DataType"), accessFlags := 16409, slot := 10, constantValue := 0 }, { name := "YEAR_MONTH_DURATION", type := (.object "com/example/certain_policy/certainpolicy/DataType"), accessFlags := 16409, slot := 11, constantValue := 0 }, { name := "X500_NAME", type := (.object "com/example/certain_policy/certainpolicy/DataType"), accessFlags := 16409, slot := 12, constantValue := 0 }, { name := "RFC822_NAME", type := (.object "com/example/certain_policy/certainpolicy/DataType"), accessFlags := 16409, slot := 13, constantValue := 0 }, { name := "IP_ADDRESS", type := (.object "com/example/certain_policy/certainpolicy/DataType"), accessFlags := 16409, slot := 14, constantValue := 0 }, { name := "DNS_NAME", type := (.object "com/example/certain_policy/certainpolicy/DataType"), accessFlags := 16409, slot := 15, constantValue := 0 }, { name := "INTEGER_FORM", type := (.object "java/util/regex/Pattern"), accessFlags := 26, slot := 16, constantValue := 0 }, { name := "DECIMAL_FORM", type := (.object "java/util/regex/Pattern"), accessFlags := 26, slot := 17, constantValue := 0 }, { name := "WHITESPACE", type := (.object "java/util/regex/Pattern"), accessFlags := 26, slot := 18, constantValue := 0 }, { name := "HEX_FORM", type := (.object "java/util/regex/Pattern"), accessFlags := 26, slot := 19, constantValue := 0 }, { name := "BASE64_FORM", type := (.object "java/util/regex/Pattern"), accessFlags := 26, slot := 20, constantValue := 0 }, { name := "id", type := (.object "java/lang/String"), accessFlags := 18, slot := 3, constantValue := 0 }, { name := "name", type := (.object "java/lang/String"), accessFlags := 18, slot := 4, constantValue := 0 }, { name := "$VALUES", type := (.array (.object "com/example/certain_policy/certainpolicy/DataType")), accessFlags := 4122, slot := 21, constantValue := 0 }]
  methods := #[k6m0]
  instanceTypes := #[(.object "java/lang/String"), .int, .int, (.object "java/lang/String"), (.object "java/lang/String")]
  staticTypes := #[(.object "com/example/certain_policy/certainpolicy/DataType"), (.object "com/example/certain_policy/certainpolicy/DataType"), (.object "com/example/certain_policy/certainpolicy/DataType"), (.object "com/example/certain_policy/certainpolicy/DataType"), (.object "com/example/certain_policy/certainpolicy/DataType"), (.object "com/example/certain_policy/certainpolicy/DataType"), (.object "com/example/certain_policy/certainpolicy/DataType"), (.object "com/example/certain_policy/certainpolicy/DataType"), (.object "com/example/certain_policy/certainpolicy/DataType"), (.object "com/example/certain_policy/certainpolicy/DataType"), (.object "com/example/certain_policy/certainpolicy/DataType"), (.object "com/example/certain_policy/certainpolicy/DataType"), (.object "com/example/certain_policy/certainpolicy/DataType"), (.object "com/example/certain_policy/certainpolicy/DataType"), (.object "com/example/certain_policy/certainpolicy/DataType"), (.object "com/example/certain_policy/certainpolicy/DataType"), (.object "java/util/regex/Pattern"), (.object "java/util/regex/Pattern"), (.object "java/util/regex/Pattern"), (.object "java/util/regex/Pattern"), (.object "java/util/regex/Pattern"), (.array (.object "com/example/certain_policy/certainpolicy/DataType"))]
  resolved := Array.replicate 653 none
  statics := some 0 }

def pool7 : Array CpInfo := pool [(2, .class_ 4), (1, u "com/example/certain_policy/certainpolicy/DataType"), (2, .class_ 8), (0, u "com/example/certain_policy/certainpolicy/DataType$1")] 10

/-- com/example/certain_policy/certainpolicy/DataType$1 -/
def k7 : Class := { plain "com/example/certain_policy/certainpolicy/DataType$1" (some 6) with
  accessFlags := 16432
  interfaces := #[]
  cf := some (fileOf pool7 7 #[.nestHost 2] #[] 16432 2 #[] #[])
  fields := #[]
  methods := #[]
  instanceTypes := #[(.object "java/lang/String"), .int, .int, (.object "java/lang/String"), (.object "java/lang/String")]
  staticTypes := #[]
  resolved := Array.replicate 19 none
  statics := none }

def pool8 : Array CpInfo := pool [(2, .class_ 4), (1, u "com/example/certain_policy/certainpolicy/DataType"), (38, .class_ 44), (0, u "com/example/certain_policy/certainpolicy/DataType$2")] 13

/-- com/example/certain_policy/certainpolicy/DataType$2 -/
def k8 : Class := { plain "com/example/certain_policy/certainpolicy/DataType$2" (some 6) with
  accessFlags := 16432
  interfaces := #[]
  cf := some (fileOf pool8 43 #[.nestHost 2] #[] 16432 2 #[] #[])
  fields := #[]
  methods := #[]
  instanceTypes := #[(.object "java/lang/String"), .int, .int, (.object "java/lang/String"), (.object "java/lang/String")]
  staticTypes := #[]
  resolved := Array.replicate 58 none
  statics := none }

def pool9 : Array CpInfo := pool [(2, .class_ 4), (1, u "com/example/certain_policy/certainpolicy/DataType"), (12, .class_ 18), (0, u "com/example/certain_policy/certainpolicy/DataType$3")] 11

/-- com/example/certain_policy/certainpolicy/DataType$3 -/
def k9 : Class := { plain "com/example/certain_policy/certainpolicy/DataType$3" (some 6) with
  accessFlags := 16432
  interfaces := #[]
  cf := some (fileOf pool9 17 #[.nestHost 2] #[] 16432 2 #[] #[])
  fields := #[]
  methods := #[]
  instanceTypes := #[(.object "java/lang/String"), .int, .int, (.object "java/lang/String"), (.object "java/lang/String")]
  staticTypes := #[]
  resolved := Array.replicate 30 none
  statics := none }

def pool10 : Array CpInfo := pool [(2, .class_ 4), (1, u "com/example/certain_policy/certainpolicy/DataType"), (59, .class_ 65), (0, u "com/example/certain_policy/certainpolicy/DataType$4")] 15

/-- com/example/certain_policy/certainpolicy/DataType$4 -/
def k10 : Class := { plain "com/example/certain_policy/certainpolicy/DataType$4" (some 6) with
  accessFlags := 16432
  interfaces := #[]
  cf := some (fileOf pool10 64 #[.nestHost 2] #[] 16432 2 #[] #[])
  fields := #[]
  methods := #[]
  instanceTypes := #[(.object "java/lang/String"), .int, .int, (.object "java/lang/String"), (.object "java/lang/String")]
  staticTypes := #[]
  resolved := Array.replicate 81 none
  statics := none }

def pool11 : Array CpInfo := pool [(2, .class_ 4), (1, u "com/example/certain_policy/certainpolicy/DataType"), (12, .class_ 18), (0, u "com/example/certain_policy/certainpolicy/DataType$5")] 13

/-- com/example/certain_policy/certainpolicy/DataType$5 -/
def k11 : Class := { plain "com/example/certain_policy/certainpolicy/DataType$5" (some 6) with
  accessFlags := 16432
  interfaces := #[]
  cf := some (fileOf pool11 17 #[.nestHost 2] #[] 16432 2 #[] #[])
  fields := #[]
  methods := #[]
  instanceTypes := #[(.object "java/lang/String"), .int, .int, (.object "java/lang/String"), (.object "java/lang/String")]
  staticTypes := #[]
  resolved := Array.replicate 32 none
  statics := none }

def pool12 : Array CpInfo := pool [(2, .class_ 4), (1, u "com/example/certain_policy/certainpolicy/DataType"), (12, .class_ 18), (0, u "com/example/certain_policy/certainpolicy/DataType$6")] 13

/-- com/example/certain_policy/certainpolicy/DataType$6 -/
def k12 : Class := { plain "com/example/certain_policy/certainpolicy/DataType$6" (some 6) with
  accessFlags := 16432
  interfaces := #[]
  cf := some (fileOf pool12 17 #[.nestHost 2] #[] 16432 2 #[] #[])
  fields := #[]
  methods := #[]
  instanceTypes := #[(.object "java/lang/String"), .int, .int, (.object "java/lang/String"), (.object "java/lang/String")]
  staticTypes := #[]
  resolved := Array.replicate 32 none
  statics := none }

def pool13 : Array CpInfo := pool [(2, .class_ 4), (1, u "com/example/certain_policy/certainpolicy/DataType"), (12, .class_ 18), (0, u "com/example/certain_policy/certainpolicy/DataType$7")] 13

/-- com/example/certain_policy/certainpolicy/DataType$7 -/
def k13 : Class := { plain "com/example/certain_policy/certainpolicy/DataType$7" (some 6) with
  accessFlags := 16432
  interfaces := #[]
  cf := some (fileOf pool13 17 #[.nestHost 2] #[] 16432 2 #[] #[])
  fields := #[]
  methods := #[]
  instanceTypes := #[(.object "java/lang/String"), .int, .int, (.object "java/lang/String"), (.object "java/lang/String")]
  staticTypes := #[]
  resolved := Array.replicate 32 none
  statics := none }

def pool14 : Array CpInfo := pool [(2, .class_ 4), (1, u "com/example/certain_policy/certainpolicy/DataType"), (6, .class_ 12), (0, u "com/example/certain_policy/certainpolicy/DataType$8")] 10

/-- com/example/certain_policy/certainpolicy/DataType$8 -/
def k14 : Class := { plain "com/example/certain_policy/certainpolicy/DataType$8" (some 6) with
  accessFlags := 16432
  interfaces := #[]
  cf := some (fileOf pool14 11 #[.nestHost 2] #[] 16432 2 #[] #[])
  fields := #[]
  methods := #[]
  instanceTypes := #[(.object "java/lang/String"), .int, .int, (.object "java/lang/String"), (.object "java/lang/String")]
  staticTypes := #[]
  resolved := Array.replicate 23 none
  statics := none }

def pool15 : Array CpInfo := pool [(2, .class_ 4), (1, u "com/example/certain_policy/certainpolicy/DataType"), (39, .class_ 45), (0, u "com/example/certain_policy/certainpolicy/DataType$9")] 11

/-- com/example/certain_policy/certainpolicy/DataType$9 -/
def k15 : Class := { plain "com/example/certain_policy/certainpolicy/DataType$9" (some 6) with
  accessFlags := 16432
  interfaces := #[]
  cf := some (fileOf pool15 44 #[.nestHost 2] #[] 16432 2 #[] #[])
  fields := #[]
  methods := #[]
  instanceTypes := #[(.object "java/lang/String"), .int, .int, (.object "java/lang/String"), (.object "java/lang/String")]
  staticTypes := #[]
  resolved := Array.replicate 57 none
  statics := none }

def pool16 : Array CpInfo := pool [(2, .class_ 4), (1, u "com/example/certain_policy/certainpolicy/DataType"), (62, .class_ 68), (0, u "com/example/certain_policy/certainpolicy/DataType$10")] 12

/-- com/example/certain_policy/certainpolicy/DataType$10 -/
def k16 : Class := { plain "com/example/certain_policy/certainpolicy/DataType$10" (some 6) with
  accessFlags := 16432
  interfaces := #[]
  cf := some (fileOf pool16 67 #[.nestHost 2] #[] 16432 2 #[] #[])
  fields := #[]
  methods := #[]
  instanceTypes := #[(.object "java/lang/String"), .int, .int, (.object "java/lang/String"), (.object "java/lang/String")]
  staticTypes := #[]
  resolved := Array.replicate 81 none
  statics := none }

def pool17 : Array CpInfo := pool [(2, .class_ 4), (1, u "com/example/certain_policy/certainpolicy/DataType"), (12, .class_ 18), (0, u "com/example/certain_policy/certainpolicy/DataType$11")] 10

/-- com/example/certain_policy/certainpolicy/DataType$11 -/
def k17 : Class := { plain "com/example/certain_policy/certainpolicy/DataType$11" (some 6) with
  accessFlags := 16432
  interfaces := #[]
  cf := some (fileOf pool17 17 #[.nestHost 2] #[] 16432 2 #[] #[])
  fields := #[]
  methods := #[]
  instanceTypes := #[(.object "java/lang/String"), .int, .int, (.object "java/lang/String"), (.object "java/lang/String")]
  staticTypes := #[]
  resolved := Array.replicate 29 none
  statics := none }

def pool18 : Array CpInfo := pool [(2, .class_ 4), (1, u "com/example/certain_policy/certainpolicy/DataType"), (12, .class_ 18), (0, u "com/example/certain_policy/certainpolicy/DataType$12")] 10

/-- com/example/certain_policy/certainpolicy/DataType$12 -/
def k18 : Class := { plain "com/example/certain_policy/certainpolicy/DataType$12" (some 6) with
  accessFlags := 16432
  interfaces := #[]
  cf := some (fileOf pool18 17 #[.nestHost 2] #[] 16432 2 #[] #[])
  fields := #[]
  methods := #[]
  instanceTypes := #[(.object "java/lang/String"), .int, .int, (.object "java/lang/String"), (.object "java/lang/String")]
  staticTypes := #[]
  resolved := Array.replicate 29 none
  statics := none }

def pool19 : Array CpInfo := pool [(2, .class_ 4), (1, u "com/example/certain_policy/certainpolicy/DataType"), (8, .class_ 14), (0, u "com/example/certain_policy/certainpolicy/DataType$13")] 10

/-- com/example/certain_policy/certainpolicy/DataType$13 -/
def k19 : Class := { plain "com/example/certain_policy/certainpolicy/DataType$13" (some 6) with
  accessFlags := 16432
  interfaces := #[]
  cf := some (fileOf pool19 13 #[.nestHost 2] #[] 16432 2 #[] #[])
  fields := #[]
  methods := #[]
  instanceTypes := #[(.object "java/lang/String"), .int, .int, (.object "java/lang/String"), (.object "java/lang/String")]
  staticTypes := #[]
  resolved := Array.replicate 25 none
  statics := none }

def pool20 : Array CpInfo := pool [(2, .class_ 4), (1, u "com/example/certain_policy/certainpolicy/DataType"), (3, .class_ 10), (1, u "com/example/certain_policy/certainpolicy/DataType$14")] 18

/-- com/example/certain_policy/certainpolicy/DataType$14 -/
def k20 : Class := { plain "com/example/certain_policy/certainpolicy/DataType$14" (some 6) with
  accessFlags := 16432
  interfaces := #[]
  cf := some (fileOf pool20 8 #[.nestHost 2] #[] 16432 2 #[] #[])
  fields := #[]
  methods := #[]
  instanceTypes := #[(.object "java/lang/String"), .int, .int, (.object "java/lang/String"), (.object "java/lang/String")]
  staticTypes := #[]
  resolved := Array.replicate 29 none
  statics := none }

def pool21 : Array CpInfo := pool [(2, .class_ 4), (1, u "com/example/certain_policy/certainpolicy/DataType"), (3, .class_ 10), (1, u "com/example/certain_policy/certainpolicy/DataType$15")] 17

/-- com/example/certain_policy/certainpolicy/DataType$15 -/
def k21 : Class := { plain "com/example/certain_policy/certainpolicy/DataType$15" (some 6) with
  accessFlags := 16432
  interfaces := #[]
  cf := some (fileOf pool21 8 #[.nestHost 2] #[] 16432 2 #[] #[])
  fields := #[]
  methods := #[]
  instanceTypes := #[(.object "java/lang/String"), .int, .int, (.object "java/lang/String"), (.object "java/lang/String")]
  staticTypes := #[]
  resolved := Array.replicate 28 none
  statics := none }

def pool22 : Array CpInfo := pool [(2, .class_ 4), (1, u "com/example/certain_policy/certainpolicy/DataType"), (3, .class_ 10), (1, u "com/example/certain_policy/certainpolicy/DataType$16")] 17

/-- com/example/certain_policy/certainpolicy/DataType$16 -/
def k22 : Class := { plain "com/example/certain_policy/certainpolicy/DataType$16" (some 6) with
  accessFlags := 16432
  interfaces := #[]
  cf := some (fileOf pool22 8 #[.nestHost 2] #[] 16432 2 #[] #[])
  fields := #[]
  methods := #[]
  instanceTypes := #[(.object "java/lang/String"), .int, .int, (.object "java/lang/String"), (.object "java/lang/String")]
  staticTypes := #[]
  resolved := Array.replicate 28 none
  statics := none }

def pool23 : Array CpInfo := pool [(1, u "java/lang/Cloneable"), (0, .class_ 1), (0, u "java/lang/Object"), (0, .class_ 3)] 3

/-- java/lang/Cloneable -/
def k23 : Class := { plain "java/lang/Cloneable" (some 0) with
  accessFlags := 1537
  interfaces := #[]
  cf := some (fileOf pool23 2 #[] #[] 1537 4 #[] #[])
  fields := #[]
  methods := #[]
  instanceTypes := #[]
  staticTypes := #[]
  resolved := Array.replicate 8 none
  statics := none }

/-- the primitive byte -/
def k24 : Class := { plain "byte" none with kind := .primitive 'B', accessFlags := 0x411 }
/-- [B -/
def k25 : Class := { plain "[B" (some 0) with kind := .array 24 .byte, interfaces := #[23, 4], accessFlags := 1041 }

/-- the primitive int -/
def k26 : Class := { plain "int" none with kind := .primitive 'I', accessFlags := 0x411 }
/-- [I -/
def k27 : Class := { plain "[I" (some 0) with kind := .array 26 .int, interfaces := #[23, 4], accessFlags := 1041 }

/-- [Lcom/example/certain_policy/certainpolicy/DataType; -/
def k28 : Class := { plain "[Lcom/example/certain_policy/certainpolicy/DataType;" (some 0) with kind := .array 6 (.object "com/example/certain_policy/certainpolicy/DataType"), interfaces := #[23, 4], accessFlags := 1041 }

def heap : Heap := #[{ cls := 6, slots := #[.ref 1, .ref 2, .ref 3, .ref 4, .ref 5, .ref 6, .ref 7, .ref 8, .ref 9, .ref 10, .ref 11, .ref 12, .ref 13, .ref 14, .ref 15, .ref 16, .null, .null, .null, .null, .null, .null], vm := .statics 6 },
  { cls := 7, slots := #[.null, .int 0, .int 0, .null, .null], vm := .none },
  { cls := 8, slots := #[.null, .int 0, .int 0, .null, .null], vm := .none },
  { cls := 9, slots := #[.null, .int 0, .int 0, .null, .null], vm := .none },
  { cls := 10, slots := #[.null, .int 0, .int 0, .null, .null], vm := .none },
  { cls := 11, slots := #[.null, .int 0, .int 0, .null, .null], vm := .none },
  { cls := 12, slots := #[.null, .int 0, .int 0, .null, .null], vm := .none },
  { cls := 13, slots := #[.null, .int 0, .int 0, .null, .null], vm := .none },
  { cls := 14, slots := #[.null, .int 0, .int 0, .null, .null], vm := .none },
  { cls := 15, slots := #[.null, .int 0, .int 0, .null, .null], vm := .none },
  { cls := 16, slots := #[.null, .int 0, .int 0, .null, .null], vm := .none },
  { cls := 17, slots := #[.null, .int 0, .int 0, .null, .null], vm := .none },
  { cls := 18, slots := #[.null, .int 0, .int 0, .null, .null], vm := .none },
  { cls := 19, slots := #[.null, .int 0, .int 0, .null, .null], vm := .none },
  { cls := 20, slots := #[.null, .int 0, .int 0, .null, .null], vm := .none },
  { cls := 21, slots := #[.null, .int 0, .int 0, .null, .null], vm := .none },
  { cls := 22, slots := #[.null, .int 0, .int 0, .null, .null], vm := .none }]
def classes : Array Class := #[k0, k1, k2, k3, k4, k5, k6, k7, k8, k9, k10, k11, k12, k13, k14, k15, k16, k17, k18, k19, k20, k21, k22, k23, k24, k25, k26, k27, k28]
def interned : List (Array UInt16 × Addr) := []
def slotsUsed : Nat := 102
def theMethod : MethodId := ⟨1, 1⟩
def args0 : Array Value := #[.int 5]
def aboutOver (below : List Frame) : State where
  vm := { classes := classes, interned := interned.toArray }
  heap := heap
  slotsUsed := slotsUsed
  threads := #[{ frames := .invoking theMethod args0 :: below }]
def below0 : List Frame := [.native { method := ⟨0, 0⟩, args := #[] }]
def about1 : State := aboutOver below0
def p0 : Program := .bare "" "" ""
def e0 : Env := launch0.env 0 0 0
theorem w_frames : about1.frames = Frame.invoking theMethod args0 :: below0 := rfl
set_option maxRecDepth 65536 in
theorem w_args : argsFit about1.vm theMethod args0 = true := by decide +kernel
set_option maxRecDepth 65536 in
theorem w_heap : heapFits about1 = true := by decide +kernel
set_option maxRecDepth 65536 in
theorem w_runnable : about1.curStatus? = some .runnable := by decide +kernel
set_option maxRecDepth 65536 in
theorem w_alone : about1.alone = true := by decide +kernel
set_option maxRecDepth 65536 in
theorem w_named : about1.methodNamed? x = some theMethod := by decide +kernel
set_option maxRecDepth 65536 in
theorem w_hears : about1.hears theMethod below0 = true := by decide +kernel
set_option maxRecDepth 65536 in
theorem w_ripe : about1.ripe theMethod args0 below0 = true := by decide +kernel
theorem w_running : about1.status = .running := rfl
set_option maxRecDepth 65536 in
theorem w_room : about1.hasRoom e0.platform room_1 = true :=
  launch0.hasRoom_least _ room_1 (by decide +kernel) (by decide +kernel) (by decide +kernel) (by decide +kernel) (by decide +kernel) (by decide +kernel)
theorem allAtoms_all (ts : List Jvm.Cond) (a : Array Jvm.Value) (st : Jvm.State) : (allAtoms ts).before a st = ts.all (fun c => c.before a st) := by
  induction ts with
  | nil => rfl
  | cons c t ih =>
    show (Jvm.Cond.and c (allAtoms t)).before a st = _
    rw [Jvm.Cond.before_and, ih, List.all_cons]
def words1 : List Jvm.Cond := Jvm.Cond.code x code maxLocals ret :: tables_1
/-- a 'code' word, met by the world's own term for the bytes: nothing is compared byte by byte -/
theorem code_word {y : MethodName} {bytes : ByteArray} {mx : Nat} {rt : Option FieldType} {a : Array Value} {s : State} {m : MethodId} {meth : Method} {c : Code} (h1 : s.methodNamed? y = some m) (h2 : s.vm.method? m = some meth) (h3 : meth.code = some c) (h4 : c.code = bytes)
    (h5 : (c.maxLocals == mx && c.exceptionTable.isEmpty && decide (c.maxStack ≤ mostOperands) && decide (meth.sig.returnType = rt) && !meth.locks && decide (parseMethodDescriptor y.desc = some meth.sig)) = true) : (Jvm.Cond.code y bytes mx rt).before a s = true := by
  simp only [Bool.and_eq_true, beq_iff_eq, Bool.not_eq_true', decide_eq_true_eq] at h5
  obtain ⟨⟨⟨⟨⟨g1, g2⟩, g3⟩, g4⟩, g5⟩, g6⟩ := h5
  simp [Cond.before, Cond.holds, Cond.value, h1, h2, h3, h4, g1, g2, g3, g4, g5, g6]
def isCode : Jvm.Cond → Bool
  | .code _ _ _ _ => true
  | _ => false
theorem all_split {L : List Jvm.Cond} {P : Jvm.Cond → Bool} (h1 : L.all (fun c => isCode c || P c) = true) (h2 : ∀ c ∈ L.filter isCode, P c = true) : L.all P = true := by
  refine List.all_eq_true.mpr fun c hc => ?_
  have h := List.all_eq_true.mp h1 c hc
  rcases Bool.eq_false_or_eq_true (isCode c) with hi | hi
  · exact h2 c (List.mem_filter.mpr ⟨hc, hi⟩)
  · simpa [hi] using h
set_option maxRecDepth 65536 in
theorem w_c0 : (Jvm.Cond.code x code maxLocals ret).before args0 about1 = true := code_word (m := ⟨1, 1⟩) (meth := k1m1) (c := k1c1) (by decide +kernel) rfl rfl rfl (by decide +kernel)
set_option maxRecDepth 65536 in
theorem w_c1 : (Jvm.Cond.code ({ cls := "com/example/certain_policy/certainpolicy/DataType", name := "hasEquality", desc := "()Z" } : Jvm.MethodName) prog_19_method_16_code (1 : Nat) (Option.some Jvm.ClassFile.FieldType.boolean)).before args0 about1 = true := code_word (m := ⟨6, 0⟩) (meth := k6m0) (c := k6c0) (by decide +kernel) rfl rfl rfl (by decide +kernel)
def codes1 : List Jvm.Cond := [Jvm.Cond.code x code maxLocals ret, Jvm.Cond.code ({ cls := "com/example/certain_policy/certainpolicy/DataType", name := "hasEquality", desc := "()Z" } : Jvm.MethodName) prog_19_method_16_code (1 : Nat) (Option.some Jvm.ClassFile.FieldType.boolean)]
set_option maxRecDepth 65536 in
theorem codes_eq : words1.filter isCode = codes1 := rfl
theorem w_codes : ∀ c ∈ words1.filter isCode, c.before args0 about1 = true := by
  rw [codes_eq]
  intro c hc
  simp only [codes1, List.mem_cons, List.not_mem_nil, or_false] at hc
  rcases hc with rfl | rfl
  · exact w_c0
  · exact w_c1
set_option maxRecDepth 65536 in
theorem w_t1 : (words1.take 24).all (fun c => isCode c || c.before args0 about1) = true := by decide +kernel
set_option maxRecDepth 65536 in
theorem w_t2 : ((words1.drop 24).take 24).all (fun c => isCode c || c.before args0 about1) = true := by decide +kernel
set_option maxRecDepth 65536 in
theorem w_t3 : (((words1.drop 24).drop 24).take 24).all (fun c => isCode c || c.before args0 about1) = true := by decide +kernel
set_option maxRecDepth 65536 in
theorem w_t4 : (((words1.drop 24).drop 24).drop 24).all (fun c => isCode c || c.before args0 about1) = true := by decide +kernel
theorem w_tables : (allAtoms (Jvm.Cond.code x code maxLocals ret :: tables_1)).before args0 about1 = true := by
  rw [allAtoms_all]
  show words1.all (fun c => c.before args0 about1) = true
  refine all_split ?_ w_codes
  rw [← List.take_append_drop 24 words1, List.all_append, w_t1, ← List.take_append_drop 24 (words1.drop 24), List.all_append, w_t2, ← List.take_append_drop 24 ((words1.drop 24).drop 24), List.all_append, w_t3, w_t4]
  rfl
set_option maxRecDepth 65536 in
theorem w_case : (Jvm.Cond.and given_1 narrow_1).before args0 about1 = true := by decide +kernel
theorem w_applies : (headSpec (Jvm.Cond.code x code maxLocals ret :: tables_1) room_1).applies x e0.platform about1 = true :=
  (Spec.applies_iff w_frames).mpr ⟨w_running, w_runnable, w_alone, w_named, w_hears, w_ripe, w_room, w_tables⟩
theorem atStart : AtStart classFile x code maxLocals ret World_1 tables_1 room_1 Calls_1 rest_1 Pre_1 launch0 p0 e0 about1 theMethod args0 below0 :=
  ⟨lists_1, trivial, launch0.admits_env _ _ _, launch0.least_env, fairChoices_fair.cas, fairChoices_fair.clock, w_frames, w_args, w_heap, w_applies, trivial, trivial, w_case⟩
end start1
theorem witness_1 : WitnessClaimed_1 := ⟨start1.p0, start1.e0, start1.about1, start1.theMethod, start1.args0, start1.below0, start1.atStart⟩
end Jvm.Pilot.@@N@@
