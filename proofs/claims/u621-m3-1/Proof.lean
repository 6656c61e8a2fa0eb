import JvmDerived
import JvmDerived.Pilot.@@N@@Statement
import JvmDerived.Pilot.@@N@@Code
set_option linter.unusedVariables false
set_option linter.unusedSimpArgs false
namespace Jvm.Pilot.@@N@@
open Jvm Jvm.ClassFile Sem Op Lib Jvm.Free Jvm.Stand Jvm.LawKit Jvm.RoadKit Bundle Jvm.Pilot.@@N@@.Jvm.D
theorem own_adv {tb : Tables} {e : Env} {below : List Frame} {A B : State} {P : State → Outcome → Prop} (h : ∀ t, Steps tb e below B t → Steps tb e below A t) (k : ∃ s₂ o, Steps tb e below B s₂ ∧ P s₂ o) : ∃ s₂ o, Steps tb e below A s₂ ∧ P s₂ o := by
  obtain ⟨a, b, c, d⟩ := k
  exact ⟨a, b, h a c, d⟩
theorem own_feqi {args : Array Value} {s : State} {t : Term} {C n d : String} {k : Int32} {x : Addr} (ht : t.eval args s none [] s = some (.ref x)) (h : (Cond.eq (.field t C n d) (.int k)).value args s none s [] = some true) : Fld s s.heap x C n d (.int k) := by
  refine Fld.start ?_
  have hf := fld_at (C := C) (n := n) (dd := d) ht
  obtain ⟨x1, y1, e1, e2, k1, k2⟩ := cmp_v (Or.inl h)
  have e3 : y1 = .int k := Option.some.inj (e2.symm.trans (Term.int_eval k))
  subst e3
  obtain ⟨z, rfl⟩ := k2
  simp [Cond.value, e1, e2] at h
  rw [← hf, e1, h]
theorem own_feqr {args : Array Value} {s : State} {t u : Term} {C n d : String} {x y : Addr} (ht : t.eval args s none [] s = some (.ref x)) (hu : u.eval args s none [] s = some (.ref y)) (h : (Cond.eq (.field t C n d) u).value args s none s [] = some true) : Fld s s.heap x C n d (.ref y) := by
  refine Fld.start ?_
  have hf := fld_at (C := C) (n := n) (dd := d) ht
  obtain ⟨x1, y1, e1, e2, k1, k2⟩ := cmp_v (Or.inl h)
  have e3 : y1 = .ref y := Option.some.inj (e2.symm.trans hu)
  subst e3
  have r := k2.2
  rcases ref_cases r with rfl | ⟨z, rfl⟩
  · simp [Cond.value, e1, e2] at h
  · simp [Cond.value, e1, e2] at h
    rw [← hf, e1, h]
theorem own_pn_java_util_AbstractCollection : plainName "java/util/AbstractCollection" = true := by first | (simp [plainName, overriddenIn]; done) | decide +kernel
theorem own_ef_rmABC (m : MethodId) (x0 : Addr) : entryFrame m #[(.ref x0)] 1 = mkF m 0 #[.val (.ref x0)] [] := by first | (simp [entryFrame, mkF, argsToLocals, Value.category, maxLocals]; done) | rfl
theorem own_d3_0 : decode jdk_22_method_1_code 0 = .ok (.aload_n 0, 1) := by decide +kernel
theorem own_d3_1 : decode jdk_22_method_1_code 1 = .ok (.invokespecial 1, 3) := by decide +kernel
theorem own_d3_4 : decode jdk_22_method_1_code 4 = .ok (.return_, 1) := by decide +kernel
theorem own_pn_java_util_AbstractList : plainName "java/util/AbstractList" = true := by first | (simp [plainName, overriddenIn]; done) | decide +kernel
theorem own_ef_rmABL (m : MethodId) (x0 : Addr) : entryFrame m #[(.ref x0)] 1 = mkF m 0 #[.val (.ref x0)] [] := by first | (simp [entryFrame, mkF, argsToLocals, Value.category, maxLocals]; done) | rfl
theorem own_d2_0 : decode jdk_39_method_1_code 0 = .ok (.aload_n 0, 1) := by decide +kernel
theorem own_d2_1 : decode jdk_39_method_1_code 1 = .ok (.invokespecial 1, 3) := by decide +kernel
theorem own_pd___V : parseMethodDescriptor "()V" = some ⟨[], none⟩ := by decide +kernel
theorem own_d2_4 : decode jdk_39_method_1_code 4 = .ok (.aload_n 0, 1) := by decide +kernel
theorem own_d2_5 : decode jdk_39_method_1_code 5 = .ok (.iconst 0, 1) := by decide +kernel
theorem own_d2_6 : decode jdk_39_method_1_code 6 = .ok (.putfield 7, 3) := by decide +kernel
theorem own_d2_9 : decode jdk_39_method_1_code 9 = .ok (.return_, 1) := by decide +kernel
theorem own_pn_java_util_ArrayList : plainName "java/util/ArrayList" = true := by first | (simp [plainName, overriddenIn]; done) | decide +kernel
theorem own_ef_rmAL (m : MethodId) (x0 : Addr) : entryFrame m #[(.ref x0)] 1 = mkF m 0 #[.val (.ref x0)] [] := by first | (simp [entryFrame, mkF, argsToLocals, Value.category, maxLocals]; done) | rfl
theorem own_d1_0 : decode jdk_38_method_2_code 0 = .ok (.aload_n 0, 1) := by decide +kernel
theorem own_d1_1 : decode jdk_38_method_2_code 1 = .ok (.invokespecial 1, 3) := by decide +kernel
theorem own_d1_4 : decode jdk_38_method_2_code 4 = .ok (.aload_n 0, 1) := by decide +kernel
theorem own_d1_5 : decode jdk_38_method_2_code 5 = .ok (.getstatic 39, 3) := by decide +kernel
theorem own_d1_8 : decode jdk_38_method_2_code 8 = .ok (.putfield 9, 3) := by decide +kernel
theorem own_d1_11 : decode jdk_38_method_2_code 11 = .ok (.return_, 1) := by decide +kernel
theorem own_pn_java_lang_Number : plainName "java/lang/Number" = true := by first | (simp [plainName, overriddenIn]; done) | decide +kernel
theorem own_ef_rmNum (m : MethodId) (x0 : Addr) : entryFrame m #[(.ref x0)] 1 = mkF m 0 #[.val (.ref x0)] [] := by first | (simp [entryFrame, mkF, argsToLocals, Value.category, maxLocals]; done) | rfl
theorem own_d25_0 : decode jdk_18_method_1_code 0 = .ok (.aload_n 0, 1) := by decide +kernel
theorem own_d25_1 : decode jdk_18_method_1_code 1 = .ok (.invokespecial 1, 3) := by decide +kernel
theorem own_d25_4 : decode jdk_18_method_1_code 4 = .ok (.return_, 1) := by decide +kernel
theorem own_pn_java_lang_Integer : plainName "java/lang/Integer" = true := by first | (simp [plainName, overriddenIn]; done) | decide +kernel
theorem own_ef_rmII (m : MethodId) (x0 : Addr) (x1 : Int32) : entryFrame m #[(.ref x0), (.int x1)] 2 = mkF m 0 #[.val (.ref x0), .val (.int x1)] [] := by first | (simp [entryFrame, mkF, argsToLocals, Value.category, maxLocals]; done) | rfl
theorem own_d24_0 : decode jdk_33_method_23_code 0 = .ok (.aload_n 0, 1) := by decide +kernel
theorem own_d24_1 : decode jdk_33_method_23_code 1 = .ok (.invokespecial 202, 3) := by decide +kernel
theorem own_d24_4 : decode jdk_33_method_23_code 4 = .ok (.aload_n 0, 1) := by decide +kernel
theorem own_d24_5 : decode jdk_33_method_23_code 5 = .ok (.iload_n 1, 1) := by decide +kernel
theorem own_d24_6 : decode jdk_33_method_23_code 6 = .ok (.putfield 205, 3) := by decide +kernel
theorem own_d24_9 : decode jdk_33_method_23_code 9 = .ok (.return_, 1) := by decide +kernel
theorem own_ef_rmVO (m : MethodId) (x0 : Int32) : entryFrame m #[(.int x0)] 1 = mkF m 0 #[.val (.int x0)] [] := by first | (simp [entryFrame, mkF, argsToLocals, Value.category, maxLocals]; done) | rfl
theorem own_d18_0 : decode jdk_33_method_22_code 0 = .ok (.iload_n 0, 1) := by decide +kernel
theorem own_d18_1 : decode jdk_33_method_22_code 1 = .ok (.bipush (-128), 2) := by decide +kernel
theorem own_d18_3 : decode jdk_33_method_22_code 3 = .ok (.if_icmp .lt 20, 3) := by decide +kernel
theorem own_d18_23 : decode jdk_33_method_22_code 23 = .ok (.new 1, 3) := by decide +kernel
theorem own_d18_26 : decode jdk_33_method_22_code 26 = .ok (.dup, 1) := by decide +kernel
theorem own_d18_27 : decode jdk_33_method_22_code 27 = .ok (.iload_n 0, 1) := by decide +kernel
theorem own_d18_28 : decode jdk_33_method_22_code 28 = .ok (.invokespecial 199, 3) := by decide +kernel
theorem own_pd__I_V : parseMethodDescriptor "(I)V" = some ⟨[.int], none⟩ := by decide +kernel
theorem own_d18_31 : decode jdk_33_method_22_code 31 = .ok (.areturn, 1) := by decide +kernel
theorem own_d18_6 : decode jdk_33_method_22_code 6 = .ok (.iload_n 0, 1) := by decide +kernel
theorem own_d18_7 : decode jdk_33_method_22_code 7 = .ok (.getstatic 191, 3) := by decide +kernel
theorem own_d18_10 : decode jdk_33_method_22_code 10 = .ok (.if_icmp .gt 13, 3) := by decide +kernel
theorem own_d18_13 : decode jdk_33_method_22_code 13 = .ok (.getstatic 195, 3) := by decide +kernel
theorem own_d18_16 : decode jdk_33_method_22_code 16 = .ok (.iload_n 0, 1) := by decide +kernel
theorem own_d18_17 : decode jdk_33_method_22_code 17 = .ok (.sipush 128, 3) := by decide +kernel
theorem own_d18_20 : decode jdk_33_method_22_code 20 = .ok (.iadd, 1) := by decide +kernel
theorem own_d18_21 : decode jdk_33_method_22_code 21 = .ok (.aaload, 1) := by decide +kernel
theorem own_d18_22 : decode jdk_33_method_22_code 22 = .ok (.areturn, 1) := by decide +kernel
theorem own_ef_rmMax (m : MethodId) (x0 : Int32) (x1 : Int32) : entryFrame m #[(.int x0), (.int x1)] 2 = mkF m 0 #[.val (.int x0), .val (.int x1)] [] := by first | (simp [entryFrame, mkF, argsToLocals, Value.category, maxLocals]; done) | rfl
theorem own_d23_0 : decode jdk_29_method_65_code 0 = .ok (.iload_n 0, 1) := by decide +kernel
theorem own_d23_1 : decode jdk_29_method_65_code 1 = .ok (.iload_n 1, 1) := by decide +kernel
theorem own_d23_2 : decode jdk_29_method_65_code 2 = .ok (.if_icmp .lt 7, 3) := by decide +kernel
theorem own_d23_5 : decode jdk_29_method_65_code 5 = .ok (.iload_n 0, 1) := by decide +kernel
theorem own_d23_6 : decode jdk_29_method_65_code 6 = .ok (.goto 4, 3) := by decide +kernel
theorem own_d23_10 : decode jdk_29_method_65_code 10 = .ok (.ireturn, 1) := by decide +kernel
theorem own_ef_rmMin_ (m : MethodId) (x0 : Int32) (x1 : Int32) : entryFrame m #[(.int x0), (.int x1)] 2 = mkF m 0 #[.val (.int x0), .val (.int x1)] [] := by first | (simp [entryFrame, mkF, argsToLocals, Value.category, maxLocals]; done) | rfl
theorem own_d13_0 : decode jdk_29_method_69_code 0 = .ok (.iload_n 0, 1) := by decide +kernel
theorem own_d13_1 : decode jdk_29_method_69_code 1 = .ok (.iload_n 1, 1) := by decide +kernel
theorem own_d13_2 : decode jdk_29_method_69_code 2 = .ok (.if_icmp .gt 7, 3) := by decide +kernel
theorem own_d13_9 : decode jdk_29_method_69_code 9 = .ok (.iload_n 1, 1) := by decide +kernel
theorem own_d13_10 : decode jdk_29_method_69_code 10 = .ok (.ireturn, 1) := by decide +kernel
theorem own_d13_5 : decode jdk_29_method_69_code 5 = .ok (.iload_n 0, 1) := by decide +kernel
theorem own_d13_6 : decode jdk_29_method_69_code 6 = .ok (.goto 4, 3) := by decide +kernel
theorem own_ef_rmG1 (m : MethodId) (x0 : Addr) (x1 : Int32) : entryFrame m #[(.ref x0), (.int x1)] 4 = mkF m 0 #[.val (.ref x0), .val (.int x1), .unset, .unset] [] := by first | (simp [entryFrame, mkF, argsToLocals, Value.category, maxLocals]; done) | rfl
theorem own_d22_0 : decode jdk_38_method_6_code 0 = .ok (.aload_n 0, 1) := by decide +kernel
theorem own_d22_1 : decode jdk_38_method_6_code 1 = .ok (.getfield 9, 3) := by decide +kernel
theorem own_d22_4 : decode jdk_38_method_6_code 4 = .ok (.arraylength, 1) := by decide +kernel
theorem own_d22_5 : decode jdk_38_method_6_code 5 = .ok (.istore_n 2, 1) := by decide +kernel
theorem own_d22_6 : decode jdk_38_method_6_code 6 = .ok (.iload_n 2, 1) := by decide +kernel
theorem own_d22_7 : decode jdk_38_method_6_code 7 = .ok (.ifCond .gt 13, 3) := by decide +kernel
theorem own_d22_10 : decode jdk_38_method_6_code 10 = .ok (.aload_n 0, 1) := by decide +kernel
theorem own_d22_11 : decode jdk_38_method_6_code 11 = .ok (.getfield 9, 3) := by decide +kernel
theorem own_d22_14 : decode jdk_38_method_6_code 14 = .ok (.getstatic 39, 3) := by decide +kernel
theorem own_d22_17 : decode jdk_38_method_6_code 17 = .ok (.if_acmp .eq 28, 3) := by decide +kernel
theorem own_d22_45 : decode jdk_38_method_6_code 45 = .ok (.aload_n 0, 1) := by decide +kernel
theorem own_d22_46 : decode jdk_38_method_6_code 46 = .ok (.bipush 10, 2) := by decide +kernel
theorem own_d22_48 : decode jdk_38_method_6_code 48 = .ok (.iload_n 1, 1) := by decide +kernel
theorem own_d22_49 : decode jdk_38_method_6_code 49 = .ok (.invokestatic 79, 3) := by decide +kernel
theorem own_pd__II_I : parseMethodDescriptor "(II)I" = some ⟨[.int, .int], some .int⟩ := by decide +kernel
theorem own_d22_52 : decode jdk_38_method_6_code 52 = .ok (.anewarray 7, 3) := by decide +kernel
theorem own_d22_55 : decode jdk_38_method_6_code 55 = .ok (.dup_x1, 1) := by decide +kernel
theorem own_d22_56 : decode jdk_38_method_6_code 56 = .ok (.putfield 9, 3) := by decide +kernel
theorem own_d22_59 : decode jdk_38_method_6_code 59 = .ok (.areturn, 1) := by decide +kernel
theorem own_ef_rmG0 (m : MethodId) (x0 : Addr) : entryFrame m #[(.ref x0)] 1 = mkF m 0 #[.val (.ref x0)] [] := by first | (simp [entryFrame, mkF, argsToLocals, Value.category, maxLocals]; done) | rfl
theorem own_d21_0 : decode jdk_38_method_7_code 0 = .ok (.aload_n 0, 1) := by decide +kernel
theorem own_d21_1 : decode jdk_38_method_7_code 1 = .ok (.aload_n 0, 1) := by decide +kernel
theorem own_d21_2 : decode jdk_38_method_7_code 2 = .ok (.getfield 48, 3) := by decide +kernel
theorem own_d21_5 : decode jdk_38_method_7_code 5 = .ok (.iconst 1, 1) := by decide +kernel
theorem own_d21_6 : decode jdk_38_method_7_code 6 = .ok (.iadd, 1) := by decide +kernel
theorem own_d21_7 : decode jdk_38_method_7_code 7 = .ok (.invokevirtual 69, 3) := by decide +kernel
theorem own_pd__I__Ljava_lang_Object_ : parseMethodDescriptor "(I)[Ljava/lang/Object;" = some ⟨[.int], some (.array (.object "java/lang/Object"))⟩ := by decide +kernel
theorem own_d21_10 : decode jdk_38_method_7_code 10 = .ok (.areturn, 1) := by decide +kernel
theorem own_ef_rmA3F (m : MethodId) (x0 : Addr) (x1 : Addr) (x2 : Addr) (x3 : Int32) : entryFrame m #[(.ref x0), (.ref x1), (.ref x2), (.int x3)] 4 = mkF m 0 #[.val (.ref x0), .val (.ref x1), .val (.ref x2), .val (.int x3)] [] := by first | (simp [entryFrame, mkF, argsToLocals, Value.category, maxLocals]; done) | rfl
theorem own_d20_0 : decode jdk_38_method_24_code 0 = .ok (.iload_n 3, 1) := by decide +kernel
theorem own_d20_1 : decode jdk_38_method_24_code 1 = .ok (.aload_n 2, 1) := by decide +kernel
theorem own_d20_2 : decode jdk_38_method_24_code 2 = .ok (.arraylength, 1) := by decide +kernel
theorem own_d20_3 : decode jdk_38_method_24_code 3 = .ok (.if_icmp .ne 8, 3) := by decide +kernel
theorem own_d20_6 : decode jdk_38_method_24_code 6 = .ok (.aload_n 0, 1) := by decide +kernel
theorem own_d20_7 : decode jdk_38_method_24_code 7 = .ok (.invokevirtual 129, 3) := by decide +kernel
theorem own_pd____Ljava_lang_Object_ : parseMethodDescriptor "()[Ljava/lang/Object;" = some ⟨[], some (.array (.object "java/lang/Object"))⟩ := by decide +kernel
theorem own_d20_10 : decode jdk_38_method_24_code 10 = .ok (.astore_n 2, 1) := by decide +kernel
theorem own_d20_11 : decode jdk_38_method_24_code 11 = .ok (.aload_n 2, 1) := by decide +kernel
theorem own_d20_12 : decode jdk_38_method_24_code 12 = .ok (.iload_n 3, 1) := by decide +kernel
theorem own_d20_13 : decode jdk_38_method_24_code 13 = .ok (.aload_n 1, 1) := by decide +kernel
theorem own_d20_14 : decode jdk_38_method_24_code 14 = .ok (.aastore, 1) := by decide +kernel
theorem own_d20_15 : decode jdk_38_method_24_code 15 = .ok (.aload_n 0, 1) := by decide +kernel
theorem own_d20_16 : decode jdk_38_method_24_code 16 = .ok (.iload_n 3, 1) := by decide +kernel
theorem own_d20_17 : decode jdk_38_method_24_code 17 = .ok (.iconst 1, 1) := by decide +kernel
theorem own_d20_18 : decode jdk_38_method_24_code 18 = .ok (.iadd, 1) := by decide +kernel
theorem own_d20_19 : decode jdk_38_method_24_code 19 = .ok (.putfield 48, 3) := by decide +kernel
theorem own_d20_22 : decode jdk_38_method_24_code 22 = .ok (.return_, 1) := by decide +kernel
theorem own_ef_rmA3N (m : MethodId) (x0 : Addr) (x1 : Addr) (x2 : Addr) (x3 : Int32) : entryFrame m #[(.ref x0), (.ref x1), (.ref x2), (.int x3)] 4 = mkF m 0 #[.val (.ref x0), .val (.ref x1), .val (.ref x2), .val (.int x3)] [] := by first | (simp [entryFrame, mkF, argsToLocals, Value.category, maxLocals]; done) | rfl
theorem own_ef_rmA3N0 (m : MethodId) (x0 : Addr) (x2 : Addr) (x3 : Int32) : entryFrame m #[(.ref x0), .null, (.ref x2), (.int x3)] 4 = mkF m 0 #[.val (.ref x0), .val .null, .val (.ref x2), .val (.int x3)] [] := by first | (simp [entryFrame, mkF, argsToLocals, Value.category, maxLocals]; done) | rfl
theorem own_ef_rmAF (m : MethodId) (x0 : Addr) (x1 : Addr) : entryFrame m #[(.ref x0), (.ref x1)] 2 = mkF m 0 #[.val (.ref x0), .val (.ref x1)] [] := by first | (simp [entryFrame, mkF, argsToLocals, Value.category, maxLocals]; done) | rfl
theorem own_d19_0 : decode jdk_38_method_25_code 0 = .ok (.aload_n 0, 1) := by decide +kernel
theorem own_d19_1 : decode jdk_38_method_25_code 1 = .ok (.dup, 1) := by decide +kernel
theorem own_d19_2 : decode jdk_38_method_25_code 2 = .ok (.getfield 63, 3) := by decide +kernel
theorem own_d19_5 : decode jdk_38_method_25_code 5 = .ok (.iconst 1, 1) := by decide +kernel
theorem own_d19_6 : decode jdk_38_method_25_code 6 = .ok (.iadd, 1) := by decide +kernel
theorem own_d19_7 : decode jdk_38_method_25_code 7 = .ok (.putfield 63, 3) := by decide +kernel
theorem own_d19_10 : decode jdk_38_method_25_code 10 = .ok (.aload_n 0, 1) := by decide +kernel
theorem own_d19_11 : decode jdk_38_method_25_code 11 = .ok (.aload_n 1, 1) := by decide +kernel
theorem own_d19_12 : decode jdk_38_method_25_code 12 = .ok (.aload_n 0, 1) := by decide +kernel
theorem own_d19_13 : decode jdk_38_method_25_code 13 = .ok (.getfield 9, 3) := by decide +kernel
theorem own_d19_16 : decode jdk_38_method_25_code 16 = .ok (.aload_n 0, 1) := by decide +kernel
theorem own_d19_17 : decode jdk_38_method_25_code 17 = .ok (.getfield 48, 3) := by decide +kernel
theorem own_d19_20 : decode jdk_38_method_25_code 20 = .ok (.invokevirtual 131, 3) := by decide +kernel
theorem own_pd__Ljava_lang_Object__Ljava_lang_Object_I_V : parseMethodDescriptor "(Ljava/lang/Object;[Ljava/lang/Object;I)V" = some ⟨[(.object "java/lang/Object"), (.array (.object "java/lang/Object")), .int], none⟩ := by decide +kernel
theorem own_d19_23 : decode jdk_38_method_25_code 23 = .ok (.iconst 1, 1) := by decide +kernel
theorem own_d19_24 : decode jdk_38_method_25_code 24 = .ok (.ireturn, 1) := by decide +kernel
theorem own_ef_rmAN (m : MethodId) (x0 : Addr) (x1 : Addr) : entryFrame m #[(.ref x0), (.ref x1)] 2 = mkF m 0 #[.val (.ref x0), .val (.ref x1)] [] := by first | (simp [entryFrame, mkF, argsToLocals, Value.category, maxLocals]; done) | rfl
theorem own_ef_rmAN0 (m : MethodId) (x0 : Addr) : entryFrame m #[(.ref x0), .null] 2 = mkF m 0 #[.val (.ref x0), .val .null] [] := by first | (simp [entryFrame, mkF, argsToLocals, Value.category, maxLocals]; done) | rfl
theorem own_pn_java_util_Arrays : plainName "java/util/Arrays" = true := by first | (simp [plainName, overriddenIn]; done) | decide +kernel
theorem own_ef_rmC3 (m : MethodId) (x0 : Addr) (x1 : Int32) (x2 : Addr) : entryFrame m #[(.ref x0), (.int x1), (.ref x2)] 4 = mkF m 0 #[.val (.ref x0), .val (.int x1), .val (.ref x2), .unset] [] := by first | (simp [entryFrame, mkF, argsToLocals, Value.category, maxLocals]; done) | rfl
theorem own_d12_0 : decode jdk_65_method_120_code 0 = .ok (.aload_n 2, 1) := by decide +kernel
theorem own_d12_1 : decode jdk_65_method_120_code 1 = .ok (.ldc 110, 2) := by decide +kernel
theorem own_d12_3 : decode jdk_65_method_120_code 3 = .ok (.if_acmp .ne 10, 3) := by decide +kernel
theorem own_d12_6 : decode jdk_65_method_120_code 6 = .ok (.iload_n 1, 1) := by decide +kernel
theorem own_d12_7 : decode jdk_65_method_120_code 7 = .ok (.anewarray 2, 3) := by decide +kernel
theorem own_d12_10 : decode jdk_65_method_120_code 10 = .ok (.goto 14, 3) := by decide +kernel
theorem own_d12_24 : decode jdk_65_method_120_code 24 = .ok (.astore_n 3, 1) := by decide +kernel
theorem own_d12_25 : decode jdk_65_method_120_code 25 = .ok (.aload_n 0, 1) := by decide +kernel
theorem own_d12_26 : decode jdk_65_method_120_code 26 = .ok (.iconst 0, 1) := by decide +kernel
theorem own_d12_27 : decode jdk_65_method_120_code 27 = .ok (.aload_n 3, 1) := by decide +kernel
theorem own_d12_28 : decode jdk_65_method_120_code 28 = .ok (.iconst 0, 1) := by decide +kernel
theorem own_d12_29 : decode jdk_65_method_120_code 29 = .ok (.aload_n 0, 1) := by decide +kernel
theorem own_d12_30 : decode jdk_65_method_120_code 30 = .ok (.arraylength, 1) := by decide +kernel
theorem own_d12_31 : decode jdk_65_method_120_code 31 = .ok (.iload_n 1, 1) := by decide +kernel
theorem own_d12_32 : decode jdk_65_method_120_code 32 = .ok (.invokestatic 304, 3) := by decide +kernel
theorem own_d12_35 : decode jdk_65_method_120_code 35 = .ok (.invokestatic 150, 3) := by decide +kernel
theorem own_d12_38 : decode jdk_65_method_120_code 38 = .ok (.aload_n 3, 1) := by decide +kernel
theorem own_d12_39 : decode jdk_65_method_120_code 39 = .ok (.areturn, 1) := by decide +kernel
theorem own_ef_rmC2 (m : MethodId) (x0 : Addr) (x1 : Int32) : entryFrame m #[(.ref x0), (.int x1)] 2 = mkF m 0 #[.val (.ref x0), .val (.int x1)] [] := by first | (simp [entryFrame, mkF, argsToLocals, Value.category, maxLocals]; done) | rfl
theorem own_d11_0 : decode jdk_65_method_119_code 0 = .ok (.aload_n 0, 1) := by decide +kernel
theorem own_d11_1 : decode jdk_65_method_119_code 1 = .ok (.iload_n 1, 1) := by decide +kernel
theorem own_d11_2 : decode jdk_65_method_119_code 2 = .ok (.aload_n 0, 1) := by decide +kernel
theorem own_d11_3 : decode jdk_65_method_119_code 3 = .ok (.invokevirtual 86, 3) := by decide +kernel
theorem own_d11_6 : decode jdk_65_method_119_code 6 = .ok (.invokestatic 300, 3) := by decide +kernel
theorem own_pd___Ljava_lang_Object_ILjava_lang_Class___Ljava_lang_Object_ : parseMethodDescriptor "([Ljava/lang/Object;ILjava/lang/Class;)[Ljava/lang/Object;" = some ⟨[(.array (.object "java/lang/Object")), .int, (.object "java/lang/Class")], some (.array (.object "java/lang/Object"))⟩ := by decide +kernel
theorem own_d11_9 : decode jdk_65_method_119_code 9 = .ok (.areturn, 1) := by decide +kernel
theorem own_ef_rmTA (m : MethodId) (x0 : Addr) : entryFrame m #[(.ref x0)] 1 = mkF m 0 #[.val (.ref x0)] [] := by first | (simp [entryFrame, mkF, argsToLocals, Value.category, maxLocals]; done) | rfl
theorem own_d10_0 : decode jdk_38_method_16_code 0 = .ok (.aload_n 0, 1) := by decide +kernel
theorem own_d10_1 : decode jdk_38_method_16_code 1 = .ok (.getfield 9, 3) := by decide +kernel
theorem own_d10_4 : decode jdk_38_method_16_code 4 = .ok (.aload_n 0, 1) := by decide +kernel
theorem own_d10_5 : decode jdk_38_method_16_code 5 = .ok (.getfield 48, 3) := by decide +kernel
theorem own_d10_8 : decode jdk_38_method_16_code 8 = .ok (.invokestatic 66, 3) := by decide +kernel
theorem own_pd___Ljava_lang_Object_I__Ljava_lang_Object_ : parseMethodDescriptor "([Ljava/lang/Object;I)[Ljava/lang/Object;" = some ⟨[(.array (.object "java/lang/Object")), .int], some (.array (.object "java/lang/Object"))⟩ := by decide +kernel
theorem own_d10_11 : decode jdk_38_method_16_code 11 = .ok (.areturn, 1) := by decide +kernel
theorem own_pn_java_util_List : plainName "java/util/List" = true := by first | (simp [plainName, overriddenIn]; done) | decide +kernel
theorem own_ef_rmOF (m : MethodId) : entryFrame m #[] 0 = mkF m 0 #[] [] := by first | (simp [entryFrame, mkF, argsToLocals, Value.category, maxLocals]; done) | rfl
theorem own_d7_0 : decode jdk_40_method_36_code 0 = .ok (.getstatic 90, 3) := by decide +kernel
theorem own_d7_3 : decode jdk_40_method_36_code 3 = .ok (.areturn, 1) := by decide +kernel
theorem own_pn_java_util_ImmutableCollections_ListN : plainName "java/util/ImmutableCollections$ListN" = true := by first | (simp [plainName, overriddenIn]; done) | decide +kernel
theorem own_ef_rmIE (m : MethodId) (x0 : Addr) : entryFrame m #[(.ref x0)] 1 = mkF m 0 #[.val (.ref x0)] [] := by first | (simp [entryFrame, mkF, argsToLocals, Value.category, maxLocals]; done) | rfl
theorem own_d16_0 : decode jdk_45_method_2_code 0 = .ok (.aload_n 0, 1) := by decide +kernel
theorem own_d16_1 : decode jdk_45_method_2_code 1 = .ok (.getfield 7, 3) := by decide +kernel
theorem own_d16_4 : decode jdk_45_method_2_code 4 = .ok (.arraylength, 1) := by decide +kernel
theorem own_d16_5 : decode jdk_45_method_2_code 5 = .ok (.ifCond .ne 7, 3) := by decide +kernel
theorem own_d16_8 : decode jdk_45_method_2_code 8 = .ok (.iconst 1, 1) := by decide +kernel
theorem own_d16_9 : decode jdk_45_method_2_code 9 = .ok (.goto 4, 3) := by decide +kernel
theorem own_d16_13 : decode jdk_45_method_2_code 13 = .ok (.ireturn, 1) := by decide +kernel
theorem own_pn_jakarta_faces_model_DataModel : plainName "jakarta/faces/model/DataModel" = true := by first | (simp [plainName, overriddenIn]; done) | decide +kernel
theorem own_ef_rmDMI (m : MethodId) (x0 : Addr) : entryFrame m #[(.ref x0)] 1 = mkF m 0 #[.val (.ref x0)] [] := by first | (simp [entryFrame, mkF, argsToLocals, Value.category, maxLocals]; done) | rfl
theorem own_d6_0 : decode prog_42_method_1_code 0 = .ok (.aload_n 0, 1) := by decide +kernel
theorem own_d6_1 : decode prog_42_method_1_code 1 = .ok (.invokespecial 1, 3) := by decide +kernel
theorem own_d6_4 : decode prog_42_method_1_code 4 = .ok (.aload_n 0, 1) := by decide +kernel
theorem own_d6_5 : decode prog_42_method_1_code 5 = .ok (.invokestatic 7, 3) := by decide +kernel
theorem own_pd___Ljava_util_List_ : parseMethodDescriptor "()Ljava/util/List;" = some ⟨[], some (.object "java/util/List")⟩ := by decide +kernel
theorem own_d6_8 : decode prog_42_method_1_code 8 = .ok (.putfield 13, 3) := by decide +kernel
theorem own_d6_11 : decode prog_42_method_1_code 11 = .ok (.aload_n 0, 1) := by decide +kernel
theorem own_d6_12 : decode prog_42_method_1_code 12 = .ok (.iconst (-1), 1) := by decide +kernel
theorem own_d6_13 : decode prog_42_method_1_code 13 = .ok (.putfield 19, 3) := by decide +kernel
theorem own_d6_16 : decode prog_42_method_1_code 16 = .ok (.return_, 1) := by decide +kernel
theorem own_pn_jakarta_faces_model_CollectionDataModel : plainName "jakarta/faces/model/CollectionDataModel" = true := by first | (simp [plainName, overriddenIn]; done) | decide +kernel
theorem own_ef_rmCDI (m : MethodId) (x0 : Addr) : entryFrame m #[(.ref x0)] 1 = mkF m 0 #[.val (.ref x0)] [] := by first | (simp [entryFrame, mkF, argsToLocals, Value.category, maxLocals]; done) | rfl
theorem own_d5_0 : decode prog_40_method_1_code 0 = .ok (.aload_n 0, 1) := by decide +kernel
theorem own_d5_1 : decode prog_40_method_1_code 1 = .ok (.invokespecial 1, 3) := by decide +kernel
theorem own_d5_4 : decode prog_40_method_1_code 4 = .ok (.return_, 1) := by decide +kernel
theorem own_ef_rmRC0 (m : MethodId) (x0 : Addr) : entryFrame m #[(.ref x0)] 1 = mkF m 0 #[.val (.ref x0)] [] := by first | (simp [entryFrame, mkF, argsToLocals, Value.category, maxLocals]; done) | rfl
theorem own_d8_0 : decode prog_40_method_3_code 0 = .ok (.aload_n 0, 1) := by decide +kernel
theorem own_d8_1 : decode prog_40_method_3_code 1 = .ok (.getfield 13, 3) := by decide +kernel
theorem own_d8_4 : decode prog_40_method_3_code 4 = .ok (.ifnonnull 7, 3) := by decide +kernel
theorem own_d8_7 : decode prog_40_method_3_code 7 = .ok (.iconst (-1), 1) := by decide +kernel
theorem own_d8_8 : decode prog_40_method_3_code 8 = .ok (.goto 8, 3) := by decide +kernel
theorem own_d8_16 : decode prog_40_method_3_code 16 = .ok (.ireturn, 1) := by decide +kernel
theorem own_ef_rmRC1 (m : MethodId) (x0 : Addr) : entryFrame m #[(.ref x0)] 1 = mkF m 0 #[.val (.ref x0)] [] := by first | (simp [entryFrame, mkF, argsToLocals, Value.category, maxLocals]; done) | rfl
theorem own_d8_11 : decode prog_40_method_3_code 11 = .ok (.aload_n 0, 1) := by decide +kernel
theorem own_d8_12 : decode prog_40_method_3_code 12 = .ok (.getfield 17, 3) := by decide +kernel
theorem own_d8_15 : decode prog_40_method_3_code 15 = .ok (.arraylength, 1) := by decide +kernel
theorem own_ef_rmCR (m : MethodId) (x0 : Addr) : entryFrame m #[(.ref x0)] 1 = mkF m 0 #[.val (.ref x0)] [] := by first | (simp [entryFrame, mkF, argsToLocals, Value.category, maxLocals]; done) | rfl
theorem own_d14_0 : decode prog_42_method_16_code 0 = .ok (.aload_n 0, 1) := by decide +kernel
theorem own_d14_1 : decode prog_42_method_16_code 1 = .ok (.iconst (-1), 1) := by decide +kernel
theorem own_d14_2 : decode prog_42_method_16_code 2 = .ok (.putfield 19, 3) := by decide +kernel
theorem own_d14_5 : decode prog_42_method_16_code 5 = .ok (.return_, 1) := by decide +kernel
theorem own_ef_rmSR (m : MethodId) (x0 : Addr) (x1 : Int32) (x2 : Int32) : entryFrame m #[(.ref x0), (.int x1), (.int x2)] 7 = mkF m 0 #[.val (.ref x0), .val (.int x1), .val (.int x2), .unset, .unset, .unset, .unset] [] := by first | (simp [entryFrame, mkF, argsToLocals, Value.category, maxLocals]; done) | rfl
theorem own_d15_0 : decode prog_42_method_14_code 0 = .ok (.iload_n 1, 1) := by decide +kernel
theorem own_d15_1 : decode prog_42_method_14_code 1 = .ok (.iconst (-1), 1) := by decide +kernel
theorem own_d15_2 : decode prog_42_method_14_code 2 = .ok (.if_icmp .ge 17, 3) := by decide +kernel
theorem own_d15_19 : decode prog_42_method_14_code 19 = .ok (.aload_n 0, 1) := by decide +kernel
theorem own_d15_20 : decode prog_42_method_14_code 20 = .ok (.getfield 19, 3) := by decide +kernel
theorem own_d15_23 : decode prog_42_method_14_code 23 = .ok (.istore_n 3, 1) := by decide +kernel
theorem own_d15_24 : decode prog_42_method_14_code 24 = .ok (.aload_n 0, 1) := by decide +kernel
theorem own_d15_25 : decode prog_42_method_14_code 25 = .ok (.iload_n 1, 1) := by decide +kernel
theorem own_d15_26 : decode prog_42_method_14_code 26 = .ok (.putfield 19, 3) := by decide +kernel
theorem own_d15_29 : decode prog_42_method_14_code 29 = .ok (.iload_n 2, 1) := by decide +kernel
theorem own_d15_30 : decode prog_42_method_14_code 30 = .ok (.ifCond .eq 94, 3) := by decide +kernel
theorem own_d15_124 : decode prog_42_method_14_code 124 = .ok (.return_, 1) := by decide +kernel
theorem own_d15_33 : decode prog_42_method_14_code 33 = .ok (.iload_n 3, 1) := by decide +kernel
theorem own_d15_34 : decode prog_42_method_14_code 34 = .ok (.iload_n 1, 1) := by decide +kernel
theorem own_d15_35 : decode prog_42_method_14_code 35 = .ok (.if_icmp .eq 89, 3) := by decide +kernel
theorem own_d15_38 : decode prog_42_method_14_code 38 = .ok (.aload_n 0, 1) := by decide +kernel
theorem own_d15_39 : decode prog_42_method_14_code 39 = .ok (.getfield 13, 3) := by decide +kernel
theorem own_d15_42 : decode prog_42_method_14_code 42 = .ok (.invokeinterface 31 1, 5) := by decide +kernel
theorem own_pd___Z : parseMethodDescriptor "()Z" = some ⟨[], some .boolean⟩ := by decide +kernel
theorem own_d15_47 : decode prog_42_method_14_code 47 = .ok (.ifCond .ne 77, 3) := by decide +kernel
theorem own_ef_rmSI (m : MethodId) (x0 : Addr) (x1 : Int32) : entryFrame m #[(.ref x0), (.int x1)] 2 = mkF m 0 #[.val (.ref x0), .val (.int x1)] [] := by first | (simp [entryFrame, mkF, argsToLocals, Value.category, maxLocals]; done) | rfl
theorem own_d17_0 : decode prog_40_method_8_code 0 = .ok (.aload_n 0, 1) := by decide +kernel
theorem own_d17_1 : decode prog_40_method_8_code 1 = .ok (.iload_n 1, 1) := by decide +kernel
theorem own_d17_2 : decode prog_40_method_8_code 2 = .ok (.aload_n 0, 1) := by decide +kernel
theorem own_d17_3 : decode prog_40_method_8_code 3 = .ok (.getfield 13, 3) := by decide +kernel
theorem own_d17_6 : decode prog_40_method_8_code 6 = .ok (.ifnull 7, 3) := by decide +kernel
theorem own_d17_9 : decode prog_40_method_8_code 9 = .ok (.iconst 1, 1) := by decide +kernel
theorem own_d17_10 : decode prog_40_method_8_code 10 = .ok (.goto 4, 3) := by decide +kernel
theorem own_d17_14 : decode prog_40_method_8_code 14 = .ok (.invokevirtual 32, 3) := by decide +kernel
theorem own_pd__IZ_V : parseMethodDescriptor "(IZ)V" = some ⟨[.int, .boolean], none⟩ := by decide +kernel
theorem own_d17_17 : decode prog_40_method_8_code 17 = .ok (.return_, 1) := by decide +kernel
theorem own_ef_rmSW (m : MethodId) (x0 : Addr) (x1 : Addr) : entryFrame m #[(.ref x0), (.ref x1)] 3 = mkF m 0 #[.val (.ref x0), .val (.ref x1), .unset] [] := by first | (simp [entryFrame, mkF, argsToLocals, Value.category, maxLocals]; done) | rfl
theorem own_d9_0 : decode prog_40_method_9_code 0 = .ok (.aload_n 1, 1) := by decide +kernel
theorem own_d9_1 : decode prog_40_method_9_code 1 = .ok (.checkcast 36, 3) := by decide +kernel
theorem own_d9_4 : decode prog_40_method_9_code 4 = .ok (.astore_n 2, 1) := by decide +kernel
theorem own_d9_5 : decode prog_40_method_9_code 5 = .ok (.aload_n 0, 1) := by decide +kernel
theorem own_d9_6 : decode prog_40_method_9_code 6 = .ok (.aload_n 2, 1) := by decide +kernel
theorem own_d9_7 : decode prog_40_method_9_code 7 = .ok (.putfield 13, 3) := by decide +kernel
theorem own_d9_10 : decode prog_40_method_9_code 10 = .ok (.aload_n 0, 1) := by decide +kernel
theorem own_d9_11 : decode prog_40_method_9_code 11 = .ok (.aload_n 2, 1) := by decide +kernel
theorem own_d9_12 : decode prog_40_method_9_code 12 = .ok (.ifnonnull 7, 3) := by decide +kernel
theorem own_d9_19 : decode prog_40_method_9_code 19 = .ok (.aload_n 2, 1) := by decide +kernel
theorem own_d9_20 : decode prog_40_method_9_code 20 = .ok (.invokeinterface 38 1, 5) := by decide +kernel
theorem own_d9_25 : decode prog_40_method_9_code 25 = .ok (.putfield 17, 3) := by decide +kernel
theorem own_d9_28 : decode prog_40_method_9_code 28 = .ok (.aload_n 0, 1) := by decide +kernel
theorem own_d9_29 : decode prog_40_method_9_code 29 = .ok (.invokevirtual 42, 3) := by decide +kernel
theorem own_d9_32 : decode prog_40_method_9_code 32 = .ok (.aload_n 0, 1) := by decide +kernel
theorem own_d9_33 : decode prog_40_method_9_code 33 = .ok (.aload_n 1, 1) := by decide +kernel
theorem own_d9_34 : decode prog_40_method_9_code 34 = .ok (.ifnonnull 7, 3) := by decide +kernel
theorem own_d9_41 : decode prog_40_method_9_code 41 = .ok (.iconst 0, 1) := by decide +kernel
theorem own_d9_42 : decode prog_40_method_9_code 42 = .ok (.aload_n 1, 1) := by decide +kernel
theorem own_d9_43 : decode prog_40_method_9_code 43 = .ok (.ifnull 7, 3) := by decide +kernel
theorem own_d9_46 : decode prog_40_method_9_code 46 = .ok (.iconst 1, 1) := by decide +kernel
theorem own_d9_47 : decode prog_40_method_9_code 47 = .ok (.goto 4, 3) := by decide +kernel
theorem own_d9_51 : decode prog_40_method_9_code 51 = .ok (.invokevirtual 32, 3) := by decide +kernel
theorem own_d9_54 : decode prog_40_method_9_code 54 = .ok (.return_, 1) := by decide +kernel
theorem own_ef_rmSW0 (m : MethodId) (x0 : Addr) : entryFrame m #[(.ref x0), .null] 3 = mkF m 0 #[.val (.ref x0), .val .null, .unset] [] := by first | (simp [entryFrame, mkF, argsToLocals, Value.category, maxLocals]; done) | rfl
theorem own_d9_15 : decode prog_40_method_9_code 15 = .ok (.aconst_null, 1) := by decide +kernel
theorem own_d9_16 : decode prog_40_method_9_code 16 = .ok (.goto 9, 3) := by decide +kernel
theorem own_d9_37 : decode prog_40_method_9_code 37 = .ok (.iconst (-1), 1) := by decide +kernel
theorem own_d9_38 : decode prog_40_method_9_code 38 = .ok (.goto 4, 3) := by decide +kernel
theorem own_d9_50 : decode prog_40_method_9_code 50 = .ok (.iconst 0, 1) := by decide +kernel
theorem own_pn_jakarta_faces_model_CollectionDataModelGetRowCountPinLaw : plainName "jakarta/faces/model/CollectionDataModelGetRowCountPinLaw" = true := by first | (simp [plainName, overriddenIn]; done) | decide +kernel
theorem own_ef_rm0 (m : MethodId) (x0 : Int32) (x1 : Int32) (x2 : Int32) (x3 : Int32) (x4 : Int32) : entryFrame m #[(.int x0), (.int x1), (.int x2), (.int x3), (.int x4)] maxLocals = mkF m 0 #[.val (.int x0), .val (.int x1), .val (.int x2), .val (.int x3), .val (.int x4), .unset, .unset, .unset, .unset, .unset] [] := by first | (simp [entryFrame, mkF, argsToLocals, Value.category, maxLocals]; done) | rfl
theorem own_pd___I : parseMethodDescriptor "()I" = some ⟨[], some .int⟩ := by decide +kernel
theorem own_pd__Ljava_lang_Object__V : parseMethodDescriptor "(Ljava/lang/Object;)V" = some ⟨[(.object "java/lang/Object")], none⟩ := by decide +kernel
theorem own_pd__I_Ljava_lang_Integer_ : parseMethodDescriptor "(I)Ljava/lang/Integer;" = some ⟨[.int], some (.object "java/lang/Integer")⟩ := by decide +kernel
theorem own_pd__Ljava_lang_Object__Z : parseMethodDescriptor "(Ljava/lang/Object;)Z" = some ⟨[(.object "java/lang/Object")], some .boolean⟩ := by decide +kernel
def own_El (Z : State) (h : Heap) (v : Value) : Prop := v = .null ∨ ∃ y, v = .ref y ∧ Exa Z h y "java/lang/Integer"
theorem own_El_keep {Z : State} {h h' : Heap} {v : Value} {ws : List Addr} (F : own_El Z h v) (K : Keep h h' ws) : own_El Z h' v := F.imp id fun ⟨y, e, E⟩ => ⟨y, e, E.keep K⟩
def own_LS (Z : State) (h : Heap) (a b : Addr) (k : ClassId) (z sz : Int32) (vs : List Value) : Prop := Exa Z h a "java/util/ArrayList" ∧ (∃ mc : Int32, Fld Z h a "java/util/AbstractList" "modCount" "I" (.int mc)) ∧ Fld Z h a "java/util/ArrayList" "size" "I" (.int sz) ∧ Fld Z h a "java/util/ArrayList" "elementData" "[Ljava/lang/Object;" (.ref b) ∧ Arv Z h b k (.object "java/lang/Object") z vs .null ∧ Exa Z h b "[Ljava/lang/Object;" ∧ (∀ v ∈ vs, own_El Z h v) ∧ sz.toNatClampNeg = vs.length ∧ ¬ sz < 0 ∧ ¬ z < sz
theorem own_LS_keep {Z : State} {h h' : Heap} {a b : Addr} {k : ClassId} {z sz : Int32} {vs : List Value} {ws : List Addr} (S : own_LS Z h a b k z sz vs) (K : Keep h h' ws) (na : a ∉ ws) (nb : b ∉ ws) : own_LS Z h' a b k z sz vs := by
  obtain ⟨e1, ⟨mc, f1⟩, f2, f3, v1, e2, el, r⟩ := S
  exact ⟨e1.keep K, ⟨mc, f1.keep K na⟩, f2.keep K na, f3.keep K na, v1.keep K nb, e2.keep K, fun v hv => own_El_keep (el v hv) K, r⟩
def own_MS (Z : State) (h : Heap) (m : Addr) (lv : Value) (ix : Int32) (cv ev : Value) : Prop := Exa Z h m "jakarta/faces/model/CollectionDataModel" ∧ Fld Z h m "jakarta/faces/model/DataModel" "listeners" "Ljava/util/List;" lv ∧ Fld Z h m "jakarta/faces/model/DataModel" "index" "I" (.int ix) ∧ Fld Z h m "jakarta/faces/model/CollectionDataModel" "collection" "Ljava/util/Collection;" cv ∧ Fld Z h m "jakarta/faces/model/CollectionDataModel" "elements" "[Ljava/lang/Object;" ev
theorem own_MS_keep {Z : State} {h h' : Heap} {m : Addr} {lv cv ev : Value} {ix : Int32} {ws : List Addr} (S : own_MS Z h m lv ix cv ev) (K : Keep h h' ws) (na : m ∉ ws) : own_MS Z h' m lv ix cv ev := by
  obtain ⟨e1, f1, f2, f3, f4⟩ := S
  exact ⟨e1.keep K, f1.keep K na, f2.keep K na, f3.keep K na, f4.keep K na⟩
def own_Mir (Z : State) (C : String) (mr : Addr) : Prop := ∃ (c : ClassId) (k : Class), Z.vm.findClass C = some c ∧ Z.vm.classes[c]? = some k ∧ k.mirror = some mr
theorem own_ldcM {p : Program} {l : Launch} {e : Env} {R : Room} {s : State} {m : MethodId} {args : Array Value} {below : List Frame} {meth : Method} {c : Code} {T : State} {locs : List Loc} {cells slots : Nat} {Z : State} {a0 : Array Value} {h : Heap} (X : Stand p l e R s m args below meth c T locs cells slots) (hx : p.tables.exec = Jvm.exec) (hZ : Z.Warmed39 s.vm) {own C : String} {index : Nat} (hown : s.vm.findClass own = some m.cls) (w : (Cond.classLink own index C).before a0 Z = true) (eT : T.heap = h) {mr : Addr} (M : own_Mir Z C mr)
    {g : JFrame} (hg : g.method = m) (hd : decode c.code g.pc = .ok (.ldc index, 2)) : ∃ T', Stand p l e R s m args below meth c T' locs cells slots ∧ T'.heap = h ∧ ∀ target, Steps p.tables e below (T'.setTop { g with pc := g.pc + 2, stack := .ref mr :: g.stack }) target → Steps p.tables e below (T.setTop g) target := by
  obtain ⟨cc, kc, m1, m2, m3⟩ := M
  obtain ⟨k', q, ek⟩ := hZ.alike.2.2 _ _ m2
  have f1 : s.vm.findClass C = some cc := by rw [hZ.alike.findClass]; exact m1
  have f2 : k'.mirror = some mr := by rw [ek]; exact m3
  have hev : (Term.mirror C).eval args s none [] s = some (.ref mr) := by simp [Term.eval, f1, q, f2]
  obtain ⟨vm', X', st⟩ := X.ldcMirror hx hown (mv hZ w) hev hg hd
  exact ⟨_, X', eT, st⟩
theorem own_gcls {p : Program} {l : Launch} {e : Env} {R : Room} {s : State} {m : MethodId} {args : Array Value} {below : List Frame} {meth : Method} {c : Code} {T : State} {locs : List Loc} {cells slots : Nat} {Z : State} {a0 : Array Value} {h : Heap} (X : Stand p l e R s m args below meth c T locs cells slots) (hx : p.tables.exec = Jvm.exec) (hZ : Z.Warmed39 s.vm) {own C : String} {index : Nat} (hown : s.vm.findClass own = some m.cls)
    (w1 : (Cond.methodLink own index ⟨"java/lang/Object", "getClass", "()Ljava/lang/Class;"⟩).before a0 Z = true) (w2 : (Cond.declares ⟨"java/lang/Object", "getClass", "()Ljava/lang/Class;"⟩).before a0 Z = true) (w4 : (Cond.selects C ⟨"java/lang/Object", "getClass", "()Ljava/lang/Class;"⟩ ⟨"java/lang/Object", "getClass", "()Ljava/lang/Class;"⟩).before a0 Z = true)
    (w5 : (Cond.instanceMethod ⟨"java/lang/Object", "getClass", "()Ljava/lang/Class;"⟩).before a0 Z = true) (w6 : (Cond.native ⟨"java/lang/Object", "getClass", "()Ljava/lang/Class;"⟩).before a0 Z = true) (eT : T.heap = h) {a : Addr} (E : Exa Z h a C) {mr : Addr} (M : own_Mir Z C mr)
    {g : JFrame} (hg : g.method = m) (hsize : g.locals.size = c.maxLocals) {rest : List Value} (hs : g.stack = .ref a :: rest) (hd : decode c.code g.pc = .ok (.invokevirtual index, 3)) (hf : 1 ≤ R.frames) {W : Nat} (hW : 2 * g.monitorRoom + (rest.map fun v => v.category).sum ≤ W) (hl : W + (nativeFrameWords "java/lang/Object" "getClass" 1 + 11) ≤ R.locals) :
    ∃ T', Stand p l e R s m args below meth c T' locs cells slots ∧ T'.heap = h ∧ ∀ target, Steps p.tables e below (T'.setTop { g with pc := g.pc + 3, stack := .ref mr :: rest }) target → Steps p.tables e below (T.setTop g) target := by
  obtain ⟨cB, kB, i1, i2, i3⟩ := isOf hZ eT E
  obtain ⟨cc, kc, m1, m2, m3⟩ := M
  have f1 : s.vm.findClass C = some cc := by rw [hZ.alike.findClass]; exact m1
  cases i1.symm.trans f1
  obtain ⟨k', q, ek⟩ := hZ.alike.2.2 _ _ m2
  have f2 : k'.mirror = some mr := by rw [ek]; exact m3
  obtain ⟨vm', X', st⟩ := X.getClassOf hx hown (mvT hZ w1) (mvT hZ w2) (notFace_of_selects (args := #[]) (mvT hZ w4)) (mvT hZ w4) (mvT hZ w5) (mvT hZ w6) f1 i3 q f2 hg hsize hs hd hf (by omega)
  exact ⟨_, X', eT, st⟩
theorem own_st {p : Program} {l : Launch} {e : Env} {R : Room} {s : State} {m : MethodId} {args : Array Value} {below : List Frame} {meth : Method} {c : Code} {T : State} {locs : List Loc} {cells slots : Nat} {Z : State} {h : Heap} {b : Addr} {k : ClassId} {C : String} {z j : Int32} {vs : List Value} {v : Value} {n0 : Nat} (X : Stand p l e R s m args below meth c T locs cells slots) (hx : p.tables.exec = Jvm.exec) (hZ : Z.Warmed39 s.vm) (eT : T.heap = h) (V : Arv Z h b k (.object C) z vs .null) (F : Sto Z h b v) (hv : fits (.object C) v = true) (hj : ¬ j < 0 ∧ j < z) (i : Nat) (hji : j.toNatClampNeg = i) (hi : i < vs.length) (N : Fr n0 locs) (gb : n0 ≤ b)
    {g : JFrame} (hg : g.method = m) {rest : List Value} (hs : g.stack = v :: .int j :: .ref b :: rest) (hd : decode c.code g.pc = .ok (.aastore, 1)) :
    ∃ T' L, Stand p l e R s m args below meth c T' L cells slots ∧ Fr n0 L ∧ Keep h T'.heap [b] ∧ Arv Z T'.heap b k (.object C) z (vs.set i v) .null ∧ ∀ target, Steps p.tables e below (T'.setTop { g with pc := g.pc + 1, stack := rest }) target → Steps p.tables e below (T.setTop g) target := by
  subst eT
  obtain ⟨cl, Ar, q, S, N3, H, G⟩ := V
  obtain ⟨T', h', X', e', W, st⟩ := stR X hx hZ rfl Ar (inb_of S hj) rfl F hg hs hd
  subst e'
  exact ⟨T', _, X', Fr.snoc X' N gb, Keep.of_wr W, Arv.set Ar q S N3 H G hv W i hji hi, st⟩
theorem own_StoL {Z : State} {h : Heap} {a : Addr} : ∀ (us : List Value), (∀ v ∈ us, Sto Z h a v) → StoL Z h a us
  | [], _ => trivial
  | v :: r, H => ⟨H v (List.mem_cons_self ..), own_StoL r fun u hu => H u (List.mem_cons_of_mem _ hu)⟩
theorem own_getD {Z : State} {h : Heap} {vs : List Value} (H : ∀ v ∈ vs, own_El Z h v) (i : Nat) : own_El Z h (vs.getD i .null) := by
  rw [List.getD_eq_getElem?_getD]
  cases q : vs[i]? with
  | none => exact Or.inl rfl
  | some u => exact H u (List.mem_of_getElem? q)
theorem own_i {y k : Int32} (h : y.toInt = k.toInt) : y = k := Int32.toInt_inj.mp h
theorem own_idx (x : Int32) (h1 : ¬ x < (-128 : Int32)) (h2 : ¬ (127 : Int32) < x) : ¬ (x + (128 : Int32)) < 0 ∧ (x + (128 : Int32)).toNatClampNeg < 256 := by
  have a := c_iadd x 128
  have r := rng32 x
  have r2 := rng32 (x + 128)
  rw [Int32.lt_iff_toInt_lt] at h1 h2
  have e1 : (-128 : Int32).toInt = -128 := rfl
  have e2 : (127 : Int32).toInt = 127 := rfl
  have e3 : (128 : Int32).toInt = 128 := rfl
  have e4 : (0 : Int32).toInt = 0 := rfl
  simp only [Int32.lt_iff_toInt_lt, Int32.toNatClampNeg]
  omega
theorem own_mod6 (x : Int32) : ((x &&& (2147483647 : Int32)) % (6 : Int32)) = (0 : Int32) ∨ ((x &&& (2147483647 : Int32)) % (6 : Int32)) = (1 : Int32) ∨ ((x &&& (2147483647 : Int32)) % (6 : Int32)) = (2 : Int32) ∨ ((x &&& (2147483647 : Int32)) % (6 : Int32)) = (3 : Int32) ∨ ((x &&& (2147483647 : Int32)) % (6 : Int32)) = (4 : Int32) ∨ ((x &&& (2147483647 : Int32)) % (6 : Int32)) = (5 : Int32) := by
  have e : (x &&& (2147483647 : Int32)).toInt = x.toInt % 2147483648 := c_mask x 2147483647 31 (by decide) (by decide)
  have r := (c_iremV (x &&& 2147483647) 6).1 (by omega) (by decide)
  have e6 : (6 : Int32).toInt = 6 := rfl
  generalize ((x &&& (2147483647 : Int32)) % (6 : Int32)) = y at *
  have h : y.toInt = 0 ∨ y.toInt = 1 ∨ y.toInt = 2 ∨ y.toInt = 3 ∨ y.toInt = 4 ∨ y.toInt = 5 := by omega
  rcases h with h | h | h | h | h | h
  · exact Or.inl (own_i h)
  · exact Or.inr (Or.inl (own_i h))
  · exact Or.inr (Or.inr (Or.inl (own_i h)))
  · exact Or.inr (Or.inr (Or.inr (Or.inl (own_i h))))
  · exact Or.inr (Or.inr (Or.inr (Or.inr (Or.inl (own_i h)))))
  · exact Or.inr (Or.inr (Or.inr (Or.inr (Or.inr (own_i h)))))
theorem own_row (x : Int32) : ¬ ((x &&& (15 : Int32)) - (1 : Int32)) < (-1 : Int32) := by
  have e : (x &&& (15 : Int32)).toInt = x.toInt % 16 := c_mask x 15 4 (by decide) (by decide)
  have a := c_isub (x &&& 15) 1
  have r2 := rng32 ((x &&& 15) - 1)
  have e1 : (-1 : Int32).toInt = -1 := rfl
  have e3 : (1 : Int32).toInt = 1 := rfl
  rw [Int32.lt_iff_toInt_lt]
  omega
theorem own_eqz {z n : Int32} (h1 : ¬ n < z) (h2 : ¬ z < n) : z = n := by
  rw [Int32.lt_iff_toInt_lt] at h1 h2
  exact own_i (by omega)
theorem own_nat {z n : Int32} (h : ¬ z < n) : n.toNatClampNeg ≤ z.toNatClampNeg := by
  rw [Int32.lt_iff_toInt_lt] at h
  simp only [Int32.toNatClampNeg]
  omega
theorem own_inc {z : Int32} (h0 : ¬ z < 0) (h : z < (10 : Int32)) : (z + 1).toNatClampNeg = z.toNatClampNeg + 1 ∧ ¬ (z + 1) < 0 ∧ ¬ (10 : Int32) < (z + 1) ∧ ¬ z = (10 : Int32) := by
  have a := c_iadd z 1
  have r2 := rng32 (z + 1)
  rw [Int32.lt_iff_toInt_lt] at h0 h
  have e1 : (10 : Int32).toInt = 10 := rfl
  have e3 : (1 : Int32).toInt = 1 := rfl
  have e4 : (0 : Int32).toInt = 0 := rfl
  refine ⟨?_, ?_, ?_, fun q => ?_⟩
  · simp only [Int32.toNatClampNeg]; omega
  · rw [Int32.lt_iff_toInt_lt]; omega
  · rw [Int32.lt_iff_toInt_lt]; omega
  · subst q; omega
theorem own_set {Z : State} {h : Heap} {b : Addr} {k : ClassId} {ty : FieldType} {z : Int32} {vs : List Value} {v d : Value} (V : Arv Z h b k ty z ((vs ++ List.replicate 1 d).set vs.length v) d) : Arv Z h b k ty z (vs ++ [v]) d := by
  have e : (vs ++ List.replicate 1 d).set vs.length v = vs ++ [v] := by simp
  rw [e] at V
  exact V
def own_QrmABC (Z : State) (a1 : Addr) (h0 : Heap) (n0 : Nat) (v : Option Value) (h : Heap) (L : List Loc) : Prop := v = none ∧ Fr n0 L ∧ h = h0
set_option maxRecDepth 65536 in
set_option maxHeartbeats 40000000 in
theorem rmABC (l : Launch) (Z : State) (a0 : Array Value) (hw : ∀ d ∈ tables_1, d.before a0 Z = true) (ws : List Jvm.Cond) (a1 : Addr) (h0 : Heap) (n0 : Nat) (Z0 : n0 ≤ h0.size) :
    MetFree l (⟨"java/util/AbstractCollection", "<init>", "()V"⟩ : MethodName) (head1 (Jvm.Cond.code (⟨"java/util/AbstractCollection", "<init>", "()V"⟩ : MethodName) jdk_22_method_1_code 1 none :: ws) ({ frames := 1, cells := 0, slots := 0, locals := 12 } : Room)) (fun a U => a = #[(.ref a1)] ∧ Z.Warmed39 U.vm ∧ U.heap = h0) (fun _ _ _ _ _ => True) (fun _ U o U' => ∃ v L, o = .returned v ∧ own_QrmABC Z a1 h0 n0 v U'.heap L ∧ FrameEnd U o U' L ({ frames := 1, cells := 0, slots := 0, locals := 12 } : Room).cells ({ frames := 1, cells := 0, slots := 0, locals := 12 } : Room).slots) := by
  refine MetFree.of_bodySF (plainFor_of_name own_pn_java_util_AbstractCollection) hisR ?_
  intro p e s m args below meth c s₁ Bd hml0 hP hK
  obtain ⟨rfl, hZ, hh⟩ := hP
  have hx := Bd.exec
  have hby := Bd.bytes
  have hml : c.maxLocals = 1 := hml0
  have hown : s.vm.findClass "java/util/AbstractCollection" = some m.cls := findClass_of_methodNamed Bd.named
  have hnm := (name_of_methodNamed Bd.named Bd.method).1
  have X0 : Stand p l e ({ frames := 1, cells := 0, slots := 0, locals := 12 } : Room) s m #[(.ref a1)] below meth c s₁ [] 0 0 := Stand.of_body Bd
  have e0 : s₁.heap = h0 := by rw [← hh, Bd.state]; rfl
  have N0 := Fr.nil n0
  refine own_adv (B := s₁.setTop (mkF m 0 #[.val (.ref a1)] [])) (fun t k => castTop (own_ef_rmABC m a1) k) ?_
  refine own_adv (B := s₁.setTop (mkF m 1 #[.val (.ref a1)] [(.ref a1)])) (fun t k => XS.aloadN X0.here hx rfl (hb hby own_d3_0) rfl rfl k) ?_
  obtain ⟨T10, X10, e10, st10⟩ := initO X0 hx hZ hown (hw _ (List.mem_of_getElem? (i := 19) rfl)) (hw _ (List.mem_of_getElem? (i := 20) rfl)) (hw _ (List.mem_of_getElem? (i := 21) rfl)) e0 (g := (mkF m 1 #[.val (.ref a1)] [(.ref a1)])) rfl (by rw [hml]; rfl) rfl (hb hby own_d3_1) (by decide) (W := 0) (by show 2 * 0 + _ ≤ _; exact Nat.le_of_eq rfl) (by decide)
  refine own_adv (B := T10.setTop (mkF m 4 #[.val (.ref a1)] [])) st10 ?_
  obtain ⟨fs, hr, hrun, hended, hW, hsame⟩ := X10.leave (v := none) (fun _ => rfl)
  refine ⟨_, _, X10.returnOut hx Bd.returns (hb hby own_d3_4) hr, hrun, hended, _, _, rfl, ?_, ⟨_, rfl⟩, hW, hsame.mono (by decide) (by decide)⟩
  exact ⟨rfl, N0, e10⟩
def own_QrmABL (Z : State) (a1 : Addr) (h0 : Heap) (n0 : Nat) (v : Option Value) (h : Heap) (L : List Loc) : Prop := v = none ∧ Fr n0 L ∧ Keep h0 h [a1] ∧ Exa Z h a1 "java/util/ArrayList" ∧ Fld Z h a1 "java/util/AbstractList" "modCount" "I" (.int (0 : Int32)) ∧ Fld Z h a1 "java/util/ArrayList" "size" "I" (.int (0 : Int32)) ∧ Fld Z h a1 "java/util/ArrayList" "elementData" "[Ljava/lang/Object;" .null
set_option maxRecDepth 65536 in
set_option maxHeartbeats 40000000 in
theorem rmABL (l : Launch) (Z : State) (a0 : Array Value) (hw : ∀ d ∈ tables_1, d.before a0 Z = true) (ws : List Jvm.Cond) (a1 : Addr) (h0 : Heap) (n0 : Nat) (Z0 : n0 ≤ h0.size) (E1 : Exa Z h0 a1 "java/util/ArrayList") (FM : Fld Z h0 a1 "java/util/AbstractList" "modCount" "I" (.int (0 : Int32))) (FS : Fld Z h0 a1 "java/util/ArrayList" "size" "I" (.int (0 : Int32))) (FE : Fld Z h0 a1 "java/util/ArrayList" "elementData" "[Ljava/lang/Object;" .null) (g1 : n0 ≤ a1) :
    MetFree l (⟨"java/util/AbstractList", "<init>", "()V"⟩ : MethodName) (head1 (Jvm.Cond.code (⟨"java/util/AbstractList", "<init>", "()V"⟩ : MethodName) jdk_39_method_1_code 1 none :: ws) ({ frames := 2, cells := 0, slots := 0, locals := 24 } : Room)) (fun a U => a = #[(.ref a1)] ∧ Z.Warmed39 U.vm ∧ U.heap = h0) (fun _ _ _ _ _ => True) (fun _ U o U' => ∃ v L, o = .returned v ∧ own_QrmABL Z a1 h0 n0 v U'.heap L ∧ FrameEnd U o U' L ({ frames := 2, cells := 0, slots := 0, locals := 24 } : Room).cells ({ frames := 2, cells := 0, slots := 0, locals := 24 } : Room).slots) := by
  refine MetFree.of_bodySF (plainFor_of_name own_pn_java_util_AbstractList) hisR ?_
  intro p e s m args below meth c s₁ Bd hml0 hP hK
  obtain ⟨rfl, hZ, hh⟩ := hP
  have hx := Bd.exec
  have hby := Bd.bytes
  have hml : c.maxLocals = 1 := hml0
  have hown : s.vm.findClass "java/util/AbstractList" = some m.cls := findClass_of_methodNamed Bd.named
  have hnm := (name_of_methodNamed Bd.named Bd.method).1
  have X0 : Stand p l e ({ frames := 2, cells := 0, slots := 0, locals := 24 } : Room) s m #[(.ref a1)] below meth c s₁ [] 0 0 := Stand.of_body Bd
  have e0 : s₁.heap = h0 := by rw [← hh, Bd.state]; rfl
  have N0 := Fr.nil n0
  refine own_adv (B := s₁.setTop (mkF m 0 #[.val (.ref a1)] [])) (fun t k => castTop (own_ef_rmABL m a1) k) ?_
  have KK0 : Keep h0 h0 [a1] := Keep.refl h0 _
  refine own_adv (B := s₁.setTop (mkF m 1 #[.val (.ref a1)] [(.ref a1)])) (fun t k => XS.aloadN X0.here hx rfl (hb hby own_d2_0) rfl rfl k) ?_
  obtain ⟨_, _, ⟨T10, L10, k10, n10⟩, -, X10, ⟨Lc10, hQ10, l10, y10, z10⟩, st10⟩ := X0.specialBack hx (y := (⟨"java/util/AbstractCollection", "<init>", "()V"⟩ : MethodName)) rfl hown (mvT hZ (hw _ (List.mem_of_getElem? (i := 13) rfl))) (mvT hZ (hw _ (List.mem_of_getElem? (i := 14) rfl))) (mvT hZ (hw _ (List.mem_of_getElem? (i := 18) rfl))) (by decide) (backOf (W := 0) (rmABC l Z a0 hw [] a1 h0 n0 Z0) hZ (hw _ (List.mem_of_getElem? (i := 18) rfl)) (hw _ (List.mem_of_getElem? (i := 17) rfl)) (by decide) (by decide)) (g := (mkF m 1 #[.val (.ref a1)] [(.ref a1)])) rfl (by rw [hml]; rfl) (Steps.refl _) (a := a1) (argsL := []) (rest := []) (lenOf own_pd___V rfl) rfl (by show 2 * 0 + _ ≤ _; exact Nat.le_of_eq rfl) (hb hby own_d2_1) (fun _ _ => ⟨rfl, e0, (by decide : 0 + 0 ≤ _), (by decide : 0 + 0 ≤ _)⟩)
  dsimp only [Pt.U, Pt.locs, Pt.cells, Pt.slots] at X10 l10 y10 z10 st10 hQ10
  subst l10 y10 z10
  obtain ⟨rfl, N10q, e10⟩ := hQ10
  have N10 := Fr.app N0 N10q
  refine own_adv (B := T10.setTop (mkF m 4 #[.val (.ref a1)] [])) (fun t k => st10.trans k) ?_
  refine own_adv (B := T10.setTop (mkF m 5 #[.val (.ref a1)] [(.ref a1)])) (fun t k => XS.aloadN X10.here hx rfl (hb hby own_d2_4) rfl rfl k) ?_
  refine own_adv (B := T10.setTop (mkF m 6 #[.val (.ref a1)] [(.int (0 : Int32)), (.ref a1)])) (fun t k => XS.iconst X10.here hx rfl (hb hby own_d2_5) k) ?_
  obtain ⟨T11, h11, X11, e11, W11, st11⟩ := putF X10 hx hZ hown (host := "") (Or.inl (hw _ (List.mem_of_getElem? (i := 22) rfl))) Via.refl e10 FM E1 (Or.inl (hw _ (List.mem_of_getElem? (i := 23) rfl))) (hw _ (List.mem_of_getElem? (i := 2) rfl)) (ty := .int) (by decide) rfl rfl (g := (mkF m 6 #[.val (.ref a1)] [(.int (0 : Int32)), (.ref a1)])) rfl rfl (hb hby own_d2_6)
  subst e11
  have N11 := Fr.snoc X11 N10 g1
  have E_a1_11 : Exa Z T11.heap a1 "java/util/ArrayList" := Exa.keep E1 (Keep.of_wr W11)
  have F_modCount_a1_11 : Fld Z T11.heap a1 "java/util/AbstractList" "modCount" "I" (.int (0 : Int32)) := Fld.same W11 FM
  have F_size_a1_11 : Fld Z T11.heap a1 "java/util/ArrayList" "size" "I" (.int (0 : Int32)) := Fld.other W11 FS (Or.inr (slot_ne (Or.inl (hw _ (List.mem_of_getElem? (i := 72) rfl))) (Or.inl (hw _ (List.mem_of_getElem? (i := 23) rfl))) (by decide) (t := .int) (t' := .int) (by decide) (by decide)))
  have F_elementData_a1_11 : Fld Z T11.heap a1 "java/util/ArrayList" "elementData" "[Ljava/lang/Object;" .null := Fld.other W11 FE (Or.inr (slot_ne (Or.inl (hw _ (List.mem_of_getElem? (i := 26) rfl))) (Or.inl (hw _ (List.mem_of_getElem? (i := 23) rfl))) (by decide) (t := (.array (.object "java/lang/Object"))) (t' := .int) (by decide) (by decide)))
  have KK11 : Keep h0 T11.heap [a1] := KK0.wr W11 (Or.inl (List.mem_of_getElem? (i := 0) rfl))
  refine own_adv (B := T11.setTop (mkF m 9 #[.val (.ref a1)] [])) st11 ?_
  obtain ⟨fs, hr, hrun, hended, hW, hsame⟩ := X11.leave (v := none) (fun _ => rfl)
  refine ⟨_, _, X11.returnOut hx Bd.returns (hb hby own_d2_9) hr, hrun, hended, _, _, rfl, ?_, ⟨_, rfl⟩, hW, hsame.mono (by decide) (by decide)⟩
  exact ⟨rfl, N11, KK11, E_a1_11, F_modCount_a1_11, F_size_a1_11, F_elementData_a1_11⟩
def own_QrmAL (Z : State) (a1 wD : Addr) (kD : ClassId) (h0 : Heap) (n0 : Nat) (v : Option Value) (h : Heap) (L : List Loc) : Prop := v = none ∧ Fr n0 L ∧ Keep h0 h [a1] ∧ own_LS Z h a1 wD kD (0 : Int32) (0 : Int32) []
set_option maxRecDepth 65536 in
set_option maxHeartbeats 40000000 in
theorem rmAL (l : Launch) (Z : State) (a0 : Array Value) (hw : ∀ d ∈ tables_1, d.before a0 Z = true) (ws : List Jvm.Cond) (a1 wD : Addr) (kD : ClassId) (h0 : Heap) (n0 : Nat) (Z0 : n0 ≤ h0.size) (OL : Old Z n0 h0) (S_D : Sta Z Z.heap "java/util/ArrayList" "DEFAULTCAPACITY_EMPTY_ELEMENTDATA" "[Ljava/lang/Object;" (.ref wD)) (ED : Exa Z Z.heap wD "[Ljava/lang/Object;") (VD : Arv Z Z.heap wD kD (.object "java/lang/Object") (0 : Int32) [] .null) (E1 : Exa Z h0 a1 "java/util/ArrayList") (FM : Fld Z h0 a1 "java/util/AbstractList" "modCount" "I" (.int (0 : Int32))) (FS : Fld Z h0 a1 "java/util/ArrayList" "size" "I" (.int (0 : Int32))) (FE : Fld Z h0 a1 "java/util/ArrayList" "elementData" "[Ljava/lang/Object;" .null) (g1 : n0 ≤ a1) :
    MetFree l (⟨"java/util/ArrayList", "<init>", "()V"⟩ : MethodName) (head1 (Jvm.Cond.code (⟨"java/util/ArrayList", "<init>", "()V"⟩ : MethodName) jdk_38_method_2_code 1 none :: ws) ({ frames := 3, cells := 0, slots := 0, locals := 36 } : Room)) (fun a U => a = #[(.ref a1)] ∧ Z.Warmed39 U.vm ∧ U.heap = h0) (fun _ _ _ _ _ => True) (fun _ U o U' => ∃ v L, o = .returned v ∧ own_QrmAL Z a1 wD kD h0 n0 v U'.heap L ∧ FrameEnd U o U' L ({ frames := 3, cells := 0, slots := 0, locals := 36 } : Room).cells ({ frames := 3, cells := 0, slots := 0, locals := 36 } : Room).slots) := by
  refine MetFree.of_bodySF (plainFor_of_name own_pn_java_util_ArrayList) hisR ?_
  intro p e s m args below meth c s₁ Bd hml0 hP hK
  obtain ⟨rfl, hZ, hh⟩ := hP
  have hx := Bd.exec
  have hby := Bd.bytes
  have hml : c.maxLocals = 1 := hml0
  have hown : s.vm.findClass "java/util/ArrayList" = some m.cls := findClass_of_methodNamed Bd.named
  have hnm := (name_of_methodNamed Bd.named Bd.method).1
  have X0 : Stand p l e ({ frames := 3, cells := 0, slots := 0, locals := 36 } : Room) s m #[(.ref a1)] below meth c s₁ [] 0 0 := Stand.of_body Bd
  have e0 : s₁.heap = h0 := by rw [← hh, Bd.state]; rfl
  have N0 := Fr.nil n0
  refine own_adv (B := s₁.setTop (mkF m 0 #[.val (.ref a1)] [])) (fun t k => castTop (own_ef_rmAL m a1) k) ?_
  have KK0 : Keep h0 h0 [a1] := Keep.refl h0 _
  refine own_adv (B := s₁.setTop (mkF m 1 #[.val (.ref a1)] [(.ref a1)])) (fun t k => XS.aloadN X0.here hx rfl (hb hby own_d1_0) rfl rfl k) ?_
  obtain ⟨_, _, ⟨T10, L10, k10, n10⟩, -, X10, ⟨Lc10, hQ10, l10, y10, z10⟩, st10⟩ := X0.specialBack hx (y := (⟨"java/util/AbstractList", "<init>", "()V"⟩ : MethodName)) rfl hown (mvT hZ (hw _ (List.mem_of_getElem? (i := 7) rfl))) (mvT hZ (hw _ (List.mem_of_getElem? (i := 8) rfl))) (mvT hZ (hw _ (List.mem_of_getElem? (i := 12) rfl))) (by decide) (backOf (W := 0) (rmABL l Z a0 hw [] a1 h0 n0 Z0 E1 FM FS FE g1) hZ (hw _ (List.mem_of_getElem? (i := 12) rfl)) (hw _ (List.mem_of_getElem? (i := 11) rfl)) (by decide) (by decide)) (g := (mkF m 1 #[.val (.ref a1)] [(.ref a1)])) rfl (by rw [hml]; rfl) (Steps.refl _) (a := a1) (argsL := []) (rest := []) (lenOf own_pd___V rfl) rfl (by show 2 * 0 + _ ≤ _; exact Nat.le_of_eq rfl) (hb hby own_d1_1) (fun _ _ => ⟨rfl, e0, (by decide : 0 + 0 ≤ _), (by decide : 0 + 0 ≤ _)⟩)
  dsimp only [Pt.U, Pt.locs, Pt.cells, Pt.slots] at X10 l10 y10 z10 st10 hQ10
  subst l10 y10 z10
  obtain ⟨rfl, N10q, K10, EX10, FM10, FS10, FE10⟩ := hQ10
  have N10 := Fr.app N0 N10q
  have E_a1_10 : Exa Z T10.heap a1 "java/util/ArrayList" := Exa.keep E1 K10
  have OL_10 : Old Z n0 T10.heap := Old.keep OL K10 (allS g1 all0)
  have KK10 : Keep h0 T10.heap [a1] := KK0.trans K10 (allS (Or.inl (List.mem_of_getElem? (i := 0) rfl)) all0)
  refine own_adv (B := T10.setTop (mkF m 4 #[.val (.ref a1)] [])) (fun t k => st10.trans k) ?_
  refine own_adv (B := T10.setTop (mkF m 5 #[.val (.ref a1)] [(.ref a1)])) (fun t k => XS.aloadN X10.here hx rfl (hb hby own_d1_4) rfl rfl k) ?_
  obtain ⟨T11, X11, e11, st11⟩ := getS2 X10 hx hZ hown (host := "") (Or.inl (hw _ (List.mem_of_getElem? (i := 24) rfl))) Via.refl rfl (S_D.ext OL_10.2) (g := (mkF m 5 #[.val (.ref a1)] [(.ref a1)])) rfl (hb hby own_d1_5)
  refine own_adv (B := T11.setTop (mkF m 8 #[.val (.ref a1)] [(.ref wD), (.ref a1)])) st11 ?_
  obtain ⟨T12, h12, X12, e12, W12, st12⟩ := putF X11 hx hZ hown (host := "") (Or.inl (hw _ (List.mem_of_getElem? (i := 25) rfl))) Via.refl e11 FE10 EX10 (Or.inl (hw _ (List.mem_of_getElem? (i := 26) rfl))) (hw _ (List.mem_of_getElem? (i := 2) rfl)) (ty := (.array (.object "java/lang/Object"))) (by decide) rfl rfl (g := (mkF m 8 #[.val (.ref a1)] [(.ref wD), (.ref a1)])) rfl rfl (hb hby own_d1_8)
  subst e12
  have N12 := Fr.snoc X12 N10 g1
  have E_a1_12 : Exa Z T12.heap a1 "java/util/ArrayList" := Exa.keep EX10 (Keep.of_wr W12)
  have OL_12 : Old Z n0 T12.heap := Old.keep OL_10 (Keep.of_wr W12) (allS g1 all0)
  have F_modCount_a1_12 : Fld Z T12.heap a1 "java/util/AbstractList" "modCount" "I" (.int (0 : Int32)) := Fld.other W12 FM10 (Or.inr (slot_ne (Or.inl (hw _ (List.mem_of_getElem? (i := 23) rfl))) (Or.inl (hw _ (List.mem_of_getElem? (i := 26) rfl))) (by decide) (t := .int) (t' := (.array (.object "java/lang/Object"))) (by decide) (by decide)))
  have F_size_a1_12 : Fld Z T12.heap a1 "java/util/ArrayList" "size" "I" (.int (0 : Int32)) := Fld.other W12 FS10 (Or.inr (slot_ne (Or.inl (hw _ (List.mem_of_getElem? (i := 72) rfl))) (Or.inl (hw _ (List.mem_of_getElem? (i := 26) rfl))) (by decide) (t := .int) (t' := (.array (.object "java/lang/Object"))) (by decide) (by decide)))
  have F_elementData_a1_12 : Fld Z T12.heap a1 "java/util/ArrayList" "elementData" "[Ljava/lang/Object;" (.ref wD) := Fld.same W12 FE10
  have KK12 : Keep h0 T12.heap [a1] := KK10.wr W12 (Or.inl (List.mem_of_getElem? (i := 0) rfl))
  refine own_adv (B := T12.setTop (mkF m 11 #[.val (.ref a1)] [])) st12 ?_
  obtain ⟨fs, hr, hrun, hended, hW, hsame⟩ := X12.leave (v := none) (fun _ => rfl)
  refine ⟨_, _, X12.returnOut hx Bd.returns (hb hby own_d1_11) hr, hrun, hended, _, _, rfl, ?_, ⟨_, rfl⟩, hW, hsame.mono (by decide) (by decide)⟩
  exact ⟨rfl, N12, KK12, E_a1_12, ⟨_, F_modCount_a1_12⟩, F_size_a1_12, F_elementData_a1_12, VD.ext OL_12.2, ED.ext OL_12.2, (fun v hv => nomatch hv), rfl, by decide, by decide⟩
def own_QrmNum (Z : State) (a1 : Addr) (h0 : Heap) (n0 : Nat) (v : Option Value) (h : Heap) (L : List Loc) : Prop := v = none ∧ Fr n0 L ∧ h = h0
set_option maxRecDepth 65536 in
set_option maxHeartbeats 40000000 in
theorem rmNum (l : Launch) (Z : State) (a0 : Array Value) (hw : ∀ d ∈ tables_1, d.before a0 Z = true) (ws : List Jvm.Cond) (a1 : Addr) (h0 : Heap) (n0 : Nat) (Z0 : n0 ≤ h0.size) :
    MetFree l (⟨"java/lang/Number", "<init>", "()V"⟩ : MethodName) (head1 (Jvm.Cond.code (⟨"java/lang/Number", "<init>", "()V"⟩ : MethodName) jdk_18_method_1_code 1 none :: ws) ({ frames := 1, cells := 0, slots := 0, locals := 12 } : Room)) (fun a U => a = #[(.ref a1)] ∧ Z.Warmed39 U.vm ∧ U.heap = h0) (fun _ _ _ _ _ => True) (fun _ U o U' => ∃ v L, o = .returned v ∧ own_QrmNum Z a1 h0 n0 v U'.heap L ∧ FrameEnd U o U' L ({ frames := 1, cells := 0, slots := 0, locals := 12 } : Room).cells ({ frames := 1, cells := 0, slots := 0, locals := 12 } : Room).slots) := by
  refine MetFree.of_bodySF (plainFor_of_name own_pn_java_lang_Number) hisR ?_
  intro p e s m args below meth c s₁ Bd hml0 hP hK
  obtain ⟨rfl, hZ, hh⟩ := hP
  have hx := Bd.exec
  have hby := Bd.bytes
  have hml : c.maxLocals = 1 := hml0
  have hown : s.vm.findClass "java/lang/Number" = some m.cls := findClass_of_methodNamed Bd.named
  have hnm := (name_of_methodNamed Bd.named Bd.method).1
  have X0 : Stand p l e ({ frames := 1, cells := 0, slots := 0, locals := 12 } : Room) s m #[(.ref a1)] below meth c s₁ [] 0 0 := Stand.of_body Bd
  have e0 : s₁.heap = h0 := by rw [← hh, Bd.state]; rfl
  have N0 := Fr.nil n0
  refine own_adv (B := s₁.setTop (mkF m 0 #[.val (.ref a1)] [])) (fun t k => castTop (own_ef_rmNum m a1) k) ?_
  refine own_adv (B := s₁.setTop (mkF m 1 #[.val (.ref a1)] [(.ref a1)])) (fun t k => XS.aloadN X0.here hx rfl (hb hby own_d25_0) rfl rfl k) ?_
  obtain ⟨T10, X10, e10, st10⟩ := initO X0 hx hZ hown (hw _ (List.mem_of_getElem? (i := 174) rfl)) (hw _ (List.mem_of_getElem? (i := 20) rfl)) (hw _ (List.mem_of_getElem? (i := 21) rfl)) e0 (g := (mkF m 1 #[.val (.ref a1)] [(.ref a1)])) rfl (by rw [hml]; rfl) rfl (hb hby own_d25_1) (by decide) (W := 0) (by show 2 * 0 + _ ≤ _; exact Nat.le_of_eq rfl) (by decide)
  refine own_adv (B := T10.setTop (mkF m 4 #[.val (.ref a1)] [])) st10 ?_
  obtain ⟨fs, hr, hrun, hended, hW, hsame⟩ := X10.leave (v := none) (fun _ => rfl)
  refine ⟨_, _, X10.returnOut hx Bd.returns (hb hby own_d25_4) hr, hrun, hended, _, _, rfl, ?_, ⟨_, rfl⟩, hW, hsame.mono (by decide) (by decide)⟩
  exact ⟨rfl, N0, e10⟩
def own_QrmII (Z : State) (a1 : Addr) (p1 : Int32) (h0 : Heap) (n0 : Nat) (v : Option Value) (h : Heap) (L : List Loc) : Prop := v = none ∧ Fr n0 L ∧ Keep h0 h [a1] ∧ Exa Z h a1 "java/lang/Integer"
set_option maxRecDepth 65536 in
set_option maxHeartbeats 40000000 in
theorem rmII (l : Launch) (Z : State) (a0 : Array Value) (hw : ∀ d ∈ tables_1, d.before a0 Z = true) (ws : List Jvm.Cond) (a1 : Addr) (p1 : Int32) (h0 : Heap) (n0 : Nat) (Z0 : n0 ≤ h0.size) (E1 : Exa Z h0 a1 "java/lang/Integer") (FV : Fld Z h0 a1 "java/lang/Integer" "value" "I" (.int (0 : Int32))) (g1 : n0 ≤ a1) :
    MetFree l (⟨"java/lang/Integer", "<init>", "(I)V"⟩ : MethodName) (head1 (Jvm.Cond.code (⟨"java/lang/Integer", "<init>", "(I)V"⟩ : MethodName) jdk_33_method_23_code 2 none :: ws) ({ frames := 2, cells := 0, slots := 0, locals := 24 } : Room)) (fun a U => a = #[(.ref a1), (.int p1)] ∧ Z.Warmed39 U.vm ∧ U.heap = h0) (fun _ _ _ _ _ => True) (fun _ U o U' => ∃ v L, o = .returned v ∧ own_QrmII Z a1 p1 h0 n0 v U'.heap L ∧ FrameEnd U o U' L ({ frames := 2, cells := 0, slots := 0, locals := 24 } : Room).cells ({ frames := 2, cells := 0, slots := 0, locals := 24 } : Room).slots) := by
  refine MetFree.of_bodySF (plainFor_of_name own_pn_java_lang_Integer) hisR ?_
  intro p e s m args below meth c s₁ Bd hml0 hP hK
  obtain ⟨rfl, hZ, hh⟩ := hP
  have hx := Bd.exec
  have hby := Bd.bytes
  have hml : c.maxLocals = 2 := hml0
  have hown : s.vm.findClass "java/lang/Integer" = some m.cls := findClass_of_methodNamed Bd.named
  have hnm := (name_of_methodNamed Bd.named Bd.method).1
  have X0 : Stand p l e ({ frames := 2, cells := 0, slots := 0, locals := 24 } : Room) s m #[(.ref a1), (.int p1)] below meth c s₁ [] 0 0 := Stand.of_body Bd
  have e0 : s₁.heap = h0 := by rw [← hh, Bd.state]; rfl
  have N0 := Fr.nil n0
  refine own_adv (B := s₁.setTop (mkF m 0 #[.val (.ref a1), .val (.int p1)] [])) (fun t k => castTop (own_ef_rmII m a1 p1) k) ?_
  have KK0 : Keep h0 h0 [a1] := Keep.refl h0 _
  refine own_adv (B := s₁.setTop (mkF m 1 #[.val (.ref a1), .val (.int p1)] [(.ref a1)])) (fun t k => XS.aloadN X0.here hx rfl (hb hby own_d24_0) rfl rfl k) ?_
  obtain ⟨_, _, ⟨T10, L10, k10, n10⟩, -, X10, ⟨Lc10, hQ10, l10, y10, z10⟩, st10⟩ := X0.specialBack hx (y := (⟨"java/lang/Number", "<init>", "()V"⟩ : MethodName)) rfl hown (mvT hZ (hw _ (List.mem_of_getElem? (i := 168) rfl))) (mvT hZ (hw _ (List.mem_of_getElem? (i := 169) rfl))) (mvT hZ (hw _ (List.mem_of_getElem? (i := 173) rfl))) (by decide) (backOf (W := 0) (rmNum l Z a0 hw [] a1 h0 n0 Z0) hZ (hw _ (List.mem_of_getElem? (i := 173) rfl)) (hw _ (List.mem_of_getElem? (i := 172) rfl)) (by decide) (by decide)) (g := (mkF m 1 #[.val (.ref a1), .val (.int p1)] [(.ref a1)])) rfl (by rw [hml]; rfl) (Steps.refl _) (a := a1) (argsL := []) (rest := []) (lenOf own_pd___V rfl) rfl (by show 2 * 0 + _ ≤ _; exact Nat.le_of_eq rfl) (hb hby own_d24_1) (fun _ _ => ⟨rfl, e0, (by decide : 0 + 0 ≤ _), (by decide : 0 + 0 ≤ _)⟩)
  dsimp only [Pt.U, Pt.locs, Pt.cells, Pt.slots] at X10 l10 y10 z10 st10 hQ10
  subst l10 y10 z10
  obtain ⟨rfl, N10q, e10⟩ := hQ10
  have N10 := Fr.app N0 N10q
  refine own_adv (B := T10.setTop (mkF m 4 #[.val (.ref a1), .val (.int p1)] [])) (fun t k => st10.trans k) ?_
  refine own_adv (B := T10.setTop (mkF m 5 #[.val (.ref a1), .val (.int p1)] [(.ref a1)])) (fun t k => XS.aloadN X10.here hx rfl (hb hby own_d24_4) rfl rfl k) ?_
  refine own_adv (B := T10.setTop (mkF m 6 #[.val (.ref a1), .val (.int p1)] [(.int p1), (.ref a1)])) (fun t k => XS.iloadN X10.here hx rfl (hb hby own_d24_5) rfl k) ?_
  obtain ⟨T11, h11, X11, e11, W11, st11⟩ := putF X10 hx hZ hown (host := "") (Or.inl (hw _ (List.mem_of_getElem? (i := 175) rfl))) Via.refl e10 FV E1 (Or.inr ⟨(hw _ (List.mem_of_getElem? (i := 176) rfl)), rfl, hnm⟩) (hw _ (List.mem_of_getElem? (i := 163) rfl)) (ty := .int) (by decide) rfl rfl (g := (mkF m 6 #[.val (.ref a1), .val (.int p1)] [(.int p1), (.ref a1)])) rfl rfl (hb hby own_d24_6)
  subst e11
  have N11 := Fr.snoc X11 N10 g1
  have E_a1_11 : Exa Z T11.heap a1 "java/lang/Integer" := Exa.keep E1 (Keep.of_wr W11)
  have F_value_a1_11 : Fld Z T11.heap a1 "java/lang/Integer" "value" "I" (.int p1) := Fld.same W11 FV
  have KK11 : Keep h0 T11.heap [a1] := KK0.wr W11 (Or.inl (List.mem_of_getElem? (i := 0) rfl))
  refine own_adv (B := T11.setTop (mkF m 9 #[.val (.ref a1), .val (.int p1)] [])) st11 ?_
  obtain ⟨fs, hr, hrun, hended, hW, hsame⟩ := X11.leave (v := none) (fun _ => rfl)
  refine ⟨_, _, X11.returnOut hx Bd.returns (hb hby own_d24_9) hr, hrun, hended, _, _, rfl, ?_, ⟨_, rfl⟩, hW, hsame.mono (by decide) (by decide)⟩
  exact ⟨rfl, N11, KK11, E_a1_11⟩
def own_QrmVO (Z : State) (p1 : Int32) (wC : Addr) (cC : Cell) (h0 : Heap) (n0 : Nat) (v : Option Value) (h : Heap) (L : List Loc) : Prop := ∃ y, v = some (.ref y) ∧ Fr n0 L ∧ Keep h0 h [] ∧ Exa Z h y "java/lang/Integer"
set_option maxRecDepth 65536 in
set_option maxHeartbeats 40000000 in
theorem rmVO (l : Launch) (Z : State) (a0 : Array Value) (hw : ∀ d ∈ tables_1, d.before a0 Z = true) (ws : List Jvm.Cond) (p1 : Int32) (wC : Addr) (cC : Cell) (h0 : Heap) (n0 : Nat) (Z0 : n0 ≤ h0.size) (OL : Old Z n0 h0) (S_h : Sta Z Z.heap "java/lang/Integer$IntegerCache" "high" "I" (.int (127 : Int32))) (S_c : Sta Z Z.heap "java/lang/Integer$IntegerCache" "cache" "[Ljava/lang/Integer;" (.ref wC)) (AC : Arr Z Z.heap wC cC (.object "java/lang/Integer")) (szC : cC.slots.size = 256) (elC : ∀ j : Int32, ¬ (j < 0 ∨ cC.slots.size ≤ j.toNatClampNeg) → ∃ y, cC.slots[j.toNatClampNeg]? = some (.ref y) ∧ Exa Z Z.heap y "java/lang/Integer") :
    MetFree l (⟨"java/lang/Integer", "valueOf", "(I)Ljava/lang/Integer;"⟩ : MethodName) (head1 (Jvm.Cond.code (⟨"java/lang/Integer", "valueOf", "(I)Ljava/lang/Integer;"⟩ : MethodName) jdk_33_method_22_code 1 (some (.object "java/lang/Integer")) :: ws) ({ frames := 3, cells := 1, slots := 1, locals := 38 } : Room)) (fun a U => a = #[(.int p1)] ∧ Z.Warmed39 U.vm ∧ U.heap = h0) (fun _ _ _ _ _ => True) (fun _ U o U' => ∃ v L, o = .returned v ∧ own_QrmVO Z p1 wC cC h0 n0 v U'.heap L ∧ FrameEnd U o U' L ({ frames := 3, cells := 1, slots := 1, locals := 38 } : Room).cells ({ frames := 3, cells := 1, slots := 1, locals := 38 } : Room).slots) := by
  refine MetFree.of_bodySF (plainFor_of_name own_pn_java_lang_Integer) hisR ?_
  intro p e s m args below meth c s₁ Bd hml0 hP hK
  obtain ⟨rfl, hZ, hh⟩ := hP
  have hx := Bd.exec
  have hby := Bd.bytes
  have hml : c.maxLocals = 1 := hml0
  have hown : s.vm.findClass "java/lang/Integer" = some m.cls := findClass_of_methodNamed Bd.named
  have hnm := (name_of_methodNamed Bd.named Bd.method).1
  have X0 : Stand p l e ({ frames := 3, cells := 1, slots := 1, locals := 38 } : Room) s m #[(.int p1)] below meth c s₁ [] 0 0 := Stand.of_body Bd
  have e0 : s₁.heap = h0 := by rw [← hh, Bd.state]; rfl
  have N0 := Fr.nil n0
  refine own_adv (B := s₁.setTop (mkF m 0 #[.val (.int p1)] [])) (fun t k => castTop (own_ef_rmVO m p1) k) ?_
  have KK0 : Keep h0 h0 [] := Keep.refl h0 _
  refine own_adv (B := s₁.setTop (mkF m 1 #[.val (.int p1)] [(.int p1)])) (fun t k => XS.iloadN X0.here hx rfl (hb hby own_d18_0) rfl k) ?_
  refine own_adv (B := s₁.setTop (mkF m 3 #[.val (.int p1)] [(.int (-128 : Int32)), (.int p1)])) (fun t k => XS.bipush X0.here hx rfl (hb hby own_d18_1) k) ?_
  by_cases h1 : p1 < (-128 : Int32)
  · skip
    refine own_adv (B := s₁.setTop (mkF m 23 #[.val (.int p1)] [])) (fun t k => XS.icmpYes X0.here hx rfl (pc0 := 3) (pc' := 23) rfl (hb hby own_d18_3) rfl (tlt h1).1 (by decide) (by decide) k) ?_
    obtain ⟨T10, h10, X10, e10, E10, A10, D10, -, st10⟩ := newO X0 hx hZ hown (hw _ (List.mem_of_getElem? (i := 162) rfl)) (hw _ (List.mem_of_getElem? (i := 163) rfl)) (hw _ (List.mem_of_getElem? (i := 130) rfl)) e0 (g := (mkF m 23 #[.val (.int p1)] [])) rfl (hb hby own_d18_23) (by decide) (by decide)
    obtain ⟨b10, g10⟩ : ∃ z, z = h0.size := ⟨_, rfl⟩
    rw [← g10] at A10 D10 st10
    subst e10
    have sz_b10 : h0.size ≤ b10 := Nat.le_trans KK0.1 (Nat.le_of_eq g10.symm)
    have g_b10 : n0 ≤ b10 := Nat.le_trans Z0 sz_b10
    have OL_10 : Old Z n0 T10.heap := Old.keep OL ((Keep.refl _ []).ext E10) all0
    have KK10 : Keep h0 T10.heap [] := KK0.ext E10
    have F_value_b10 : Fld Z T10.heap b10 "java/lang/Integer" "value" "I" (.int (0 : Int32)) := D10 (Or.inr (hw _ (List.mem_of_getElem? (i := 176) rfl))) (ty := .int) (by decide)
    refine own_adv (B := T10.setTop (mkF m 26 #[.val (.int p1)] [(.ref b10)])) st10 ?_
    refine own_adv (B := T10.setTop (mkF m 27 #[.val (.int p1)] [(.ref b10), (.ref b10)])) (fun t k => XS.dup X10.here hx rfl (hb hby own_d18_26) rfl rfl k) ?_
    refine own_adv (B := T10.setTop (mkF m 28 #[.val (.int p1)] [(.int p1), (.ref b10), (.ref b10)])) (fun t k => XS.iloadN X10.here hx rfl (hb hby own_d18_27) rfl k) ?_
    obtain ⟨_, _, ⟨T11, L11, k11, n11⟩, -, X11, ⟨Lc11, hQ11, l11, y11, z11⟩, st11⟩ := X10.specialBack hx (y := (⟨"java/lang/Integer", "<init>", "(I)V"⟩ : MethodName)) rfl hown (mvT hZ (hw _ (List.mem_of_getElem? (i := 164) rfl))) (mvT hZ (hw _ (List.mem_of_getElem? (i := 165) rfl))) (mvT hZ (hw _ (List.mem_of_getElem? (i := 167) rfl))) (by decide) (backOf (W := 1) (rmII l Z a0 hw [] b10 p1 T10.heap n0 (Nat.le_trans Z0 KK10.1) A10 F_value_b10 g_b10) hZ (hw _ (List.mem_of_getElem? (i := 167) rfl)) (hw _ (List.mem_of_getElem? (i := 130) rfl)) (by decide) (by decide)) (g := (mkF m 28 #[.val (.int p1)] [(.int p1), (.ref b10), (.ref b10)])) rfl (by rw [hml]; rfl) (Steps.refl _) (a := b10) (argsL := [(.int p1)]) (rest := [(.ref b10)]) (lenOf own_pd__I_V rfl) rfl (by show 2 * 0 + _ ≤ _; exact Nat.le_of_eq rfl) (hb hby own_d18_28) (fun _ _ => ⟨rfl, rfl, (by decide : 1 + 0 ≤ _), (by decide : 1 + 0 ≤ _)⟩)
    dsimp only [Pt.U, Pt.locs, Pt.cells, Pt.slots] at X11 l11 y11 z11 st11 hQ11
    subst l11 y11 z11
    obtain ⟨rfl, N11q, K11, EX11⟩ := hQ11
    have N11 := Fr.app N0 N11q
    have OL_11 : Old Z n0 T11.heap := Old.keep OL_10 K11 (allS g_b10 all0)
    have E_b10_11 : Exa Z T11.heap b10 "java/lang/Integer" := Exa.keep A10 K11
    have KK11 : Keep h0 T11.heap [] := KK10.trans K11 (allS (Or.inr sz_b10) all0)
    refine own_adv (B := T11.setTop (mkF m 31 #[.val (.int p1)] [(.ref b10)])) (fun t k => st11.trans k) ?_
    obtain ⟨fs, hr, hrun, hended, hW, hsame⟩ := X11.leave (v := some (.ref b10)) (fun h => by rw [Bd.returns] at h; cases h)
    refine ⟨_, _, retOut X11 hx (t := (.object "java/lang/Integer")) (i := .areturn) Bd.returns rfl (Or.inr (Or.inr (Or.inr (Or.inr ⟨rfl, rfl, rfl⟩)))) (hb hby own_d18_31) hr, hrun, hended, _, _, rfl, ?_, ⟨_, rfl⟩, hW, hsame.mono (by decide) (by decide)⟩
    exact ⟨_, rfl, N11, KK11, EX11⟩
  refine own_adv (B := s₁.setTop (mkF m 6 #[.val (.int p1)] [])) (fun t k => XS.icmpNo X0.here hx rfl (hb hby own_d18_3) rfl (flt h1).1 k) ?_
  refine own_adv (B := s₁.setTop (mkF m 7 #[.val (.int p1)] [(.int p1)])) (fun t k => XS.iloadN X0.here hx rfl (hb hby own_d18_6) rfl k) ?_
  obtain ⟨T12, X12, e12, st12⟩ := getS2 X0 hx hZ hown (host := "") (Or.inl (hw _ (List.mem_of_getElem? (i := 132) rfl))) Via.refl e0 (S_h.ext OL.2) (g := (mkF m 7 #[.val (.int p1)] [(.int p1)])) rfl (hb hby own_d18_7)
  refine own_adv (B := T12.setTop (mkF m 10 #[.val (.int p1)] [(.int (127 : Int32)), (.int p1)])) st12 ?_
  by_cases h2 : (127 : Int32) < p1
  · skip
    refine own_adv (B := T12.setTop (mkF m 23 #[.val (.int p1)] [])) (fun t k => XS.icmpYes X12.here hx rfl (pc0 := 10) (pc' := 23) rfl (hb hby own_d18_10) rfl (tlt h2).2.2.1 (by decide) (by decide) k) ?_
    obtain ⟨T13, h13, X13, e13, E13, A13, D13, -, st13⟩ := newO X12 hx hZ hown (hw _ (List.mem_of_getElem? (i := 162) rfl)) (hw _ (List.mem_of_getElem? (i := 163) rfl)) (hw _ (List.mem_of_getElem? (i := 130) rfl)) e12 (g := (mkF m 23 #[.val (.int p1)] [])) rfl (hb hby own_d18_23) (by decide) (by decide)
    obtain ⟨b13, g13⟩ : ∃ z, z = h0.size := ⟨_, rfl⟩
    rw [← g13] at A13 D13 st13
    subst e13
    have sz_b13 : h0.size ≤ b13 := Nat.le_trans KK0.1 (Nat.le_of_eq g13.symm)
    have g_b13 : n0 ≤ b13 := Nat.le_trans Z0 sz_b13
    have OL_13 : Old Z n0 T13.heap := Old.keep OL ((Keep.refl _ []).ext E13) all0
    have KK13 : Keep h0 T13.heap [] := KK0.ext E13
    have F_value_b13 : Fld Z T13.heap b13 "java/lang/Integer" "value" "I" (.int (0 : Int32)) := D13 (Or.inr (hw _ (List.mem_of_getElem? (i := 176) rfl))) (ty := .int) (by decide)
    refine own_adv (B := T13.setTop (mkF m 26 #[.val (.int p1)] [(.ref b13)])) st13 ?_
    refine own_adv (B := T13.setTop (mkF m 27 #[.val (.int p1)] [(.ref b13), (.ref b13)])) (fun t k => XS.dup X13.here hx rfl (hb hby own_d18_26) rfl rfl k) ?_
    refine own_adv (B := T13.setTop (mkF m 28 #[.val (.int p1)] [(.int p1), (.ref b13), (.ref b13)])) (fun t k => XS.iloadN X13.here hx rfl (hb hby own_d18_27) rfl k) ?_
    obtain ⟨_, _, ⟨T14, L14, k14, n14⟩, -, X14, ⟨Lc14, hQ14, l14, y14, z14⟩, st14⟩ := X13.specialBack hx (y := (⟨"java/lang/Integer", "<init>", "(I)V"⟩ : MethodName)) rfl hown (mvT hZ (hw _ (List.mem_of_getElem? (i := 164) rfl))) (mvT hZ (hw _ (List.mem_of_getElem? (i := 165) rfl))) (mvT hZ (hw _ (List.mem_of_getElem? (i := 167) rfl))) (by decide) (backOf (W := 1) (rmII l Z a0 hw [] b13 p1 T13.heap n0 (Nat.le_trans Z0 KK13.1) A13 F_value_b13 g_b13) hZ (hw _ (List.mem_of_getElem? (i := 167) rfl)) (hw _ (List.mem_of_getElem? (i := 130) rfl)) (by decide) (by decide)) (g := (mkF m 28 #[.val (.int p1)] [(.int p1), (.ref b13), (.ref b13)])) rfl (by rw [hml]; rfl) (Steps.refl _) (a := b13) (argsL := [(.int p1)]) (rest := [(.ref b13)]) (lenOf own_pd__I_V rfl) rfl (by show 2 * 0 + _ ≤ _; exact Nat.le_of_eq rfl) (hb hby own_d18_28) (fun _ _ => ⟨rfl, rfl, (by decide : 1 + 0 ≤ _), (by decide : 1 + 0 ≤ _)⟩)
    dsimp only [Pt.U, Pt.locs, Pt.cells, Pt.slots] at X14 l14 y14 z14 st14 hQ14
    subst l14 y14 z14
    obtain ⟨rfl, N14q, K14, EX14⟩ := hQ14
    have N14 := Fr.app N0 N14q
    have OL_14 : Old Z n0 T14.heap := Old.keep OL_13 K14 (allS g_b13 all0)
    have E_b13_14 : Exa Z T14.heap b13 "java/lang/Integer" := Exa.keep A13 K14
    have KK14 : Keep h0 T14.heap [] := KK13.trans K14 (allS (Or.inr sz_b13) all0)
    refine own_adv (B := T14.setTop (mkF m 31 #[.val (.int p1)] [(.ref b13)])) (fun t k => st14.trans k) ?_
    obtain ⟨fs, hr, hrun, hended, hW, hsame⟩ := X14.leave (v := some (.ref b13)) (fun h => by rw [Bd.returns] at h; cases h)
    refine ⟨_, _, retOut X14 hx (t := (.object "java/lang/Integer")) (i := .areturn) Bd.returns rfl (Or.inr (Or.inr (Or.inr (Or.inr ⟨rfl, rfl, rfl⟩)))) (hb hby own_d18_31) hr, hrun, hended, _, _, rfl, ?_, ⟨_, rfl⟩, hW, hsame.mono (by decide) (by decide)⟩
    exact ⟨_, rfl, N14, KK14, EX14⟩
  refine own_adv (B := T12.setTop (mkF m 13 #[.val (.int p1)] [])) (fun t k => XS.icmpNo X12.here hx rfl (hb hby own_d18_10) rfl (flt h2).2.2.1 k) ?_
  obtain ⟨T15, X15, e15, st15⟩ := getS2 X12 hx hZ hown (host := "") (Or.inl (hw _ (List.mem_of_getElem? (i := 134) rfl))) Via.refl e12 (S_c.ext OL.2) (g := (mkF m 13 #[.val (.int p1)] [])) rfl (hb hby own_d18_13)
  refine own_adv (B := T15.setTop (mkF m 16 #[.val (.int p1)] [(.ref wC)])) st15 ?_
  refine own_adv (B := T15.setTop (mkF m 17 #[.val (.int p1)] [(.int p1), (.ref wC)])) (fun t k => XS.iloadN X15.here hx rfl (hb hby own_d18_16) rfl k) ?_
  refine own_adv (B := T15.setTop (mkF m 20 #[.val (.int p1)] [(.int (128 : Int32)), (.int p1), (.ref wC)])) (fun t k => XS.sipush X15.here hx rfl (hb hby own_d18_17) k) ?_
  refine own_adv (B := T15.setTop (mkF m 21 #[.val (.int p1)] [(.int (p1 + (128 : Int32))), (.ref wC)])) (fun t k => XS.iadd X15.here hx rfl (hb hby own_d18_20) rfl k) ?_
  have hi := own_idx p1 h1 h2
  have hin : ¬ ((p1 + (128 : Int32)) < 0 ∨ cC.slots.size ≤ ((p1 + (128 : Int32))).toNatClampNeg) := fun q => q.elim hi.1 fun r => by rw [szC] at r; exact absurd hi.2 (Nat.not_lt.mpr r)
  obtain ⟨y, hy, Ey⟩ := elC _ hin
  have ArC : Arr Z h0 wC cC (.object "java/lang/Integer") := AC.ext OL.2
  refine own_adv (B := T15.setTop (mkF m 22 #[.val (.int p1)] [(.ref y)])) (fun t k => X15.aaload hx (j := (p1 + (128 : Int32))) (v := .ref y) (by rw [e15]; exact ArC.1) (State.isArrayOf_alike hZ.alike ArC.2.1) rfl ArC.2.2 hin hy (g := (mkF m 21 #[.val (.int p1)] [(.int (p1 + (128 : Int32))), (.ref wC)])) rfl rfl (hb hby own_d18_21) _ k) ?_
  have EY : Exa Z T15.heap y "java/lang/Integer" := by rw [e15]; exact Ey.ext OL.2
  have KE : Keep h0 T15.heap [] := by rw [e15]; exact Keep.refl h0 []
  obtain ⟨fs, hr, hrun, hended, hW, hsame⟩ := X15.leave (v := some (.ref y)) (fun h => by rw [Bd.returns] at h; cases h)
  refine ⟨_, _, retOut X15 hx (t := (.object "java/lang/Integer")) (i := .areturn) Bd.returns rfl (Or.inr (Or.inr (Or.inr (Or.inr ⟨rfl, rfl, rfl⟩)))) (hb hby own_d18_22) hr, hrun, hended, _, _, rfl, ?_, ⟨_, rfl⟩, hW, hsame.mono (by decide) (by decide)⟩
  exact ⟨_, rfl, N0, KE, EY⟩
def own_QrmMax (Z : State) (p1 p2 : Int32) (h0 : Heap) (n0 : Nat) (v : Option Value) (h : Heap) (L : List Loc) : Prop := v = some (.int p1) ∧ Fr n0 L ∧ h = h0
set_option maxRecDepth 65536 in
set_option maxHeartbeats 40000000 in
theorem rmMax (l : Launch) (Z : State) (a0 : Array Value) (hw : ∀ d ∈ tables_1, d.before a0 Z = true) (ws : List Jvm.Cond) (p1 p2 : Int32) (h0 : Heap) (n0 : Nat) (Z0 : n0 ≤ h0.size) (hk : ¬ p1 < p2) :
    MetFree l (⟨"java/lang/Math", "max", "(II)I"⟩ : MethodName) (head1 (Jvm.Cond.code (⟨"java/lang/Math", "max", "(II)I"⟩ : MethodName) jdk_29_method_65_code 2 (some .int) :: ws) ({ frames := 0, cells := 0, slots := 0, locals := 0 } : Room)) (fun a U => a = #[(.int p1), (.int p2)] ∧ Z.Warmed39 U.vm ∧ U.heap = h0) (fun _ _ _ _ _ => True) (fun _ U o U' => ∃ v L, o = .returned v ∧ own_QrmMax Z p1 p2 h0 n0 v U'.heap L ∧ FrameEnd U o U' L ({ frames := 0, cells := 0, slots := 0, locals := 0 } : Room).cells ({ frames := 0, cells := 0, slots := 0, locals := 0 } : Room).slots) := by
  refine MetFree.of_bodySF (Jvm.Free.JP.mathPlain rfl (by decide +kernel)) hisR ?_
  intro p e s m args below meth c s₁ Bd hml0 hP hK
  obtain ⟨rfl, hZ, hh⟩ := hP
  have hx := Bd.exec
  have hby := Bd.bytes
  have hml : c.maxLocals = 2 := hml0
  have hown : s.vm.findClass "java/lang/Math" = some m.cls := findClass_of_methodNamed Bd.named
  have hnm := (name_of_methodNamed Bd.named Bd.method).1
  have X0 : Stand p l e ({ frames := 0, cells := 0, slots := 0, locals := 0 } : Room) s m #[(.int p1), (.int p2)] below meth c s₁ [] 0 0 := Stand.of_body Bd
  have e0 : s₁.heap = h0 := by rw [← hh, Bd.state]; rfl
  have N0 := Fr.nil n0
  refine own_adv (B := s₁.setTop (mkF m 0 #[.val (.int p1), .val (.int p2)] [])) (fun t k => castTop (own_ef_rmMax m p1 p2) k) ?_
  refine own_adv (B := s₁.setTop (mkF m 1 #[.val (.int p1), .val (.int p2)] [(.int p1)])) (fun t k => XS.iloadN X0.here hx rfl (hb hby own_d23_0) rfl k) ?_
  refine own_adv (B := s₁.setTop (mkF m 2 #[.val (.int p1), .val (.int p2)] [(.int p2), (.int p1)])) (fun t k => XS.iloadN X0.here hx rfl (hb hby own_d23_1) rfl k) ?_
  refine own_adv (B := s₁.setTop (mkF m 5 #[.val (.int p1), .val (.int p2)] [])) (fun t k => XS.icmpNo X0.here hx rfl (hb hby own_d23_2) rfl (flt hk).1 k) ?_
  refine own_adv (B := s₁.setTop (mkF m 6 #[.val (.int p1), .val (.int p2)] [(.int p1)])) (fun t k => XS.iloadN X0.here hx rfl (hb hby own_d23_5) rfl k) ?_
  refine own_adv (B := s₁.setTop (mkF m 10 #[.val (.int p1), .val (.int p2)] [(.int p1)])) (fun t k => XS.goto X0.here hx rfl (pc0 := 6) (pc' := 10) rfl (hb hby own_d23_6) (by decide) (by decide) k) ?_
  obtain ⟨fs, hr, hrun, hended, hW, hsame⟩ := X0.leave (v := some (.int p1)) (fun h => by rw [Bd.returns] at h; cases h)
  refine ⟨_, _, retOut X0 hx (t := .int) (i := .ireturn) Bd.returns rfl (Or.inl ⟨rfl, Or.inl rfl, _, rfl⟩) (hb hby own_d23_10) hr, hrun, hended, _, _, rfl, ?_, ⟨_, rfl⟩, hW, hsame.mono (by decide) (by decide)⟩
  exact ⟨rfl, N0, e0⟩
def own_QrmMin_ (Z : State) (p1 p2 r : Int32) (h0 : Heap) (n0 : Nat) (v : Option Value) (h : Heap) (L : List Loc) : Prop := v = some (.int r) ∧ Fr n0 L ∧ h = h0
set_option maxRecDepth 65536 in
set_option maxHeartbeats 40000000 in
theorem rmMin_ (l : Launch) (Z : State) (a0 : Array Value) (hw : ∀ d ∈ tables_1, d.before a0 Z = true) (ws : List Jvm.Cond) (p1 p2 r : Int32) (h0 : Heap) (n0 : Nat) (Z0 : n0 ≤ h0.size) (hk : (p2 < p1 ∧ r = p2) ∨ (¬ p2 < p1 ∧ r = p1)) :
    MetFree l (⟨"java/lang/Math", "min", "(II)I"⟩ : MethodName) (head1 (Jvm.Cond.code (⟨"java/lang/Math", "min", "(II)I"⟩ : MethodName) jdk_29_method_69_code 2 (some .int) :: ws) ({ frames := 0, cells := 0, slots := 0, locals := 0 } : Room)) (fun a U => a = #[(.int p1), (.int p2)] ∧ Z.Warmed39 U.vm ∧ U.heap = h0) (fun _ _ _ _ _ => True) (fun _ U o U' => ∃ v L, o = .returned v ∧ own_QrmMin_ Z p1 p2 r h0 n0 v U'.heap L ∧ FrameEnd U o U' L ({ frames := 0, cells := 0, slots := 0, locals := 0 } : Room).cells ({ frames := 0, cells := 0, slots := 0, locals := 0 } : Room).slots) := by
  refine MetFree.of_bodySF (Jvm.Free.JP.mathPlain rfl (by decide +kernel)) hisR ?_
  intro p e s m args below meth c s₁ Bd hml0 hP hK
  obtain ⟨rfl, hZ, hh⟩ := hP
  have hx := Bd.exec
  have hby := Bd.bytes
  have hml : c.maxLocals = 2 := hml0
  have hown : s.vm.findClass "java/lang/Math" = some m.cls := findClass_of_methodNamed Bd.named
  have hnm := (name_of_methodNamed Bd.named Bd.method).1
  have X0 : Stand p l e ({ frames := 0, cells := 0, slots := 0, locals := 0 } : Room) s m #[(.int p1), (.int p2)] below meth c s₁ [] 0 0 := Stand.of_body Bd
  have e0 : s₁.heap = h0 := by rw [← hh, Bd.state]; rfl
  have N0 := Fr.nil n0
  refine own_adv (B := s₁.setTop (mkF m 0 #[.val (.int p1), .val (.int p2)] [])) (fun t k => castTop (own_ef_rmMin_ m p1 p2) k) ?_
  refine own_adv (B := s₁.setTop (mkF m 1 #[.val (.int p1), .val (.int p2)] [(.int p1)])) (fun t k => XS.iloadN X0.here hx rfl (hb hby own_d13_0) rfl k) ?_
  refine own_adv (B := s₁.setTop (mkF m 2 #[.val (.int p1), .val (.int p2)] [(.int p2), (.int p1)])) (fun t k => XS.iloadN X0.here hx rfl (hb hby own_d13_1) rfl k) ?_
  rcases hk with ⟨hk, hr1⟩ | ⟨hk, hr1⟩
  · skip
    refine own_adv (B := s₁.setTop (mkF m 9 #[.val (.int p1), .val (.int p2)] [])) (fun t k => XS.icmpYes X0.here hx rfl (pc0 := 2) (pc' := 9) rfl (hb hby own_d13_2) rfl (tlt hk).2.2.1 (by decide) (by decide) k) ?_
    refine own_adv (B := s₁.setTop (mkF m 10 #[.val (.int p1), .val (.int p2)] [(.int p2)])) (fun t k => XS.iloadN X0.here hx rfl (hb hby own_d13_9) rfl k) ?_
    obtain ⟨fs, hr, hrun, hended, hW, hsame⟩ := X0.leave (v := some (.int p2)) (fun h => by rw [Bd.returns] at h; cases h)
    refine ⟨_, _, retOut X0 hx (t := .int) (i := .ireturn) Bd.returns rfl (Or.inl ⟨rfl, Or.inl rfl, _, rfl⟩) (hb hby own_d13_10) hr, hrun, hended, _, _, rfl, ?_, ⟨_, rfl⟩, hW, hsame.mono (by decide) (by decide)⟩
    exact ⟨by rw [hr1], N0, e0⟩
  · skip
    refine own_adv (B := s₁.setTop (mkF m 5 #[.val (.int p1), .val (.int p2)] [])) (fun t k => XS.icmpNo X0.here hx rfl (hb hby own_d13_2) rfl (flt hk).2.2.1 k) ?_
    refine own_adv (B := s₁.setTop (mkF m 6 #[.val (.int p1), .val (.int p2)] [(.int p1)])) (fun t k => XS.iloadN X0.here hx rfl (hb hby own_d13_5) rfl k) ?_
    refine own_adv (B := s₁.setTop (mkF m 10 #[.val (.int p1), .val (.int p2)] [(.int p1)])) (fun t k => XS.goto X0.here hx rfl (pc0 := 6) (pc' := 10) rfl (hb hby own_d13_6) (by decide) (by decide) k) ?_
    obtain ⟨fs, hr, hrun, hended, hW, hsame⟩ := X0.leave (v := some (.int p1)) (fun h => by rw [Bd.returns] at h; cases h)
    refine ⟨_, _, retOut X0 hx (t := .int) (i := .ireturn) Bd.returns rfl (Or.inl ⟨rfl, Or.inl rfl, _, rfl⟩) (hb hby own_d13_10) hr, hrun, hended, _, _, rfl, ?_, ⟨_, rfl⟩, hW, hsame.mono (by decide) (by decide)⟩
    exact ⟨by rw [hr1], N0, e0⟩
def own_QrmG1 (Z : State) (a1 wD : Addr) (kD : ClassId) (mc p1 : Int32) (h0 : Heap) (n0 : Nat) (v : Option Value) (h : Heap) (L : List Loc) : Prop := ∃ b k, v = some (.ref b) ∧ Fr n0 L ∧ Keep h0 h [a1] ∧ h0.size ≤ b ∧ Exa Z h a1 "java/util/ArrayList" ∧ Fld Z h a1 "java/util/AbstractList" "modCount" "I" (.int mc) ∧ Fld Z h a1 "java/util/ArrayList" "size" "I" (.int (0 : Int32)) ∧ Fld Z h a1 "java/util/ArrayList" "elementData" "[Ljava/lang/Object;" (.ref b) ∧ Arv Z h b k (.object "java/lang/Object") (10 : Int32) [] .null ∧ Ovr Z k "java/lang/Object" ∧ Exa Z h b "[Ljava/lang/Object;"
set_option maxRecDepth 65536 in
set_option maxHeartbeats 40000000 in
theorem rmG1 (l : Launch) (Z : State) (a0 : Array Value) (hw : ∀ d ∈ tables_1, d.before a0 Z = true) (ws : List Jvm.Cond) (a1 wD : Addr) (kD : ClassId) (mc p1 : Int32) (h0 : Heap) (n0 : Nat) (Z0 : n0 ≤ h0.size) (OL : Old Z n0 h0) (S_D : Sta Z Z.heap "java/util/ArrayList" "DEFAULTCAPACITY_EMPTY_ELEMENTDATA" "[Ljava/lang/Object;" (.ref wD)) (VD : Arv Z Z.heap wD kD (.object "java/lang/Object") (0 : Int32) [] .null) (E1 : Exa Z h0 a1 "java/util/ArrayList") (FM : Fld Z h0 a1 "java/util/AbstractList" "modCount" "I" (.int mc)) (FS : Fld Z h0 a1 "java/util/ArrayList" "size" "I" (.int (0 : Int32))) (FE : Fld Z h0 a1 "java/util/ArrayList" "elementData" "[Ljava/lang/Object;" (.ref wD)) (g1 : n0 ≤ a1) (hp : ¬ (10 : Int32) < p1) :
    MetFree l (⟨"java/util/ArrayList", "grow", "(I)[Ljava/lang/Object;"⟩ : MethodName) (head1 (Jvm.Cond.code (⟨"java/util/ArrayList", "grow", "(I)[Ljava/lang/Object;"⟩ : MethodName) jdk_38_method_6_code 4 (some (.array (.object "java/lang/Object"))) :: ws) ({ frames := 1, cells := 1, slots := 10, locals := 14 } : Room)) (fun a U => a = #[(.ref a1), (.int p1)] ∧ Z.Warmed39 U.vm ∧ U.heap = h0) (fun _ _ _ _ _ => True) (fun _ U o U' => ∃ v L, o = .returned v ∧ own_QrmG1 Z a1 wD kD mc p1 h0 n0 v U'.heap L ∧ FrameEnd U o U' L ({ frames := 1, cells := 1, slots := 10, locals := 14 } : Room).cells ({ frames := 1, cells := 1, slots := 10, locals := 14 } : Room).slots) := by
  refine MetFree.of_bodySF (plainFor_of_name own_pn_java_util_ArrayList) hisR ?_
  intro p e s m args below meth c s₁ Bd hml0 hP hK
  obtain ⟨rfl, hZ, hh⟩ := hP
  have hx := Bd.exec
  have hby := Bd.bytes
  have hml : c.maxLocals = 4 := hml0
  have hown : s.vm.findClass "java/util/ArrayList" = some m.cls := findClass_of_methodNamed Bd.named
  have hnm := (name_of_methodNamed Bd.named Bd.method).1
  have X0 : Stand p l e ({ frames := 1, cells := 1, slots := 10, locals := 14 } : Room) s m #[(.ref a1), (.int p1)] below meth c s₁ [] 0 0 := Stand.of_body Bd
  have e0 : s₁.heap = h0 := by rw [← hh, Bd.state]; rfl
  have N0 := Fr.nil n0
  refine own_adv (B := s₁.setTop (mkF m 0 #[.val (.ref a1), .val (.int p1), .unset, .unset] [])) (fun t k => castTop (own_ef_rmG1 m a1 p1) k) ?_
  have KK0 : Keep h0 h0 [a1] := Keep.refl h0 _
  refine own_adv (B := s₁.setTop (mkF m 1 #[.val (.ref a1), .val (.int p1), .unset, .unset] [(.ref a1)])) (fun t k => XS.aloadN X0.here hx rfl (hb hby own_d22_0) rfl rfl k) ?_
  obtain ⟨T10, X10, e10, st10⟩ := getF X0 hx hZ hown (host := "") (Or.inl (hw _ (List.mem_of_getElem? (i := 25) rfl))) Via.refl e0 FE (g := (mkF m 1 #[.val (.ref a1), .val (.int p1), .unset, .unset] [(.ref a1)])) rfl rfl (hb hby own_d22_1)
  refine own_adv (B := T10.setTop (mkF m 4 #[.val (.ref a1), .val (.int p1), .unset, .unset] [(.ref wD)])) st10 ?_
  obtain ⟨cl11, Ar11, -, S11, Nn11, -, -⟩ := id ((VD.ext OL.2))
  refine own_adv (B := T10.setTop (mkF m 5 #[.val (.ref a1), .val (.int p1), .unset, .unset] [(.int (0 : Int32))])) (fun t k => X10.arraylength hx (by rw [e10]; exact Ar11.1) (State.isArrayOf_alike hZ.alike Ar11.2.1) (g := (mkF m 4 #[.val (.ref a1), .val (.int p1), .unset, .unset] [(.ref wD)])) rfl rfl (hb hby own_d22_4) _ (by rw [len_of S11 Nn11]; exact k)) ?_
  refine own_adv (B := T10.setTop (mkF m 6 #[.val (.ref a1), .val (.int p1), .val (.int (0 : Int32)), .unset] [])) (fun t k => XS.istoreN X10.here hx rfl (hb hby own_d22_5) rfl (l' := #[.val (.ref a1), .val (.int p1), .val (.int (0 : Int32)), .unset]) rfl k) ?_
  refine own_adv (B := T10.setTop (mkF m 7 #[.val (.ref a1), .val (.int p1), .val (.int (0 : Int32)), .unset] [(.int (0 : Int32))])) (fun t k => XS.iloadN X10.here hx rfl (hb hby own_d22_6) rfl k) ?_
  refine own_adv (B := T10.setTop (mkF m 10 #[.val (.ref a1), .val (.int p1), .val (.int (0 : Int32)), .unset] [])) (fun t k => XS.ifNo X10.here hx rfl (hb hby own_d22_7) rfl ((if0 _ _).trans (flt (by decide)).2.2.1) k) ?_
  refine own_adv (B := T10.setTop (mkF m 11 #[.val (.ref a1), .val (.int p1), .val (.int (0 : Int32)), .unset] [(.ref a1)])) (fun t k => XS.aloadN X10.here hx rfl (hb hby own_d22_10) rfl rfl k) ?_
  obtain ⟨T12, X12, e12, st12⟩ := getF X10 hx hZ hown (host := "") (Or.inl (hw _ (List.mem_of_getElem? (i := 25) rfl))) Via.refl e10 FE (g := (mkF m 11 #[.val (.ref a1), .val (.int p1), .val (.int (0 : Int32)), .unset] [(.ref a1)])) rfl rfl (hb hby own_d22_11)
  refine own_adv (B := T12.setTop (mkF m 14 #[.val (.ref a1), .val (.int p1), .val (.int (0 : Int32)), .unset] [(.ref wD)])) st12 ?_
  obtain ⟨T13, X13, e13, st13⟩ := getS2 X12 hx hZ hown (host := "") (Or.inl (hw _ (List.mem_of_getElem? (i := 24) rfl))) Via.refl e12 (S_D.ext OL.2) (g := (mkF m 14 #[.val (.ref a1), .val (.int p1), .val (.int (0 : Int32)), .unset] [(.ref wD)])) rfl (hb hby own_d22_14)
  refine own_adv (B := T13.setTop (mkF m 17 #[.val (.ref a1), .val (.int p1), .val (.int (0 : Int32)), .unset] [(.ref wD), (.ref wD)])) st13 ?_
  refine own_adv (B := T13.setTop (mkF m 45 #[.val (.ref a1), .val (.int p1), .val (.int (0 : Int32)), .unset] [])) (fun t k => Jvm.RoadKit.acmp (g := (mkF m 17 #[.val (.ref a1), .val (.int p1), .val (.int (0 : Int32)), .unset] [(.ref wD), (.ref wD)])) X13 hx rfl rfl rfl (pc0 := 17) (pc' := 45) (same := true) rfl (hb hby own_d22_17) rfl (decide_eq_true rfl) (by decide) (by decide) k) ?_
  refine own_adv (B := T13.setTop (mkF m 46 #[.val (.ref a1), .val (.int p1), .val (.int (0 : Int32)), .unset] [(.ref a1)])) (fun t k => XS.aloadN X13.here hx rfl (hb hby own_d22_45) rfl rfl k) ?_
  refine own_adv (B := T13.setTop (mkF m 48 #[.val (.ref a1), .val (.int p1), .val (.int (0 : Int32)), .unset] [(.int (10 : Int32)), (.ref a1)])) (fun t k => XS.bipush X13.here hx rfl (hb hby own_d22_46) k) ?_
  refine own_adv (B := T13.setTop (mkF m 49 #[.val (.ref a1), .val (.int p1), .val (.int (0 : Int32)), .unset] [(.int p1), (.int (10 : Int32)), (.ref a1)])) (fun t k => XS.iloadN X13.here hx rfl (hb hby own_d22_48) rfl k) ?_
  obtain ⟨_, _, ⟨T14, L14, k14, n14⟩, -, X14, ⟨Lc14, hQ14, l14, y14, z14⟩, st14⟩ := Jvm.LawKit.callS X13 hx (y := (⟨"java/lang/Math", "max", "(II)I"⟩ : MethodName)) hown (mvT hZ (hw _ (List.mem_of_getElem? (i := 157) rfl))) (mvT hZ (hw _ (List.mem_of_getElem? (i := 158) rfl))) (mvT hZ (hw _ (List.mem_of_getElem? (i := 91) rfl))) (mvT hZ (hw _ (List.mem_of_getElem? (i := 159) rfl))) (by decide) (backOf (W := 1) (rmMax l Z a0 hw [] (10 : Int32) p1 h0 n0 Z0 hp) hZ (hw _ (List.mem_of_getElem? (i := 159) rfl)) (hw _ (List.mem_of_getElem? (i := 91) rfl)) (by decide) (by decide)) (g := (mkF m 49 #[.val (.ref a1), .val (.int p1), .val (.int (0 : Int32)), .unset] [(.int p1), (.int (10 : Int32)), (.ref a1)])) rfl (by rw [hml]; rfl) (argsL := [(.int (10 : Int32)), (.int p1)]) (rest := [(.ref a1)]) (lenOf own_pd__II_I rfl) rfl (by show 2 * 0 + _ ≤ _; exact Nat.le_of_eq rfl) (hb hby own_d22_49) (fun _ _ => ⟨rfl, e13, (by decide : 0 + 0 ≤ _), (by decide : 0 + 0 ≤ _)⟩)
  dsimp only [Pt.U, Pt.locs, Pt.cells, Pt.slots] at X14 l14 y14 z14 st14 hQ14
  subst l14 y14 z14
  obtain ⟨rfl, N14q, e14⟩ := hQ14
  have N14 := Fr.app N0 N14q
  refine own_adv (B := T14.setTop (mkF m 52 #[.val (.ref a1), .val (.int p1), .val (.int (0 : Int32)), .unset] [(.int (10 : Int32)), (.ref a1)])) (fun t k => st14 t k) ?_
  obtain ⟨T15, h15, k15, X15, e15, E15, A15, B15, O15, st15⟩ := newRE X14 hx hZ hown (hw _ (List.mem_of_getElem? (i := 160) rfl)) (hw _ (List.mem_of_getElem? (i := 88) rfl)) e14 (g := (mkF m 52 #[.val (.ref a1), .val (.int p1), .val (.int (0 : Int32)), .unset] [(.int (10 : Int32)), (.ref a1)])) rfl (hb hby own_d22_52) rfl (by decide) (cap := 10) (by decide) (by decide) (by decide) (by decide) (ad := "[Ljava/lang/Object;") (by decide +kernel)
  obtain ⟨b15, g15⟩ : ∃ z, z = h0.size := ⟨_, rfl⟩
  rw [← g15] at A15 B15 st15
  subst e15
  have ne_a1_b15 : a1 ≠ b15 := Nat.ne_of_lt (Nat.lt_of_lt_of_le E1.lt (Nat.le_of_eq g15.symm))
  have sz_b15 : h0.size ≤ b15 := Nat.le_trans KK0.1 (Nat.le_of_eq g15.symm)
  have g_b15 : n0 ≤ b15 := Nat.le_trans Z0 sz_b15
  have E_a1_15 : Exa Z T15.heap a1 "java/util/ArrayList" := Exa.keep E1 ((Keep.refl _ []).ext E15)
  have F_modCount_a1_15 : Fld Z T15.heap a1 "java/util/AbstractList" "modCount" "I" (.int mc) := Fld.keep FM ((Keep.refl _ []).ext E15) nin0
  have F_size_a1_15 : Fld Z T15.heap a1 "java/util/ArrayList" "size" "I" (.int (0 : Int32)) := Fld.keep FS ((Keep.refl _ []).ext E15) nin0
  have F_elementData_a1_15 : Fld Z T15.heap a1 "java/util/ArrayList" "elementData" "[Ljava/lang/Object;" (.ref wD) := Fld.keep FE ((Keep.refl _ []).ext E15) nin0
  have OL_15 : Old Z n0 T15.heap := Old.keep OL ((Keep.refl _ []).ext E15) all0
  have KK15 : Keep h0 T15.heap [a1] := KK0.ext E15
  have V_b15 : Arv Z T15.heap b15 k15 (.object "java/lang/Object") (10 : Int32) [] .null := Arv.new A15 (by decide)
  refine own_adv (B := T15.setTop (mkF m 55 #[.val (.ref a1), .val (.int p1), .val (.int (0 : Int32)), .unset] [(.ref b15), (.ref a1)])) st15 ?_
  refine own_adv (B := T15.setTop (mkF m 56 #[.val (.ref a1), .val (.int p1), .val (.int (0 : Int32)), .unset] [(.ref b15), (.ref a1), (.ref b15)])) (fun t k => XS.dupX1 X15.here hx rfl (hb hby own_d22_55) rfl rfl rfl k) ?_
  obtain ⟨T16, h16, X16, e16, W16, st16⟩ := putF X15 hx hZ hown (host := "") (Or.inl (hw _ (List.mem_of_getElem? (i := 25) rfl))) Via.refl rfl F_elementData_a1_15 E_a1_15 (Or.inl (hw _ (List.mem_of_getElem? (i := 26) rfl))) (hw _ (List.mem_of_getElem? (i := 2) rfl)) (ty := (.array (.object "java/lang/Object"))) (by decide) rfl rfl (g := (mkF m 56 #[.val (.ref a1), .val (.int p1), .val (.int (0 : Int32)), .unset] [(.ref b15), (.ref a1), (.ref b15)])) rfl rfl (hb hby own_d22_56)
  subst e16
  have N16 := Fr.snoc X16 N14 g1
  have E_a1_16 : Exa Z T16.heap a1 "java/util/ArrayList" := Exa.keep E_a1_15 (Keep.of_wr W16)
  have F_modCount_a1_16 : Fld Z T16.heap a1 "java/util/AbstractList" "modCount" "I" (.int mc) := Fld.other W16 F_modCount_a1_15 (Or.inr (slot_ne (Or.inl (hw _ (List.mem_of_getElem? (i := 23) rfl))) (Or.inl (hw _ (List.mem_of_getElem? (i := 26) rfl))) (by decide) (t := .int) (t' := (.array (.object "java/lang/Object"))) (by decide) (by decide)))
  have F_size_a1_16 : Fld Z T16.heap a1 "java/util/ArrayList" "size" "I" (.int (0 : Int32)) := Fld.other W16 F_size_a1_15 (Or.inr (slot_ne (Or.inl (hw _ (List.mem_of_getElem? (i := 72) rfl))) (Or.inl (hw _ (List.mem_of_getElem? (i := 26) rfl))) (by decide) (t := .int) (t' := (.array (.object "java/lang/Object"))) (by decide) (by decide)))
  have F_elementData_a1_16 : Fld Z T16.heap a1 "java/util/ArrayList" "elementData" "[Ljava/lang/Object;" (.ref b15) := Fld.same W16 F_elementData_a1_15
  have OL_16 : Old Z n0 T16.heap := Old.keep OL_15 (Keep.of_wr W16) (allS g1 all0)
  have E_b15_16 : Exa Z T16.heap b15 "[Ljava/lang/Object;" := Exa.keep B15 (Keep.of_wr W16)
  have V_b15_16 : Arv Z T16.heap b15 k15 (.object "java/lang/Object") (10 : Int32) [] .null := Arv.keep V_b15 (Keep.of_wr W16) (ninS (Ne.symm ne_a1_b15) nin0)
  have KK16 : Keep h0 T16.heap [a1] := KK15.wr W16 (Or.inl (List.mem_of_getElem? (i := 0) rfl))
  refine own_adv (B := T16.setTop (mkF m 59 #[.val (.ref a1), .val (.int p1), .val (.int (0 : Int32)), .unset] [(.ref b15)])) st16 ?_
  obtain ⟨fs, hr, hrun, hended, hW, hsame⟩ := X16.leave (v := some (.ref b15)) (fun h => by rw [Bd.returns] at h; cases h)
  refine ⟨_, _, retOut X16 hx (t := (.array (.object "java/lang/Object"))) (i := .areturn) Bd.returns rfl (Or.inr (Or.inr (Or.inr (Or.inr ⟨rfl, rfl, rfl⟩)))) (hb hby own_d22_59) hr, hrun, hended, _, _, rfl, ?_, ⟨_, rfl⟩, hW, hsame.mono (by decide) (by decide)⟩
  exact ⟨_, _, rfl, N16, KK16, sz_b15, E_a1_16, F_modCount_a1_16, F_size_a1_16, F_elementData_a1_16, V_b15_16, O15, E_b15_16⟩
def own_QrmG0 (Z : State) (a1 wD : Addr) (kD : ClassId) (mc : Int32) (h0 : Heap) (n0 : Nat) (v : Option Value) (h : Heap) (L : List Loc) : Prop := ∃ b k, v = some (.ref b) ∧ Fr n0 L ∧ Keep h0 h [a1] ∧ h0.size ≤ b ∧ Exa Z h a1 "java/util/ArrayList" ∧ Fld Z h a1 "java/util/AbstractList" "modCount" "I" (.int mc) ∧ Fld Z h a1 "java/util/ArrayList" "size" "I" (.int (0 : Int32)) ∧ Fld Z h a1 "java/util/ArrayList" "elementData" "[Ljava/lang/Object;" (.ref b) ∧ Arv Z h b k (.object "java/lang/Object") (10 : Int32) [] .null ∧ Ovr Z k "java/lang/Object" ∧ Exa Z h b "[Ljava/lang/Object;"
set_option maxRecDepth 65536 in
set_option maxHeartbeats 40000000 in
theorem rmG0 (l : Launch) (Z : State) (a0 : Array Value) (hw : ∀ d ∈ tables_1, d.before a0 Z = true) (ws : List Jvm.Cond) (a1 wD : Addr) (kD : ClassId) (mc : Int32) (h0 : Heap) (n0 : Nat) (Z0 : n0 ≤ h0.size) (OL : Old Z n0 h0) (S_D : Sta Z Z.heap "java/util/ArrayList" "DEFAULTCAPACITY_EMPTY_ELEMENTDATA" "[Ljava/lang/Object;" (.ref wD)) (VD : Arv Z Z.heap wD kD (.object "java/lang/Object") (0 : Int32) [] .null) (E1 : Exa Z h0 a1 "java/util/ArrayList") (FM : Fld Z h0 a1 "java/util/AbstractList" "modCount" "I" (.int mc)) (FS : Fld Z h0 a1 "java/util/ArrayList" "size" "I" (.int (0 : Int32))) (FE : Fld Z h0 a1 "java/util/ArrayList" "elementData" "[Ljava/lang/Object;" (.ref wD)) (g1 : n0 ≤ a1) :
    MetFree l (⟨"java/util/ArrayList", "grow", "()[Ljava/lang/Object;"⟩ : MethodName) (head1 (Jvm.Cond.code (⟨"java/util/ArrayList", "grow", "()[Ljava/lang/Object;"⟩ : MethodName) jdk_38_method_7_code 1 (some (.array (.object "java/lang/Object"))) :: ws) ({ frames := 2, cells := 1, slots := 10, locals := 29 } : Room)) (fun a U => a = #[(.ref a1)] ∧ Z.Warmed39 U.vm ∧ U.heap = h0) (fun _ _ _ _ _ => True) (fun _ U o U' => ∃ v L, o = .returned v ∧ own_QrmG0 Z a1 wD kD mc h0 n0 v U'.heap L ∧ FrameEnd U o U' L ({ frames := 2, cells := 1, slots := 10, locals := 29 } : Room).cells ({ frames := 2, cells := 1, slots := 10, locals := 29 } : Room).slots) := by
  refine MetFree.of_bodySF (plainFor_of_name own_pn_java_util_ArrayList) hisR ?_
  intro p e s m args below meth c s₁ Bd hml0 hP hK
  obtain ⟨rfl, hZ, hh⟩ := hP
  have hx := Bd.exec
  have hby := Bd.bytes
  have hml : c.maxLocals = 1 := hml0
  have hown : s.vm.findClass "java/util/ArrayList" = some m.cls := findClass_of_methodNamed Bd.named
  have hnm := (name_of_methodNamed Bd.named Bd.method).1
  have X0 : Stand p l e ({ frames := 2, cells := 1, slots := 10, locals := 29 } : Room) s m #[(.ref a1)] below meth c s₁ [] 0 0 := Stand.of_body Bd
  have e0 : s₁.heap = h0 := by rw [← hh, Bd.state]; rfl
  have N0 := Fr.nil n0
  refine own_adv (B := s₁.setTop (mkF m 0 #[.val (.ref a1)] [])) (fun t k => castTop (own_ef_rmG0 m a1) k) ?_
  have KK0 : Keep h0 h0 [a1] := Keep.refl h0 _
  refine own_adv (B := s₁.setTop (mkF m 1 #[.val (.ref a1)] [(.ref a1)])) (fun t k => XS.aloadN X0.here hx rfl (hb hby own_d21_0) rfl rfl k) ?_
  refine own_adv (B := s₁.setTop (mkF m 2 #[.val (.ref a1)] [(.ref a1), (.ref a1)])) (fun t k => XS.aloadN X0.here hx rfl (hb hby own_d21_1) rfl rfl k) ?_
  obtain ⟨T10, X10, e10, st10⟩ := getF X0 hx hZ hown (host := "") (Or.inl (hw _ (List.mem_of_getElem? (i := 71) rfl))) Via.refl e0 FS (g := (mkF m 2 #[.val (.ref a1)] [(.ref a1), (.ref a1)])) rfl rfl (hb hby own_d21_2)
  refine own_adv (B := T10.setTop (mkF m 5 #[.val (.ref a1)] [(.int (0 : Int32)), (.ref a1)])) st10 ?_
  refine own_adv (B := T10.setTop (mkF m 6 #[.val (.ref a1)] [(.int (1 : Int32)), (.int (0 : Int32)), (.ref a1)])) (fun t k => XS.iconst X10.here hx rfl (hb hby own_d21_5) k) ?_
  refine own_adv (B := T10.setTop (mkF m 7 #[.val (.ref a1)] [(.int ((0 : Int32) + (1 : Int32))), (.ref a1)])) (fun t k => XS.iadd X10.here hx rfl (hb hby own_d21_6) rfl k) ?_
  obtain ⟨cq11, q11, q11'⟩ := Exa.cell E1
  obtain ⟨_, _, ⟨T11, L11, k11, n11⟩, -, X11, ⟨Lc11, hQ11, l11, y11, z11⟩, st11⟩ := X10.privateBack hx (y := (⟨"java/util/ArrayList", "grow", "(I)[Ljava/lang/Object;"⟩ : MethodName)) hown (mvT hZ (hw _ (List.mem_of_getElem? (i := 152) rfl))) (mvT hZ (hw _ (List.mem_of_getElem? (i := 153) rfl))) (mvT hZ (hw _ (List.mem_of_getElem? (i := 155) rfl))) (Cond.privateMethod_at (mvP hZ (hw _ (List.mem_of_getElem? (i := 154) rfl)) (args := #[]))) (mvT hZ (hw _ (List.mem_of_getElem? (i := 156) rfl))) (by decide) (backOf (W := 0) (rmG1 l Z a0 hw [] a1 wD kD mc ((0 : Int32) + (1 : Int32)) h0 n0 Z0 OL S_D VD E1 FM FS FE g1 (by decide)) hZ (hw _ (List.mem_of_getElem? (i := 156) rfl)) (hw _ (List.mem_of_getElem? (i := 3) rfl)) (by decide) (by decide)) (g := (mkF m 7 #[.val (.ref a1)] [(.int ((0 : Int32) + (1 : Int32))), (.ref a1)])) rfl (by rw [hml]; rfl) (Steps.refl _) (a := a1) (by rw [e10]; exact q11) q11' (argsL := [(.int ((0 : Int32) + (1 : Int32)))]) (rest := []) (lenOf own_pd__I__Ljava_lang_Object_ rfl) rfl (by show 2 * 0 + _ ≤ _; exact Nat.le_of_eq rfl) (hb hby own_d21_7) (fun _ _ => ⟨rfl, e10, (by decide : 0 + 1 ≤ _), (by decide : 0 + 10 ≤ _)⟩)
  dsimp only [Pt.U, Pt.locs, Pt.cells, Pt.slots] at X11 l11 y11 z11 st11 hQ11
  subst l11 y11 z11
  obtain ⟨b11, kb11, rfl, N11q, K11, hb11, EX11, FM11, FS11, FE11, V11, O11, B11⟩ := hQ11
  have N11 := Fr.app N0 N11q
  have ne_a1_b11 : a1 ≠ b11 := Nat.ne_of_lt (Nat.lt_of_lt_of_le E1.lt hb11)
  have sz_b11 : h0.size ≤ b11 := Nat.le_trans KK0.1 hb11
  have g_b11 : n0 ≤ b11 := Nat.le_trans Z0 sz_b11
  have E_a1_11 : Exa Z T11.heap a1 "java/util/ArrayList" := Exa.keep E1 K11
  have OL_11 : Old Z n0 T11.heap := Old.keep OL K11 (allS g1 all0)
  have KK11 : Keep h0 T11.heap [a1] := KK0.trans K11 (allS (Or.inl (List.mem_of_getElem? (i := 0) rfl)) all0)
  refine own_adv (B := T11.setTop (mkF m 10 #[.val (.ref a1)] [(.ref b11)])) (fun t k => st11.trans k) ?_
  obtain ⟨fs, hr, hrun, hended, hW, hsame⟩ := X11.leave (v := some (.ref b11)) (fun h => by rw [Bd.returns] at h; cases h)
  refine ⟨_, _, retOut X11 hx (t := (.array (.object "java/lang/Object"))) (i := .areturn) Bd.returns rfl (Or.inr (Or.inr (Or.inr (Or.inr ⟨rfl, rfl, rfl⟩)))) (hb hby own_d21_10) hr, hrun, hended, _, _, rfl, ?_, ⟨_, rfl⟩, hW, hsame.mono (by decide) (by decide)⟩
  exact ⟨_, _, rfl, N11, KK11, hb11, EX11, FM11, FS11, FE11, V11, O11, B11⟩
def own_QrmA3F (Z : State) (a1 y1 wD : Addr) (kD : ClassId) (mc : Int32) (h0 : Heap) (n0 : Nat) (v : Option Value) (h : Heap) (L : List Loc) : Prop := ∃ b k, v = none ∧ Fr n0 L ∧ Keep h0 h [a1] ∧ h0.size ≤ b ∧ own_LS Z h a1 b k (10 : Int32) (1 : Int32) [.ref y1] ∧ Ovr Z k "java/lang/Object"
set_option maxRecDepth 65536 in
set_option maxHeartbeats 40000000 in
theorem rmA3F (l : Launch) (Z : State) (a0 : Array Value) (hw : ∀ d ∈ tables_1, d.before a0 Z = true) (ws : List Jvm.Cond) (a1 y1 wD : Addr) (kD : ClassId) (mc : Int32) (h0 : Heap) (n0 : Nat) (Z0 : n0 ≤ h0.size) (OL : Old Z n0 h0) (S_D : Sta Z Z.heap "java/util/ArrayList" "DEFAULTCAPACITY_EMPTY_ELEMENTDATA" "[Ljava/lang/Object;" (.ref wD)) (VD : Arv Z Z.heap wD kD (.object "java/lang/Object") (0 : Int32) [] .null) (E1 : Exa Z h0 a1 "java/util/ArrayList") (FM : Fld Z h0 a1 "java/util/AbstractList" "modCount" "I" (.int mc)) (FS : Fld Z h0 a1 "java/util/ArrayList" "size" "I" (.int (0 : Int32))) (FE : Fld Z h0 a1 "java/util/ArrayList" "elementData" "[Ljava/lang/Object;" (.ref wD)) (g1 : n0 ≤ a1) (Ey : Exa Z h0 y1 "java/lang/Integer") :
    MetFree l (⟨"java/util/ArrayList", "add", "(Ljava/lang/Object;[Ljava/lang/Object;I)V"⟩ : MethodName) (head1 (Jvm.Cond.code (⟨"java/util/ArrayList", "add", "(Ljava/lang/Object;[Ljava/lang/Object;I)V"⟩ : MethodName) jdk_38_method_24_code 4 none :: ws) ({ frames := 3, cells := 1, slots := 10, locals := 41 } : Room)) (fun a U => a = #[(.ref a1), (.ref y1), (.ref wD), (.int (0 : Int32))] ∧ Z.Warmed39 U.vm ∧ U.heap = h0) (fun _ _ _ _ _ => True) (fun _ U o U' => ∃ v L, o = .returned v ∧ own_QrmA3F Z a1 y1 wD kD mc h0 n0 v U'.heap L ∧ FrameEnd U o U' L ({ frames := 3, cells := 1, slots := 10, locals := 41 } : Room).cells ({ frames := 3, cells := 1, slots := 10, locals := 41 } : Room).slots) := by
  refine MetFree.of_bodySF (plainFor_of_name own_pn_java_util_ArrayList) hisR ?_
  intro p e s m args below meth c s₁ Bd hml0 hP hK
  obtain ⟨rfl, hZ, hh⟩ := hP
  have hx := Bd.exec
  have hby := Bd.bytes
  have hml : c.maxLocals = 4 := hml0
  have hown : s.vm.findClass "java/util/ArrayList" = some m.cls := findClass_of_methodNamed Bd.named
  have hnm := (name_of_methodNamed Bd.named Bd.method).1
  have X0 : Stand p l e ({ frames := 3, cells := 1, slots := 10, locals := 41 } : Room) s m #[(.ref a1), (.ref y1), (.ref wD), (.int (0 : Int32))] below meth c s₁ [] 0 0 := Stand.of_body Bd
  have e0 : s₁.heap = h0 := by rw [← hh, Bd.state]; rfl
  have N0 := Fr.nil n0
  refine own_adv (B := s₁.setTop (mkF m 0 #[.val (.ref a1), .val (.ref y1), .val (.ref wD), .val (.int (0 : Int32))] [])) (fun t k => castTop (own_ef_rmA3F m a1 y1 wD (0 : Int32)) k) ?_
  have KK0 : Keep h0 h0 [a1] := Keep.refl h0 _
  refine own_adv (B := s₁.setTop (mkF m 1 #[.val (.ref a1), .val (.ref y1), .val (.ref wD), .val (.int (0 : Int32))] [(.int (0 : Int32))])) (fun t k => XS.iloadN X0.here hx rfl (hb hby own_d20_0) rfl k) ?_
  refine own_adv (B := s₁.setTop (mkF m 2 #[.val (.ref a1), .val (.ref y1), .val (.ref wD), .val (.int (0 : Int32))] [(.ref wD), (.int (0 : Int32))])) (fun t k => XS.aloadN X0.here hx rfl (hb hby own_d20_1) rfl rfl k) ?_
  obtain ⟨cl10, Ar10, -, S10, Nn10, -, -⟩ := id ((VD.ext OL.2))
  refine own_adv (B := s₁.setTop (mkF m 3 #[.val (.ref a1), .val (.ref y1), .val (.ref wD), .val (.int (0 : Int32))] [(.int (0 : Int32)), (.int (0 : Int32))])) (fun t k => X0.arraylength hx (by rw [e0]; exact Ar10.1) (State.isArrayOf_alike hZ.alike Ar10.2.1) (g := (mkF m 2 #[.val (.ref a1), .val (.ref y1), .val (.ref wD), .val (.int (0 : Int32))] [(.ref wD), (.int (0 : Int32))])) rfl rfl (hb hby own_d20_2) _ (by rw [len_of S10 Nn10]; exact k)) ?_
  refine own_adv (B := s₁.setTop (mkF m 6 #[.val (.ref a1), .val (.ref y1), .val (.ref wD), .val (.int (0 : Int32))] [])) (fun t k => XS.icmpNo X0.here hx rfl (hb hby own_d20_3) rfl (teq (rfl : (0 : Int32) = (0 : Int32))).2 k) ?_
  refine own_adv (B := s₁.setTop (mkF m 7 #[.val (.ref a1), .val (.ref y1), .val (.ref wD), .val (.int (0 : Int32))] [(.ref a1)])) (fun t k => XS.aloadN X0.here hx rfl (hb hby own_d20_6) rfl rfl k) ?_
  obtain ⟨cq11, q11, q11'⟩ := Exa.cell E1
  obtain ⟨_, _, ⟨T11, L11, k11, n11⟩, -, X11, ⟨Lc11, hQ11, l11, y11, z11⟩, st11⟩ := X0.privateBack hx (y := (⟨"java/util/ArrayList", "grow", "()[Ljava/lang/Object;"⟩ : MethodName)) hown (mvT hZ (hw _ (List.mem_of_getElem? (i := 147) rfl))) (mvT hZ (hw _ (List.mem_of_getElem? (i := 148) rfl))) (mvT hZ (hw _ (List.mem_of_getElem? (i := 150) rfl))) (Cond.privateMethod_at (mvP hZ (hw _ (List.mem_of_getElem? (i := 149) rfl)) (args := #[]))) (mvT hZ (hw _ (List.mem_of_getElem? (i := 151) rfl))) (by decide) (backOf (W := 0) (rmG0 l Z a0 hw [] a1 wD kD mc h0 n0 Z0 OL S_D VD E1 FM FS FE g1) hZ (hw _ (List.mem_of_getElem? (i := 151) rfl)) (hw _ (List.mem_of_getElem? (i := 3) rfl)) (by decide) (by decide)) (g := (mkF m 7 #[.val (.ref a1), .val (.ref y1), .val (.ref wD), .val (.int (0 : Int32))] [(.ref a1)])) rfl (by rw [hml]; rfl) (Steps.refl _) (a := a1) (by rw [e0]; exact q11) q11' (argsL := []) (rest := []) (lenOf own_pd____Ljava_lang_Object_ rfl) rfl (by show 2 * 0 + _ ≤ _; exact Nat.le_of_eq rfl) (hb hby own_d20_7) (fun _ _ => ⟨rfl, e0, (by decide : 0 + 1 ≤ _), (by decide : 0 + 10 ≤ _)⟩)
  dsimp only [Pt.U, Pt.locs, Pt.cells, Pt.slots] at X11 l11 y11 z11 st11 hQ11
  subst l11 y11 z11
  obtain ⟨b11, kb11, rfl, N11q, K11, hb11, EX11, FM11, FS11, FE11, V11, O11, B11⟩ := hQ11
  have N11 := Fr.app N0 N11q
  have ne_a1_b11 : a1 ≠ b11 := Nat.ne_of_lt (Nat.lt_of_lt_of_le E1.lt hb11)
  have ne_y1_b11 : y1 ≠ b11 := Nat.ne_of_lt (Nat.lt_of_lt_of_le Ey.lt hb11)
  have sz_b11 : h0.size ≤ b11 := Nat.le_trans KK0.1 hb11
  have g_b11 : n0 ≤ b11 := Nat.le_trans Z0 sz_b11
  have E_a1_11 : Exa Z T11.heap a1 "java/util/ArrayList" := Exa.keep E1 K11
  have OL_11 : Old Z n0 T11.heap := Old.keep OL K11 (allS g1 all0)
  have E_y1_11 : Exa Z T11.heap y1 "java/lang/Integer" := Exa.keep Ey K11
  have KK11 : Keep h0 T11.heap [a1] := KK0.trans K11 (allS (Or.inl (List.mem_of_getElem? (i := 0) rfl)) all0)
  refine own_adv (B := T11.setTop (mkF m 10 #[.val (.ref a1), .val (.ref y1), .val (.ref wD), .val (.int (0 : Int32))] [(.ref b11)])) (fun t k => st11.trans k) ?_
  obtain ⟨clb, Arb, qb, -⟩ := id V11
  refine own_adv (B := T11.setTop (mkF m 11 #[.val (.ref a1), .val (.ref y1), .val (.ref b11), .val (.int (0 : Int32))] [])) (fun t k => XS.astoreN X11.here hx rfl (hb hby own_d20_10) rfl rfl (l' := #[.val (.ref a1), .val (.ref y1), .val (.ref b11), .val (.int (0 : Int32))]) rfl k) ?_
  refine own_adv (B := T11.setTop (mkF m 12 #[.val (.ref a1), .val (.ref y1), .val (.ref b11), .val (.int (0 : Int32))] [(.ref b11)])) (fun t k => XS.aloadN X11.here hx rfl (hb hby own_d20_11) rfl rfl k) ?_
  refine own_adv (B := T11.setTop (mkF m 13 #[.val (.ref a1), .val (.ref y1), .val (.ref b11), .val (.int (0 : Int32))] [(.int (0 : Int32)), (.ref b11)])) (fun t k => XS.iloadN X11.here hx rfl (hb hby own_d20_12) rfl k) ?_
  refine own_adv (B := T11.setTop (mkF m 14 #[.val (.ref a1), .val (.ref y1), .val (.ref b11), .val (.int (0 : Int32))] [(.ref y1), (.int (0 : Int32)), (.ref b11)])) (fun t k => XS.aloadN X11.here hx rfl (hb hby own_d20_13) rfl rfl k) ?_
  obtain ⟨T12, L12, X12, N12, K12, V12', st12⟩ := own_st X11 hx hZ rfl (V11.pad (pad_rep [] .null 1)) (Sto.ofV Arb qb O11 (Ins.of_exa E_y1_11 (hw _ (List.mem_of_getElem? (i := 161) rfl)))) rfl (by decide) 0 rfl (by decide) N11 g_b11 (g := (mkF m 14 #[.val (.ref a1), .val (.ref y1), .val (.ref b11), .val (.int (0 : Int32))] [(.ref y1), (.int (0 : Int32)), (.ref b11)])) rfl rfl (hb hby own_d20_14)
  have E_a1_12 : Exa Z T12.heap a1 "java/util/ArrayList" := Exa.keep EX11 K12
  have OL_12 : Old Z n0 T12.heap := Old.keep OL_11 K12 (allS g_b11 all0)
  have E_y1_12 : Exa Z T12.heap y1 "java/lang/Integer" := Exa.keep E_y1_11 K12
  have F_modCount_a1_12 : Fld Z T12.heap a1 "java/util/AbstractList" "modCount" "I" (.int mc) := Fld.keep FM11 K12 (ninS ne_a1_b11 nin0)
  have F_size_a1_12 : Fld Z T12.heap a1 "java/util/ArrayList" "size" "I" (.int (0 : Int32)) := Fld.keep FS11 K12 (ninS ne_a1_b11 nin0)
  have F_elementData_a1_12 : Fld Z T12.heap a1 "java/util/ArrayList" "elementData" "[Ljava/lang/Object;" (.ref b11) := Fld.keep FE11 K12 (ninS ne_a1_b11 nin0)
  have E_b11_12 : Exa Z T12.heap b11 "[Ljava/lang/Object;" := Exa.keep B11 K12
  have KK12 : Keep h0 T12.heap [a1] := KK11.trans K12 (allS (Or.inr sz_b11) all0)
  have V12 : Arv Z T12.heap b11 kb11 (.object "java/lang/Object") (10 : Int32) [.ref y1] .null := V12'
  refine own_adv (B := T12.setTop (mkF m 15 #[.val (.ref a1), .val (.ref y1), .val (.ref b11), .val (.int (0 : Int32))] [])) st12 ?_
  refine own_adv (B := T12.setTop (mkF m 16 #[.val (.ref a1), .val (.ref y1), .val (.ref b11), .val (.int (0 : Int32))] [(.ref a1)])) (fun t k => XS.aloadN X12.here hx rfl (hb hby own_d20_15) rfl rfl k) ?_
  refine own_adv (B := T12.setTop (mkF m 17 #[.val (.ref a1), .val (.ref y1), .val (.ref b11), .val (.int (0 : Int32))] [(.int (0 : Int32)), (.ref a1)])) (fun t k => XS.iloadN X12.here hx rfl (hb hby own_d20_16) rfl k) ?_
  refine own_adv (B := T12.setTop (mkF m 18 #[.val (.ref a1), .val (.ref y1), .val (.ref b11), .val (.int (0 : Int32))] [(.int (1 : Int32)), (.int (0 : Int32)), (.ref a1)])) (fun t k => XS.iconst X12.here hx rfl (hb hby own_d20_17) k) ?_
  refine own_adv (B := T12.setTop (mkF m 19 #[.val (.ref a1), .val (.ref y1), .val (.ref b11), .val (.int (0 : Int32))] [(.int ((0 : Int32) + (1 : Int32))), (.ref a1)])) (fun t k => XS.iadd X12.here hx rfl (hb hby own_d20_18) rfl k) ?_
  obtain ⟨T13, h13, X13, e13, W13, st13⟩ := putF X12 hx hZ hown (host := "") (Or.inl (hw _ (List.mem_of_getElem? (i := 71) rfl))) Via.refl rfl F_size_a1_12 E_a1_12 (Or.inl (hw _ (List.mem_of_getElem? (i := 72) rfl))) (hw _ (List.mem_of_getElem? (i := 2) rfl)) (ty := .int) (by decide) rfl rfl (g := (mkF m 19 #[.val (.ref a1), .val (.ref y1), .val (.ref b11), .val (.int (0 : Int32))] [(.int ((0 : Int32) + (1 : Int32))), (.ref a1)])) rfl rfl (hb hby own_d20_19)
  subst e13
  have N13 := Fr.snoc X13 N12 g1
  have E_a1_13 : Exa Z T13.heap a1 "java/util/ArrayList" := Exa.keep E_a1_12 (Keep.of_wr W13)
  have OL_13 : Old Z n0 T13.heap := Old.keep OL_12 (Keep.of_wr W13) (allS g1 all0)
  have E_y1_13 : Exa Z T13.heap y1 "java/lang/Integer" := Exa.keep E_y1_12 (Keep.of_wr W13)
  have F_modCount_a1_13 : Fld Z T13.heap a1 "java/util/AbstractList" "modCount" "I" (.int mc) := Fld.other W13 F_modCount_a1_12 (Or.inr (slot_ne (Or.inl (hw _ (List.mem_of_getElem? (i := 23) rfl))) (Or.inl (hw _ (List.mem_of_getElem? (i := 72) rfl))) (by decide) (t := .int) (t' := .int) (by decide) (by decide)))
  have F_size_a1_13 : Fld Z T13.heap a1 "java/util/ArrayList" "size" "I" (.int ((0 : Int32) + (1 : Int32))) := Fld.same W13 F_size_a1_12
  have F_elementData_a1_13 : Fld Z T13.heap a1 "java/util/ArrayList" "elementData" "[Ljava/lang/Object;" (.ref b11) := Fld.other W13 F_elementData_a1_12 (Or.inr (slot_ne (Or.inl (hw _ (List.mem_of_getElem? (i := 26) rfl))) (Or.inl (hw _ (List.mem_of_getElem? (i := 72) rfl))) (by decide) (t := (.array (.object "java/lang/Object"))) (t' := .int) (by decide) (by decide)))
  have E_b11_13 : Exa Z T13.heap b11 "[Ljava/lang/Object;" := Exa.keep E_b11_12 (Keep.of_wr W13)
  have V_b11_13 : Arv Z T13.heap b11 kb11 (.object "java/lang/Object") (10 : Int32) [.ref y1] .null := Arv.keep V12 (Keep.of_wr W13) (ninS (Ne.symm ne_a1_b11) nin0)
  have KK13 : Keep h0 T13.heap [a1] := KK12.wr W13 (Or.inl (List.mem_of_getElem? (i := 0) rfl))
  refine own_adv (B := T13.setTop (mkF m 22 #[.val (.ref a1), .val (.ref y1), .val (.ref b11), .val (.int (0 : Int32))] [])) st13 ?_
  obtain ⟨fs, hr, hrun, hended, hW, hsame⟩ := X13.leave (v := none) (fun _ => rfl)
  refine ⟨_, _, X13.returnOut hx Bd.returns (hb hby own_d20_22) hr, hrun, hended, _, _, rfl, ?_, ⟨_, rfl⟩, hW, hsame.mono (by decide) (by decide)⟩
  exact ⟨_, _, rfl, N13, KK13, hb11, ⟨E_a1_13, ⟨_, F_modCount_a1_13⟩, F_size_a1_13, F_elementData_a1_13, V_b11_13, E_b11_13, (fun v hv => by cases List.mem_singleton.mp hv; exact Or.inr ⟨_, rfl, E_y1_13⟩), rfl, by decide, by decide⟩, O11⟩
def own_QrmA3N (Z : State) (a1 y1 b1 : Addr) (k1 : ClassId) (mc sz : Int32) (vs : List Value) (h0 : Heap) (n0 : Nat) (v : Option Value) (h : Heap) (L : List Loc) : Prop := v = none ∧ Fr n0 L ∧ Keep h0 h [a1, b1] ∧ own_LS Z h a1 b1 k1 (10 : Int32) (sz + 1) (vs ++ [(.ref y1)])
set_option maxRecDepth 65536 in
set_option maxHeartbeats 40000000 in
theorem rmA3N (l : Launch) (Z : State) (a0 : Array Value) (hw : ∀ d ∈ tables_1, d.before a0 Z = true) (ws : List Jvm.Cond) (a1 y1 b1 : Addr) (k1 : ClassId) (mc sz : Int32) (vs : List Value) (h0 : Heap) (n0 : Nat) (Z0 : n0 ≤ h0.size) (E1 : Exa Z h0 a1 "java/util/ArrayList") (FM : Fld Z h0 a1 "java/util/AbstractList" "modCount" "I" (.int mc)) (FS : Fld Z h0 a1 "java/util/ArrayList" "size" "I" (.int sz)) (FE : Fld Z h0 a1 "java/util/ArrayList" "elementData" "[Ljava/lang/Object;" (.ref b1)) (VB : Arv Z h0 b1 k1 (.object "java/lang/Object") (10 : Int32) vs .null) (EB : Exa Z h0 b1 "[Ljava/lang/Object;") (OB : Ovr Z k1 "java/lang/Object") (EV : ∀ v ∈ vs, own_El Z h0 v) (hsz : sz.toNatClampNeg = vs.length) (hs0 : ¬ sz < 0) (hs1 : sz < (10 : Int32)) (g1 : n0 ≤ a1) (gb : n0 ≤ b1) (nab : a1 ≠ b1) (Ey : Exa Z h0 y1 "java/lang/Integer") :
    MetFree l (⟨"java/util/ArrayList", "add", "(Ljava/lang/Object;[Ljava/lang/Object;I)V"⟩ : MethodName) (head1 (Jvm.Cond.code (⟨"java/util/ArrayList", "add", "(Ljava/lang/Object;[Ljava/lang/Object;I)V"⟩ : MethodName) jdk_38_method_24_code 4 none :: ws) ({ frames := 0, cells := 0, slots := 0, locals := 0 } : Room)) (fun a U => a = #[(.ref a1), (.ref y1), (.ref b1), (.int sz)] ∧ Z.Warmed39 U.vm ∧ U.heap = h0) (fun _ _ _ _ _ => True) (fun _ U o U' => ∃ v L, o = .returned v ∧ own_QrmA3N Z a1 y1 b1 k1 mc sz vs h0 n0 v U'.heap L ∧ FrameEnd U o U' L ({ frames := 0, cells := 0, slots := 0, locals := 0 } : Room).cells ({ frames := 0, cells := 0, slots := 0, locals := 0 } : Room).slots) := by
  refine MetFree.of_bodySF (plainFor_of_name own_pn_java_util_ArrayList) hisR ?_
  intro p e s m args below meth c s₁ Bd hml0 hP hK
  obtain ⟨rfl, hZ, hh⟩ := hP
  have hx := Bd.exec
  have hby := Bd.bytes
  have hml : c.maxLocals = 4 := hml0
  have hown : s.vm.findClass "java/util/ArrayList" = some m.cls := findClass_of_methodNamed Bd.named
  have hnm := (name_of_methodNamed Bd.named Bd.method).1
  have X0 : Stand p l e ({ frames := 0, cells := 0, slots := 0, locals := 0 } : Room) s m #[(.ref a1), (.ref y1), (.ref b1), (.int sz)] below meth c s₁ [] 0 0 := Stand.of_body Bd
  have e0 : s₁.heap = h0 := by rw [← hh, Bd.state]; rfl
  have N0 := Fr.nil n0
  refine own_adv (B := s₁.setTop (mkF m 0 #[.val (.ref a1), .val (.ref y1), .val (.ref b1), .val (.int sz)] [])) (fun t k => castTop (own_ef_rmA3N m a1 y1 b1 sz) k) ?_
  have KK0 : Keep h0 h0 [a1, b1] := Keep.refl h0 _
  have hi := own_inc hs0 hs1
  refine own_adv (B := s₁.setTop (mkF m 1 #[.val (.ref a1), .val (.ref y1), .val (.ref b1), .val (.int sz)] [(.int sz)])) (fun t k => XS.iloadN X0.here hx rfl (hb hby own_d20_0) rfl k) ?_
  refine own_adv (B := s₁.setTop (mkF m 2 #[.val (.ref a1), .val (.ref y1), .val (.ref b1), .val (.int sz)] [(.ref b1), (.int sz)])) (fun t k => XS.aloadN X0.here hx rfl (hb hby own_d20_1) rfl rfl k) ?_
  obtain ⟨cl10, Ar10, -, S10, Nn10, -, -⟩ := id (VB)
  refine own_adv (B := s₁.setTop (mkF m 3 #[.val (.ref a1), .val (.ref y1), .val (.ref b1), .val (.int sz)] [(.int (10 : Int32)), (.int sz)])) (fun t k => X0.arraylength hx (by rw [e0]; exact Ar10.1) (State.isArrayOf_alike hZ.alike Ar10.2.1) (g := (mkF m 2 #[.val (.ref a1), .val (.ref y1), .val (.ref b1), .val (.int sz)] [(.ref b1), (.int sz)])) rfl rfl (hb hby own_d20_2) _ (by rw [len_of S10 Nn10]; exact k)) ?_
  refine own_adv (B := s₁.setTop (mkF m 11 #[.val (.ref a1), .val (.ref y1), .val (.ref b1), .val (.int sz)] [])) (fun t k => XS.icmpYes X0.here hx rfl (pc0 := 3) (pc' := 11) rfl (hb hby own_d20_3) rfl (feq hi.2.2.2).2 (by decide) (by decide) k) ?_
  obtain ⟨clb, Arb, qb, -⟩ := id VB
  have VB' := Arv.pad (vs' := vs ++ List.replicate 1 .null) VB (pad_rep vs .null 1)
  refine own_adv (B := s₁.setTop (mkF m 12 #[.val (.ref a1), .val (.ref y1), .val (.ref b1), .val (.int sz)] [(.ref b1)])) (fun t k => XS.aloadN X0.here hx rfl (hb hby own_d20_11) rfl rfl k) ?_
  refine own_adv (B := s₁.setTop (mkF m 13 #[.val (.ref a1), .val (.ref y1), .val (.ref b1), .val (.int sz)] [(.int sz), (.ref b1)])) (fun t k => XS.iloadN X0.here hx rfl (hb hby own_d20_12) rfl k) ?_
  refine own_adv (B := s₁.setTop (mkF m 14 #[.val (.ref a1), .val (.ref y1), .val (.ref b1), .val (.int sz)] [(.ref y1), (.int sz), (.ref b1)])) (fun t k => XS.aloadN X0.here hx rfl (hb hby own_d20_13) rfl rfl k) ?_
  obtain ⟨T11, L11, X11, N11, K11, V11', st11⟩ := own_st X0 hx hZ e0 VB' (Sto.ofV Arb qb OB (Ins.of_exa Ey (hw _ (List.mem_of_getElem? (i := 161) rfl)))) rfl ⟨hs0, hs1⟩ vs.length hsz (by simp) N0 gb (g := (mkF m 14 #[.val (.ref a1), .val (.ref y1), .val (.ref b1), .val (.int sz)] [(.ref y1), (.int sz), (.ref b1)])) rfl rfl (hb hby own_d20_14)
  have E_a1_11 : Exa Z T11.heap a1 "java/util/ArrayList" := Exa.keep E1 K11
  have F_modCount_a1_11 : Fld Z T11.heap a1 "java/util/AbstractList" "modCount" "I" (.int mc) := Fld.keep FM K11 (ninS nab nin0)
  have F_size_a1_11 : Fld Z T11.heap a1 "java/util/ArrayList" "size" "I" (.int sz) := Fld.keep FS K11 (ninS nab nin0)
  have F_elementData_a1_11 : Fld Z T11.heap a1 "java/util/ArrayList" "elementData" "[Ljava/lang/Object;" (.ref b1) := Fld.keep FE K11 (ninS nab nin0)
  have E_b1_11 : Exa Z T11.heap b1 "[Ljava/lang/Object;" := Exa.keep EB K11
  have E_y1_11 : Exa Z T11.heap y1 "java/lang/Integer" := Exa.keep Ey K11
  have EV_11 : ∀ v ∈ vs, own_El Z T11.heap v := fun v hv => own_El_keep (EV v hv) K11
  have KK11 : Keep h0 T11.heap [a1, b1] := KK0.trans K11 (allS (Or.inl (List.mem_of_getElem? (i := 1) rfl)) all0)
  have V11 : Arv Z T11.heap b1 k1 (.object "java/lang/Object") (10 : Int32) (vs ++ [(.ref y1)]) .null := own_set  V11'
  refine own_adv (B := T11.setTop (mkF m 15 #[.val (.ref a1), .val (.ref y1), .val (.ref b1), .val (.int sz)] [])) st11 ?_
  refine own_adv (B := T11.setTop (mkF m 16 #[.val (.ref a1), .val (.ref y1), .val (.ref b1), .val (.int sz)] [(.ref a1)])) (fun t k => XS.aloadN X11.here hx rfl (hb hby own_d20_15) rfl rfl k) ?_
  refine own_adv (B := T11.setTop (mkF m 17 #[.val (.ref a1), .val (.ref y1), .val (.ref b1), .val (.int sz)] [(.int sz), (.ref a1)])) (fun t k => XS.iloadN X11.here hx rfl (hb hby own_d20_16) rfl k) ?_
  refine own_adv (B := T11.setTop (mkF m 18 #[.val (.ref a1), .val (.ref y1), .val (.ref b1), .val (.int sz)] [(.int (1 : Int32)), (.int sz), (.ref a1)])) (fun t k => XS.iconst X11.here hx rfl (hb hby own_d20_17) k) ?_
  refine own_adv (B := T11.setTop (mkF m 19 #[.val (.ref a1), .val (.ref y1), .val (.ref b1), .val (.int sz)] [(.int (sz + (1 : Int32))), (.ref a1)])) (fun t k => XS.iadd X11.here hx rfl (hb hby own_d20_18) rfl k) ?_
  obtain ⟨T12, h12, X12, e12, W12, st12⟩ := putF X11 hx hZ hown (host := "") (Or.inl (hw _ (List.mem_of_getElem? (i := 71) rfl))) Via.refl rfl F_size_a1_11 E_a1_11 (Or.inl (hw _ (List.mem_of_getElem? (i := 72) rfl))) (hw _ (List.mem_of_getElem? (i := 2) rfl)) (ty := .int) (by decide) rfl rfl (g := (mkF m 19 #[.val (.ref a1), .val (.ref y1), .val (.ref b1), .val (.int sz)] [(.int (sz + (1 : Int32))), (.ref a1)])) rfl rfl (hb hby own_d20_19)
  subst e12
  have N12 := Fr.snoc X12 N11 g1
  have E_a1_12 : Exa Z T12.heap a1 "java/util/ArrayList" := Exa.keep E_a1_11 (Keep.of_wr W12)
  have F_modCount_a1_12 : Fld Z T12.heap a1 "java/util/AbstractList" "modCount" "I" (.int mc) := Fld.other W12 F_modCount_a1_11 (Or.inr (slot_ne (Or.inl (hw _ (List.mem_of_getElem? (i := 23) rfl))) (Or.inl (hw _ (List.mem_of_getElem? (i := 72) rfl))) (by decide) (t := .int) (t' := .int) (by decide) (by decide)))
  have F_size_a1_12 : Fld Z T12.heap a1 "java/util/ArrayList" "size" "I" (.int (sz + (1 : Int32))) := Fld.same W12 F_size_a1_11
  have F_elementData_a1_12 : Fld Z T12.heap a1 "java/util/ArrayList" "elementData" "[Ljava/lang/Object;" (.ref b1) := Fld.other W12 F_elementData_a1_11 (Or.inr (slot_ne (Or.inl (hw _ (List.mem_of_getElem? (i := 26) rfl))) (Or.inl (hw _ (List.mem_of_getElem? (i := 72) rfl))) (by decide) (t := (.array (.object "java/lang/Object"))) (t' := .int) (by decide) (by decide)))
  have E_b1_12 : Exa Z T12.heap b1 "[Ljava/lang/Object;" := Exa.keep E_b1_11 (Keep.of_wr W12)
  have E_y1_12 : Exa Z T12.heap y1 "java/lang/Integer" := Exa.keep E_y1_11 (Keep.of_wr W12)
  have EV_12 : ∀ v ∈ vs, own_El Z T12.heap v := fun v hv => own_El_keep (EV_11 v hv) (Keep.of_wr W12)
  have V_b1_12 : Arv Z T12.heap b1 k1 (.object "java/lang/Object") (10 : Int32) (vs ++ [(.ref y1)]) .null := Arv.keep V11 (Keep.of_wr W12) (ninS (Ne.symm nab) nin0)
  have KK12 : Keep h0 T12.heap [a1, b1] := KK11.wr W12 (Or.inl (List.mem_of_getElem? (i := 0) rfl))
  refine own_adv (B := T12.setTop (mkF m 22 #[.val (.ref a1), .val (.ref y1), .val (.ref b1), .val (.int sz)] [])) st12 ?_
  obtain ⟨fs, hr, hrun, hended, hW, hsame⟩ := X12.leave (v := none) (fun _ => rfl)
  refine ⟨_, _, X12.returnOut hx Bd.returns (hb hby own_d20_22) hr, hrun, hended, _, _, rfl, ?_, ⟨_, rfl⟩, hW, hsame.mono (by decide) (by decide)⟩
  exact ⟨rfl, N12, KK12, E_a1_12, ⟨_, F_modCount_a1_12⟩, F_size_a1_12, F_elementData_a1_12, V_b1_12, E_b1_12, (fun v hv => (List.mem_append.mp hv).elim (EV_12 v) fun q => by cases List.mem_singleton.mp q; exact Or.inr ⟨_, rfl, E_y1_12⟩), by rw [hi.1, hsz]; simp, hi.2.1, hi.2.2.1⟩
def own_QrmA3N0 (Z : State) (a1 b1 : Addr) (k1 : ClassId) (mc sz : Int32) (vs : List Value) (h0 : Heap) (n0 : Nat) (v : Option Value) (h : Heap) (L : List Loc) : Prop := v = none ∧ Fr n0 L ∧ Keep h0 h [a1, b1] ∧ own_LS Z h a1 b1 k1 (10 : Int32) (sz + 1) (vs ++ [.null])
set_option maxRecDepth 65536 in
set_option maxHeartbeats 40000000 in
theorem rmA3N0 (l : Launch) (Z : State) (a0 : Array Value) (hw : ∀ d ∈ tables_1, d.before a0 Z = true) (ws : List Jvm.Cond) (a1 b1 : Addr) (k1 : ClassId) (mc sz : Int32) (vs : List Value) (h0 : Heap) (n0 : Nat) (Z0 : n0 ≤ h0.size) (E1 : Exa Z h0 a1 "java/util/ArrayList") (FM : Fld Z h0 a1 "java/util/AbstractList" "modCount" "I" (.int mc)) (FS : Fld Z h0 a1 "java/util/ArrayList" "size" "I" (.int sz)) (FE : Fld Z h0 a1 "java/util/ArrayList" "elementData" "[Ljava/lang/Object;" (.ref b1)) (VB : Arv Z h0 b1 k1 (.object "java/lang/Object") (10 : Int32) vs .null) (EB : Exa Z h0 b1 "[Ljava/lang/Object;") (OB : Ovr Z k1 "java/lang/Object") (EV : ∀ v ∈ vs, own_El Z h0 v) (hsz : sz.toNatClampNeg = vs.length) (hs0 : ¬ sz < 0) (hs1 : sz < (10 : Int32)) (g1 : n0 ≤ a1) (gb : n0 ≤ b1) (nab : a1 ≠ b1) :
    MetFree l (⟨"java/util/ArrayList", "add", "(Ljava/lang/Object;[Ljava/lang/Object;I)V"⟩ : MethodName) (head1 (Jvm.Cond.code (⟨"java/util/ArrayList", "add", "(Ljava/lang/Object;[Ljava/lang/Object;I)V"⟩ : MethodName) jdk_38_method_24_code 4 none :: ws) ({ frames := 0, cells := 0, slots := 0, locals := 0 } : Room)) (fun a U => a = #[(.ref a1), .null, (.ref b1), (.int sz)] ∧ Z.Warmed39 U.vm ∧ U.heap = h0) (fun _ _ _ _ _ => True) (fun _ U o U' => ∃ v L, o = .returned v ∧ own_QrmA3N0 Z a1 b1 k1 mc sz vs h0 n0 v U'.heap L ∧ FrameEnd U o U' L ({ frames := 0, cells := 0, slots := 0, locals := 0 } : Room).cells ({ frames := 0, cells := 0, slots := 0, locals := 0 } : Room).slots) := by
  refine MetFree.of_bodySF (plainFor_of_name own_pn_java_util_ArrayList) hisR ?_
  intro p e s m args below meth c s₁ Bd hml0 hP hK
  obtain ⟨rfl, hZ, hh⟩ := hP
  have hx := Bd.exec
  have hby := Bd.bytes
  have hml : c.maxLocals = 4 := hml0
  have hown : s.vm.findClass "java/util/ArrayList" = some m.cls := findClass_of_methodNamed Bd.named
  have hnm := (name_of_methodNamed Bd.named Bd.method).1
  have X0 : Stand p l e ({ frames := 0, cells := 0, slots := 0, locals := 0 } : Room) s m #[(.ref a1), .null, (.ref b1), (.int sz)] below meth c s₁ [] 0 0 := Stand.of_body Bd
  have e0 : s₁.heap = h0 := by rw [← hh, Bd.state]; rfl
  have N0 := Fr.nil n0
  refine own_adv (B := s₁.setTop (mkF m 0 #[.val (.ref a1), .val .null, .val (.ref b1), .val (.int sz)] [])) (fun t k => castTop (own_ef_rmA3N0 m a1 b1 sz) k) ?_
  have KK0 : Keep h0 h0 [a1, b1] := Keep.refl h0 _
  have hi := own_inc hs0 hs1
  refine own_adv (B := s₁.setTop (mkF m 1 #[.val (.ref a1), .val .null, .val (.ref b1), .val (.int sz)] [(.int sz)])) (fun t k => XS.iloadN X0.here hx rfl (hb hby own_d20_0) rfl k) ?_
  refine own_adv (B := s₁.setTop (mkF m 2 #[.val (.ref a1), .val .null, .val (.ref b1), .val (.int sz)] [(.ref b1), (.int sz)])) (fun t k => XS.aloadN X0.here hx rfl (hb hby own_d20_1) rfl rfl k) ?_
  obtain ⟨cl10, Ar10, -, S10, Nn10, -, -⟩ := id (VB)
  refine own_adv (B := s₁.setTop (mkF m 3 #[.val (.ref a1), .val .null, .val (.ref b1), .val (.int sz)] [(.int (10 : Int32)), (.int sz)])) (fun t k => X0.arraylength hx (by rw [e0]; exact Ar10.1) (State.isArrayOf_alike hZ.alike Ar10.2.1) (g := (mkF m 2 #[.val (.ref a1), .val .null, .val (.ref b1), .val (.int sz)] [(.ref b1), (.int sz)])) rfl rfl (hb hby own_d20_2) _ (by rw [len_of S10 Nn10]; exact k)) ?_
  refine own_adv (B := s₁.setTop (mkF m 11 #[.val (.ref a1), .val .null, .val (.ref b1), .val (.int sz)] [])) (fun t k => XS.icmpYes X0.here hx rfl (pc0 := 3) (pc' := 11) rfl (hb hby own_d20_3) rfl (feq hi.2.2.2).2 (by decide) (by decide) k) ?_
  obtain ⟨clb, Arb, qb, -⟩ := id VB
  have VB' := Arv.pad (vs' := vs ++ List.replicate 1 .null) VB (pad_rep vs .null 1)
  refine own_adv (B := s₁.setTop (mkF m 12 #[.val (.ref a1), .val .null, .val (.ref b1), .val (.int sz)] [(.ref b1)])) (fun t k => XS.aloadN X0.here hx rfl (hb hby own_d20_11) rfl rfl k) ?_
  refine own_adv (B := s₁.setTop (mkF m 13 #[.val (.ref a1), .val .null, .val (.ref b1), .val (.int sz)] [(.int sz), (.ref b1)])) (fun t k => XS.iloadN X0.here hx rfl (hb hby own_d20_12) rfl k) ?_
  refine own_adv (B := s₁.setTop (mkF m 14 #[.val (.ref a1), .val .null, .val (.ref b1), .val (.int sz)] [.null, (.int sz), (.ref b1)])) (fun t k => XS.aloadN X0.here hx rfl (hb hby own_d20_13) rfl rfl k) ?_
  obtain ⟨T11, L11, X11, N11, K11, V11', st11⟩ := own_st X0 hx hZ e0 VB' (Or.inl rfl) rfl ⟨hs0, hs1⟩ vs.length hsz (by simp) N0 gb (g := (mkF m 14 #[.val (.ref a1), .val .null, .val (.ref b1), .val (.int sz)] [.null, (.int sz), (.ref b1)])) rfl rfl (hb hby own_d20_14)
  have E_a1_11 : Exa Z T11.heap a1 "java/util/ArrayList" := Exa.keep E1 K11
  have F_modCount_a1_11 : Fld Z T11.heap a1 "java/util/AbstractList" "modCount" "I" (.int mc) := Fld.keep FM K11 (ninS nab nin0)
  have F_size_a1_11 : Fld Z T11.heap a1 "java/util/ArrayList" "size" "I" (.int sz) := Fld.keep FS K11 (ninS nab nin0)
  have F_elementData_a1_11 : Fld Z T11.heap a1 "java/util/ArrayList" "elementData" "[Ljava/lang/Object;" (.ref b1) := Fld.keep FE K11 (ninS nab nin0)
  have E_b1_11 : Exa Z T11.heap b1 "[Ljava/lang/Object;" := Exa.keep EB K11
  have EV_11 : ∀ v ∈ vs, own_El Z T11.heap v := fun v hv => own_El_keep (EV v hv) K11
  have KK11 : Keep h0 T11.heap [a1, b1] := KK0.trans K11 (allS (Or.inl (List.mem_of_getElem? (i := 1) rfl)) all0)
  have V11 : Arv Z T11.heap b1 k1 (.object "java/lang/Object") (10 : Int32) (vs ++ [.null]) .null := own_set  V11'
  refine own_adv (B := T11.setTop (mkF m 15 #[.val (.ref a1), .val .null, .val (.ref b1), .val (.int sz)] [])) st11 ?_
  refine own_adv (B := T11.setTop (mkF m 16 #[.val (.ref a1), .val .null, .val (.ref b1), .val (.int sz)] [(.ref a1)])) (fun t k => XS.aloadN X11.here hx rfl (hb hby own_d20_15) rfl rfl k) ?_
  refine own_adv (B := T11.setTop (mkF m 17 #[.val (.ref a1), .val .null, .val (.ref b1), .val (.int sz)] [(.int sz), (.ref a1)])) (fun t k => XS.iloadN X11.here hx rfl (hb hby own_d20_16) rfl k) ?_
  refine own_adv (B := T11.setTop (mkF m 18 #[.val (.ref a1), .val .null, .val (.ref b1), .val (.int sz)] [(.int (1 : Int32)), (.int sz), (.ref a1)])) (fun t k => XS.iconst X11.here hx rfl (hb hby own_d20_17) k) ?_
  refine own_adv (B := T11.setTop (mkF m 19 #[.val (.ref a1), .val .null, .val (.ref b1), .val (.int sz)] [(.int (sz + (1 : Int32))), (.ref a1)])) (fun t k => XS.iadd X11.here hx rfl (hb hby own_d20_18) rfl k) ?_
  obtain ⟨T12, h12, X12, e12, W12, st12⟩ := putF X11 hx hZ hown (host := "") (Or.inl (hw _ (List.mem_of_getElem? (i := 71) rfl))) Via.refl rfl F_size_a1_11 E_a1_11 (Or.inl (hw _ (List.mem_of_getElem? (i := 72) rfl))) (hw _ (List.mem_of_getElem? (i := 2) rfl)) (ty := .int) (by decide) rfl rfl (g := (mkF m 19 #[.val (.ref a1), .val .null, .val (.ref b1), .val (.int sz)] [(.int (sz + (1 : Int32))), (.ref a1)])) rfl rfl (hb hby own_d20_19)
  subst e12
  have N12 := Fr.snoc X12 N11 g1
  have E_a1_12 : Exa Z T12.heap a1 "java/util/ArrayList" := Exa.keep E_a1_11 (Keep.of_wr W12)
  have F_modCount_a1_12 : Fld Z T12.heap a1 "java/util/AbstractList" "modCount" "I" (.int mc) := Fld.other W12 F_modCount_a1_11 (Or.inr (slot_ne (Or.inl (hw _ (List.mem_of_getElem? (i := 23) rfl))) (Or.inl (hw _ (List.mem_of_getElem? (i := 72) rfl))) (by decide) (t := .int) (t' := .int) (by decide) (by decide)))
  have F_size_a1_12 : Fld Z T12.heap a1 "java/util/ArrayList" "size" "I" (.int (sz + (1 : Int32))) := Fld.same W12 F_size_a1_11
  have F_elementData_a1_12 : Fld Z T12.heap a1 "java/util/ArrayList" "elementData" "[Ljava/lang/Object;" (.ref b1) := Fld.other W12 F_elementData_a1_11 (Or.inr (slot_ne (Or.inl (hw _ (List.mem_of_getElem? (i := 26) rfl))) (Or.inl (hw _ (List.mem_of_getElem? (i := 72) rfl))) (by decide) (t := (.array (.object "java/lang/Object"))) (t' := .int) (by decide) (by decide)))
  have E_b1_12 : Exa Z T12.heap b1 "[Ljava/lang/Object;" := Exa.keep E_b1_11 (Keep.of_wr W12)
  have EV_12 : ∀ v ∈ vs, own_El Z T12.heap v := fun v hv => own_El_keep (EV_11 v hv) (Keep.of_wr W12)
  have V_b1_12 : Arv Z T12.heap b1 k1 (.object "java/lang/Object") (10 : Int32) (vs ++ [.null]) .null := Arv.keep V11 (Keep.of_wr W12) (ninS (Ne.symm nab) nin0)
  have KK12 : Keep h0 T12.heap [a1, b1] := KK11.wr W12 (Or.inl (List.mem_of_getElem? (i := 0) rfl))
  refine own_adv (B := T12.setTop (mkF m 22 #[.val (.ref a1), .val .null, .val (.ref b1), .val (.int sz)] [])) st12 ?_
  obtain ⟨fs, hr, hrun, hended, hW, hsame⟩ := X12.leave (v := none) (fun _ => rfl)
  refine ⟨_, _, X12.returnOut hx Bd.returns (hb hby own_d20_22) hr, hrun, hended, _, _, rfl, ?_, ⟨_, rfl⟩, hW, hsame.mono (by decide) (by decide)⟩
  exact ⟨rfl, N12, KK12, E_a1_12, ⟨_, F_modCount_a1_12⟩, F_size_a1_12, F_elementData_a1_12, V_b1_12, E_b1_12, (fun v hv => (List.mem_append.mp hv).elim (EV_12 v) fun q => by cases List.mem_singleton.mp q; exact Or.inl rfl), by rw [hi.1, hsz]; simp, hi.2.1, hi.2.2.1⟩
def own_QrmAF (Z : State) (a1 y1 wD : Addr) (kD : ClassId) (h0 : Heap) (n0 : Nat) (v : Option Value) (h : Heap) (L : List Loc) : Prop := ∃ b k, v = some (.int 1) ∧ Fr n0 L ∧ Keep h0 h [a1] ∧ h0.size ≤ b ∧ own_LS Z h a1 b k (10 : Int32) (1 : Int32) [.ref y1] ∧ Ovr Z k "java/lang/Object"
set_option maxRecDepth 65536 in
set_option maxHeartbeats 40000000 in
theorem rmAF (l : Launch) (Z : State) (a0 : Array Value) (hw : ∀ d ∈ tables_1, d.before a0 Z = true) (ws : List Jvm.Cond) (a1 y1 wD : Addr) (kD : ClassId) (h0 : Heap) (n0 : Nat) (Z0 : n0 ≤ h0.size) (OL : Old Z n0 h0) (S_D : Sta Z Z.heap "java/util/ArrayList" "DEFAULTCAPACITY_EMPTY_ELEMENTDATA" "[Ljava/lang/Object;" (.ref wD)) (VD : Arv Z Z.heap wD kD (.object "java/lang/Object") (0 : Int32) [] .null) (LS : own_LS Z h0 a1 wD kD (0 : Int32) (0 : Int32) []) (g1 : n0 ≤ a1) (Ey : Exa Z h0 y1 "java/lang/Integer") :
    MetFree l (⟨"java/util/ArrayList", "add", "(Ljava/lang/Object;)Z"⟩ : MethodName) (head1 (Jvm.Cond.code (⟨"java/util/ArrayList", "add", "(Ljava/lang/Object;)Z"⟩ : MethodName) jdk_38_method_25_code 2 (some .boolean) :: ws) ({ frames := 4, cells := 1, slots := 10, locals := 56 } : Room)) (fun a U => a = #[(.ref a1), (.ref y1)] ∧ Z.Warmed39 U.vm ∧ U.heap = h0) (fun _ _ _ _ _ => True) (fun _ U o U' => ∃ v L, o = .returned v ∧ own_QrmAF Z a1 y1 wD kD h0 n0 v U'.heap L ∧ FrameEnd U o U' L ({ frames := 4, cells := 1, slots := 10, locals := 56 } : Room).cells ({ frames := 4, cells := 1, slots := 10, locals := 56 } : Room).slots) := by
  refine MetFree.of_bodySF (plainFor_of_name own_pn_java_util_ArrayList) hisR ?_
  intro p e s m args below meth c s₁ Bd hml0 hP hK
  obtain ⟨rfl, hZ, hh⟩ := hP
  have hx := Bd.exec
  have hby := Bd.bytes
  have hml : c.maxLocals = 2 := hml0
  have hown : s.vm.findClass "java/util/ArrayList" = some m.cls := findClass_of_methodNamed Bd.named
  have hnm := (name_of_methodNamed Bd.named Bd.method).1
  have X0 : Stand p l e ({ frames := 4, cells := 1, slots := 10, locals := 56 } : Room) s m #[(.ref a1), (.ref y1)] below meth c s₁ [] 0 0 := Stand.of_body Bd
  have e0 : s₁.heap = h0 := by rw [← hh, Bd.state]; rfl
  have N0 := Fr.nil n0
  refine own_adv (B := s₁.setTop (mkF m 0 #[.val (.ref a1), .val (.ref y1)] [])) (fun t k => castTop (own_ef_rmAF m a1 y1) k) ?_
  have KK0 : Keep h0 h0 [a1] := Keep.refl h0 _
  obtain ⟨E1, ⟨mc, FM⟩, FS, FE, -, -, -, -⟩ := LS
  refine own_adv (B := s₁.setTop (mkF m 1 #[.val (.ref a1), .val (.ref y1)] [(.ref a1)])) (fun t k => XS.aloadN X0.here hx rfl (hb hby own_d19_0) rfl rfl k) ?_
  refine own_adv (B := s₁.setTop (mkF m 2 #[.val (.ref a1), .val (.ref y1)] [(.ref a1), (.ref a1)])) (fun t k => XS.dup X0.here hx rfl (hb hby own_d19_1) rfl rfl k) ?_
  obtain ⟨T10, X10, e10, st10⟩ := getF X0 hx hZ hown (host := "") (Or.inl (hw _ (List.mem_of_getElem? (i := 140) rfl))) (Via.of (hw _ (List.mem_of_getElem? (i := 141) rfl))) e0 FM (g := (mkF m 2 #[.val (.ref a1), .val (.ref y1)] [(.ref a1), (.ref a1)])) rfl rfl (hb hby own_d19_2)
  refine own_adv (B := T10.setTop (mkF m 5 #[.val (.ref a1), .val (.ref y1)] [(.int mc), (.ref a1)])) st10 ?_
  refine own_adv (B := T10.setTop (mkF m 6 #[.val (.ref a1), .val (.ref y1)] [(.int (1 : Int32)), (.int mc), (.ref a1)])) (fun t k => XS.iconst X10.here hx rfl (hb hby own_d19_5) k) ?_
  refine own_adv (B := T10.setTop (mkF m 7 #[.val (.ref a1), .val (.ref y1)] [(.int (mc + (1 : Int32))), (.ref a1)])) (fun t k => XS.iadd X10.here hx rfl (hb hby own_d19_6) rfl k) ?_
  obtain ⟨T11, h11, X11, e11, W11, st11⟩ := putF X10 hx hZ hown (host := "") (Or.inl (hw _ (List.mem_of_getElem? (i := 140) rfl))) (Via.of (hw _ (List.mem_of_getElem? (i := 141) rfl))) e10 FM E1 (Or.inl (hw _ (List.mem_of_getElem? (i := 23) rfl))) (hw _ (List.mem_of_getElem? (i := 2) rfl)) (ty := .int) (by decide) rfl rfl (g := (mkF m 7 #[.val (.ref a1), .val (.ref y1)] [(.int (mc + (1 : Int32))), (.ref a1)])) rfl rfl (hb hby own_d19_7)
  subst e11
  have N11 := Fr.snoc X11 N0 g1
  have E_a1_11 : Exa Z T11.heap a1 "java/util/ArrayList" := Exa.keep E1 (Keep.of_wr W11)
  have F_modCount_a1_11 : Fld Z T11.heap a1 "java/util/AbstractList" "modCount" "I" (.int (mc + (1 : Int32))) := Fld.same W11 FM
  have F_size_a1_11 : Fld Z T11.heap a1 "java/util/ArrayList" "size" "I" (.int (0 : Int32)) := Fld.other W11 FS (Or.inr (slot_ne (Or.inl (hw _ (List.mem_of_getElem? (i := 72) rfl))) (Or.inl (hw _ (List.mem_of_getElem? (i := 23) rfl))) (by decide) (t := .int) (t' := .int) (by decide) (by decide)))
  have F_elementData_a1_11 : Fld Z T11.heap a1 "java/util/ArrayList" "elementData" "[Ljava/lang/Object;" (.ref wD) := Fld.other W11 FE (Or.inr (slot_ne (Or.inl (hw _ (List.mem_of_getElem? (i := 26) rfl))) (Or.inl (hw _ (List.mem_of_getElem? (i := 23) rfl))) (by decide) (t := (.array (.object "java/lang/Object"))) (t' := .int) (by decide) (by decide)))
  have OL_11 : Old Z n0 T11.heap := Old.keep OL (Keep.of_wr W11) (allS g1 all0)
  have E_y1_11 : Exa Z T11.heap y1 "java/lang/Integer" := Exa.keep Ey (Keep.of_wr W11)
  have KK11 : Keep h0 T11.heap [a1] := KK0.wr W11 (Or.inl (List.mem_of_getElem? (i := 0) rfl))
  refine own_adv (B := T11.setTop (mkF m 10 #[.val (.ref a1), .val (.ref y1)] [])) st11 ?_
  refine own_adv (B := T11.setTop (mkF m 11 #[.val (.ref a1), .val (.ref y1)] [(.ref a1)])) (fun t k => XS.aloadN X11.here hx rfl (hb hby own_d19_10) rfl rfl k) ?_
  refine own_adv (B := T11.setTop (mkF m 12 #[.val (.ref a1), .val (.ref y1)] [(.ref y1), (.ref a1)])) (fun t k => XS.aloadN X11.here hx rfl (hb hby own_d19_11) rfl rfl k) ?_
  refine own_adv (B := T11.setTop (mkF m 13 #[.val (.ref a1), .val (.ref y1)] [(.ref a1), (.ref y1), (.ref a1)])) (fun t k => XS.aloadN X11.here hx rfl (hb hby own_d19_12) rfl rfl k) ?_
  obtain ⟨T12, X12, e12, st12⟩ := getF X11 hx hZ hown (host := "") (Or.inl (hw _ (List.mem_of_getElem? (i := 25) rfl))) Via.refl rfl F_elementData_a1_11 (g := (mkF m 13 #[.val (.ref a1), .val (.ref y1)] [(.ref a1), (.ref y1), (.ref a1)])) rfl rfl (hb hby own_d19_13)
  refine own_adv (B := T12.setTop (mkF m 16 #[.val (.ref a1), .val (.ref y1)] [(.ref wD), (.ref y1), (.ref a1)])) st12 ?_
  refine own_adv (B := T12.setTop (mkF m 17 #[.val (.ref a1), .val (.ref y1)] [(.ref a1), (.ref wD), (.ref y1), (.ref a1)])) (fun t k => XS.aloadN X12.here hx rfl (hb hby own_d19_16) rfl rfl k) ?_
  obtain ⟨T13, X13, e13, st13⟩ := getF X12 hx hZ hown (host := "") (Or.inl (hw _ (List.mem_of_getElem? (i := 71) rfl))) Via.refl e12 F_size_a1_11 (g := (mkF m 17 #[.val (.ref a1), .val (.ref y1)] [(.ref a1), (.ref wD), (.ref y1), (.ref a1)])) rfl rfl (hb hby own_d19_17)
  refine own_adv (B := T13.setTop (mkF m 20 #[.val (.ref a1), .val (.ref y1)] [(.int (0 : Int32)), (.ref wD), (.ref y1), (.ref a1)])) st13 ?_
  obtain ⟨cq14, q14, q14'⟩ := Exa.cell E_a1_11
  obtain ⟨_, _, ⟨T14, L14, k14, n14⟩, -, X14, ⟨Lc14, hQ14, l14, y14, z14⟩, st14⟩ := X13.privateBack hx (y := (⟨"java/util/ArrayList", "add", "(Ljava/lang/Object;[Ljava/lang/Object;I)V"⟩ : MethodName)) hown (mvT hZ (hw _ (List.mem_of_getElem? (i := 142) rfl))) (mvT hZ (hw _ (List.mem_of_getElem? (i := 143) rfl))) (mvT hZ (hw _ (List.mem_of_getElem? (i := 145) rfl))) (Cond.privateMethod_at (mvP hZ (hw _ (List.mem_of_getElem? (i := 144) rfl)) (args := #[]))) (mvT hZ (hw _ (List.mem_of_getElem? (i := 146) rfl))) (by decide) (backOf (W := 0) (rmA3F l Z a0 hw [] a1 y1 wD kD (mc + (1 : Int32)) T11.heap n0 (Nat.le_trans Z0 KK11.1) OL_11 S_D VD E_a1_11 F_modCount_a1_11 F_size_a1_11 F_elementData_a1_11 g1 E_y1_11) hZ (hw _ (List.mem_of_getElem? (i := 146) rfl)) (hw _ (List.mem_of_getElem? (i := 3) rfl)) (by decide) (by decide)) (g := (mkF m 20 #[.val (.ref a1), .val (.ref y1)] [(.int (0 : Int32)), (.ref wD), (.ref y1), (.ref a1)])) rfl (by rw [hml]; rfl) (Steps.refl _) (a := a1) (by rw [e13]; exact q14) q14' (argsL := [(.ref y1), (.ref wD), (.int (0 : Int32))]) (rest := []) (lenOf own_pd__Ljava_lang_Object__Ljava_lang_Object_I_V rfl) rfl (by show 2 * 0 + _ ≤ _; exact Nat.le_of_eq rfl) (hb hby own_d19_20) (fun _ _ => ⟨rfl, e13, (by decide : 0 + 1 ≤ _), (by decide : 0 + 10 ≤ _)⟩)
  dsimp only [Pt.U, Pt.locs, Pt.cells, Pt.slots] at X14 l14 y14 z14 st14 hQ14
  subst l14 y14 z14
  obtain ⟨b14, kb14, rfl, N14q, K14, hb14, LS14, O14⟩ := hQ14
  have N14 := Fr.app N11 N14q
  have ne_a1_b14 : a1 ≠ b14 := Nat.ne_of_lt (Nat.lt_of_lt_of_le E_a1_11.lt hb14)
  have ne_y1_b14 : y1 ≠ b14 := Nat.ne_of_lt (Nat.lt_of_lt_of_le E_y1_11.lt hb14)
  have sz_b14 : h0.size ≤ b14 := Nat.le_trans KK11.1 hb14
  have g_b14 : n0 ≤ b14 := Nat.le_trans Z0 sz_b14
  have E_a1_14 : Exa Z T14.heap a1 "java/util/ArrayList" := Exa.keep E_a1_11 K14
  have OL_14 : Old Z n0 T14.heap := Old.keep OL_11 K14 (allS g1 all0)
  have E_y1_14 : Exa Z T14.heap y1 "java/lang/Integer" := Exa.keep E_y1_11 K14
  have KK14 : Keep h0 T14.heap [a1] := KK11.trans K14 (allS (Or.inl (List.mem_of_getElem? (i := 0) rfl)) all0)
  refine own_adv (B := T14.setTop (mkF m 23 #[.val (.ref a1), .val (.ref y1)] [])) (fun t k => st14.trans k) ?_
  refine own_adv (B := T14.setTop (mkF m 24 #[.val (.ref a1), .val (.ref y1)] [(.int (1 : Int32))])) (fun t k => XS.iconst X14.here hx rfl (hb hby own_d19_23) k) ?_
  obtain ⟨fs, hr, hrun, hended, hW, hsame⟩ := X14.leave (v := some (.int (1 : Int32))) (fun h => by rw [Bd.returns] at h; cases h)
  refine ⟨_, _, retN X14 hx (t := .boolean) Bd.returns (by simp) (hb hby own_d19_24) hr, hrun, hended, _, _, rfl, ?_, ⟨_, rfl⟩, hW, hsame.mono (by decide) (by decide)⟩
  exact ⟨_, _, rfl, N14, KK14, sz_b14, LS14, O14⟩
def own_QrmAN (Z : State) (a1 y1 b1 : Addr) (k1 : ClassId) (sz : Int32) (vs : List Value) (h0 : Heap) (n0 : Nat) (v : Option Value) (h : Heap) (L : List Loc) : Prop := v = some (.int 1) ∧ Fr n0 L ∧ Keep h0 h [a1, b1] ∧ own_LS Z h a1 b1 k1 (10 : Int32) (sz + 1) (vs ++ [(.ref y1)])
set_option maxRecDepth 65536 in
set_option maxHeartbeats 40000000 in
theorem rmAN (l : Launch) (Z : State) (a0 : Array Value) (hw : ∀ d ∈ tables_1, d.before a0 Z = true) (ws : List Jvm.Cond) (a1 y1 b1 : Addr) (k1 : ClassId) (sz : Int32) (vs : List Value) (h0 : Heap) (n0 : Nat) (Z0 : n0 ≤ h0.size) (LS : own_LS Z h0 a1 b1 k1 (10 : Int32) sz vs) (OB : Ovr Z k1 "java/lang/Object") (hs1 : sz < (10 : Int32)) (g1 : n0 ≤ a1) (gb : n0 ≤ b1) (nab : a1 ≠ b1) (Ey : Exa Z h0 y1 "java/lang/Integer") :
    MetFree l (⟨"java/util/ArrayList", "add", "(Ljava/lang/Object;)Z"⟩ : MethodName) (head1 (Jvm.Cond.code (⟨"java/util/ArrayList", "add", "(Ljava/lang/Object;)Z"⟩ : MethodName) jdk_38_method_25_code 2 (some .boolean) :: ws) ({ frames := 1, cells := 0, slots := 0, locals := 15 } : Room)) (fun a U => a = #[(.ref a1), (.ref y1)] ∧ Z.Warmed39 U.vm ∧ U.heap = h0) (fun _ _ _ _ _ => True) (fun _ U o U' => ∃ v L, o = .returned v ∧ own_QrmAN Z a1 y1 b1 k1 sz vs h0 n0 v U'.heap L ∧ FrameEnd U o U' L ({ frames := 1, cells := 0, slots := 0, locals := 15 } : Room).cells ({ frames := 1, cells := 0, slots := 0, locals := 15 } : Room).slots) := by
  refine MetFree.of_bodySF (plainFor_of_name own_pn_java_util_ArrayList) hisR ?_
  intro p e s m args below meth c s₁ Bd hml0 hP hK
  obtain ⟨rfl, hZ, hh⟩ := hP
  have hx := Bd.exec
  have hby := Bd.bytes
  have hml : c.maxLocals = 2 := hml0
  have hown : s.vm.findClass "java/util/ArrayList" = some m.cls := findClass_of_methodNamed Bd.named
  have hnm := (name_of_methodNamed Bd.named Bd.method).1
  have X0 : Stand p l e ({ frames := 1, cells := 0, slots := 0, locals := 15 } : Room) s m #[(.ref a1), (.ref y1)] below meth c s₁ [] 0 0 := Stand.of_body Bd
  have e0 : s₁.heap = h0 := by rw [← hh, Bd.state]; rfl
  have N0 := Fr.nil n0
  refine own_adv (B := s₁.setTop (mkF m 0 #[.val (.ref a1), .val (.ref y1)] [])) (fun t k => castTop (own_ef_rmAN m a1 y1) k) ?_
  have KK0 : Keep h0 h0 [a1, b1] := Keep.refl h0 _
  obtain ⟨E1, ⟨mc, FM⟩, FS, FE, VB, EB, EV, hsz, hs0, -⟩ := LS
  refine own_adv (B := s₁.setTop (mkF m 1 #[.val (.ref a1), .val (.ref y1)] [(.ref a1)])) (fun t k => XS.aloadN X0.here hx rfl (hb hby own_d19_0) rfl rfl k) ?_
  refine own_adv (B := s₁.setTop (mkF m 2 #[.val (.ref a1), .val (.ref y1)] [(.ref a1), (.ref a1)])) (fun t k => XS.dup X0.here hx rfl (hb hby own_d19_1) rfl rfl k) ?_
  obtain ⟨T10, X10, e10, st10⟩ := getF X0 hx hZ hown (host := "") (Or.inl (hw _ (List.mem_of_getElem? (i := 140) rfl))) (Via.of (hw _ (List.mem_of_getElem? (i := 141) rfl))) e0 FM (g := (mkF m 2 #[.val (.ref a1), .val (.ref y1)] [(.ref a1), (.ref a1)])) rfl rfl (hb hby own_d19_2)
  refine own_adv (B := T10.setTop (mkF m 5 #[.val (.ref a1), .val (.ref y1)] [(.int mc), (.ref a1)])) st10 ?_
  refine own_adv (B := T10.setTop (mkF m 6 #[.val (.ref a1), .val (.ref y1)] [(.int (1 : Int32)), (.int mc), (.ref a1)])) (fun t k => XS.iconst X10.here hx rfl (hb hby own_d19_5) k) ?_
  refine own_adv (B := T10.setTop (mkF m 7 #[.val (.ref a1), .val (.ref y1)] [(.int (mc + (1 : Int32))), (.ref a1)])) (fun t k => XS.iadd X10.here hx rfl (hb hby own_d19_6) rfl k) ?_
  obtain ⟨T11, h11, X11, e11, W11, st11⟩ := putF X10 hx hZ hown (host := "") (Or.inl (hw _ (List.mem_of_getElem? (i := 140) rfl))) (Via.of (hw _ (List.mem_of_getElem? (i := 141) rfl))) e10 FM E1 (Or.inl (hw _ (List.mem_of_getElem? (i := 23) rfl))) (hw _ (List.mem_of_getElem? (i := 2) rfl)) (ty := .int) (by decide) rfl rfl (g := (mkF m 7 #[.val (.ref a1), .val (.ref y1)] [(.int (mc + (1 : Int32))), (.ref a1)])) rfl rfl (hb hby own_d19_7)
  subst e11
  have N11 := Fr.snoc X11 N0 g1
  have E_a1_11 : Exa Z T11.heap a1 "java/util/ArrayList" := Exa.keep E1 (Keep.of_wr W11)
  have F_modCount_a1_11 : Fld Z T11.heap a1 "java/util/AbstractList" "modCount" "I" (.int (mc + (1 : Int32))) := Fld.same W11 FM
  have F_size_a1_11 : Fld Z T11.heap a1 "java/util/ArrayList" "size" "I" (.int sz) := Fld.other W11 FS (Or.inr (slot_ne (Or.inl (hw _ (List.mem_of_getElem? (i := 72) rfl))) (Or.inl (hw _ (List.mem_of_getElem? (i := 23) rfl))) (by decide) (t := .int) (t' := .int) (by decide) (by decide)))
  have F_elementData_a1_11 : Fld Z T11.heap a1 "java/util/ArrayList" "elementData" "[Ljava/lang/Object;" (.ref b1) := Fld.other W11 FE (Or.inr (slot_ne (Or.inl (hw _ (List.mem_of_getElem? (i := 26) rfl))) (Or.inl (hw _ (List.mem_of_getElem? (i := 23) rfl))) (by decide) (t := (.array (.object "java/lang/Object"))) (t' := .int) (by decide) (by decide)))
  have E_b1_11 : Exa Z T11.heap b1 "[Ljava/lang/Object;" := Exa.keep EB (Keep.of_wr W11)
  have V_b1_11 : Arv Z T11.heap b1 k1 (.object "java/lang/Object") (10 : Int32) vs .null := Arv.keep VB (Keep.of_wr W11) (ninS (Ne.symm nab) nin0)
  have E_y1_11 : Exa Z T11.heap y1 "java/lang/Integer" := Exa.keep Ey (Keep.of_wr W11)
  have EV_11 : ∀ v ∈ vs, own_El Z T11.heap v := fun v hv => own_El_keep (EV v hv) (Keep.of_wr W11)
  have KK11 : Keep h0 T11.heap [a1, b1] := KK0.wr W11 (Or.inl (List.mem_of_getElem? (i := 0) rfl))
  refine own_adv (B := T11.setTop (mkF m 10 #[.val (.ref a1), .val (.ref y1)] [])) st11 ?_
  refine own_adv (B := T11.setTop (mkF m 11 #[.val (.ref a1), .val (.ref y1)] [(.ref a1)])) (fun t k => XS.aloadN X11.here hx rfl (hb hby own_d19_10) rfl rfl k) ?_
  refine own_adv (B := T11.setTop (mkF m 12 #[.val (.ref a1), .val (.ref y1)] [(.ref y1), (.ref a1)])) (fun t k => XS.aloadN X11.here hx rfl (hb hby own_d19_11) rfl rfl k) ?_
  refine own_adv (B := T11.setTop (mkF m 13 #[.val (.ref a1), .val (.ref y1)] [(.ref a1), (.ref y1), (.ref a1)])) (fun t k => XS.aloadN X11.here hx rfl (hb hby own_d19_12) rfl rfl k) ?_
  obtain ⟨T12, X12, e12, st12⟩ := getF X11 hx hZ hown (host := "") (Or.inl (hw _ (List.mem_of_getElem? (i := 25) rfl))) Via.refl rfl F_elementData_a1_11 (g := (mkF m 13 #[.val (.ref a1), .val (.ref y1)] [(.ref a1), (.ref y1), (.ref a1)])) rfl rfl (hb hby own_d19_13)
  refine own_adv (B := T12.setTop (mkF m 16 #[.val (.ref a1), .val (.ref y1)] [(.ref b1), (.ref y1), (.ref a1)])) st12 ?_
  refine own_adv (B := T12.setTop (mkF m 17 #[.val (.ref a1), .val (.ref y1)] [(.ref a1), (.ref b1), (.ref y1), (.ref a1)])) (fun t k => XS.aloadN X12.here hx rfl (hb hby own_d19_16) rfl rfl k) ?_
  obtain ⟨T13, X13, e13, st13⟩ := getF X12 hx hZ hown (host := "") (Or.inl (hw _ (List.mem_of_getElem? (i := 71) rfl))) Via.refl e12 F_size_a1_11 (g := (mkF m 17 #[.val (.ref a1), .val (.ref y1)] [(.ref a1), (.ref b1), (.ref y1), (.ref a1)])) rfl rfl (hb hby own_d19_17)
  refine own_adv (B := T13.setTop (mkF m 20 #[.val (.ref a1), .val (.ref y1)] [(.int sz), (.ref b1), (.ref y1), (.ref a1)])) st13 ?_
  obtain ⟨cq14, q14, q14'⟩ := Exa.cell E_a1_11
  obtain ⟨_, _, ⟨T14, L14, k14, n14⟩, -, X14, ⟨Lc14, hQ14, l14, y14, z14⟩, st14⟩ := X13.privateBack hx (y := (⟨"java/util/ArrayList", "add", "(Ljava/lang/Object;[Ljava/lang/Object;I)V"⟩ : MethodName)) hown (mvT hZ (hw _ (List.mem_of_getElem? (i := 142) rfl))) (mvT hZ (hw _ (List.mem_of_getElem? (i := 143) rfl))) (mvT hZ (hw _ (List.mem_of_getElem? (i := 145) rfl))) (Cond.privateMethod_at (mvP hZ (hw _ (List.mem_of_getElem? (i := 144) rfl)) (args := #[]))) (mvT hZ (hw _ (List.mem_of_getElem? (i := 146) rfl))) (by decide) (backOf (W := 0) (rmA3N l Z a0 hw [] a1 y1 b1 k1 (mc + (1 : Int32)) sz vs T11.heap n0 (Nat.le_trans Z0 KK11.1) E_a1_11 F_modCount_a1_11 F_size_a1_11 F_elementData_a1_11 V_b1_11 E_b1_11 OB EV_11 hsz hs0 hs1 g1 gb nab E_y1_11) hZ (hw _ (List.mem_of_getElem? (i := 146) rfl)) (hw _ (List.mem_of_getElem? (i := 3) rfl)) (by decide) (by decide)) (g := (mkF m 20 #[.val (.ref a1), .val (.ref y1)] [(.int sz), (.ref b1), (.ref y1), (.ref a1)])) rfl (by rw [hml]; rfl) (Steps.refl _) (a := a1) (by rw [e13]; exact q14) q14' (argsL := [(.ref y1), (.ref b1), (.int sz)]) (rest := []) (lenOf own_pd__Ljava_lang_Object__Ljava_lang_Object_I_V rfl) rfl (by show 2 * 0 + _ ≤ _; exact Nat.le_of_eq rfl) (hb hby own_d19_20) (fun _ _ => ⟨rfl, e13, (by decide : 0 + 0 ≤ _), (by decide : 0 + 0 ≤ _)⟩)
  dsimp only [Pt.U, Pt.locs, Pt.cells, Pt.slots] at X14 l14 y14 z14 st14 hQ14
  subst l14 y14 z14
  obtain ⟨rfl, N14q, K14, LS14⟩ := hQ14
  have N14 := Fr.app N11 N14q
  have E_a1_14 : Exa Z T14.heap a1 "java/util/ArrayList" := Exa.keep E_a1_11 K14
  have E_b1_14 : Exa Z T14.heap b1 "[Ljava/lang/Object;" := Exa.keep E_b1_11 K14
  have E_y1_14 : Exa Z T14.heap y1 "java/lang/Integer" := Exa.keep E_y1_11 K14
  have EV_14 : ∀ v ∈ vs, own_El Z T14.heap v := fun v hv => own_El_keep (EV_11 v hv) K14
  have KK14 : Keep h0 T14.heap [a1, b1] := KK11.trans K14 (allS (Or.inl (List.mem_of_getElem? (i := 0) rfl)) (allS (Or.inl (List.mem_of_getElem? (i := 1) rfl)) all0))
  refine own_adv (B := T14.setTop (mkF m 23 #[.val (.ref a1), .val (.ref y1)] [])) (fun t k => st14.trans k) ?_
  refine own_adv (B := T14.setTop (mkF m 24 #[.val (.ref a1), .val (.ref y1)] [(.int (1 : Int32))])) (fun t k => XS.iconst X14.here hx rfl (hb hby own_d19_23) k) ?_
  obtain ⟨fs, hr, hrun, hended, hW, hsame⟩ := X14.leave (v := some (.int (1 : Int32))) (fun h => by rw [Bd.returns] at h; cases h)
  refine ⟨_, _, retN X14 hx (t := .boolean) Bd.returns (by simp) (hb hby own_d19_24) hr, hrun, hended, _, _, rfl, ?_, ⟨_, rfl⟩, hW, hsame.mono (by decide) (by decide)⟩
  exact ⟨rfl, N14, KK14, LS14⟩
def own_QrmAN0 (Z : State) (a1 b1 : Addr) (k1 : ClassId) (sz : Int32) (vs : List Value) (h0 : Heap) (n0 : Nat) (v : Option Value) (h : Heap) (L : List Loc) : Prop := v = some (.int 1) ∧ Fr n0 L ∧ Keep h0 h [a1, b1] ∧ own_LS Z h a1 b1 k1 (10 : Int32) (sz + 1) (vs ++ [.null])
set_option maxRecDepth 65536 in
set_option maxHeartbeats 40000000 in
theorem rmAN0 (l : Launch) (Z : State) (a0 : Array Value) (hw : ∀ d ∈ tables_1, d.before a0 Z = true) (ws : List Jvm.Cond) (a1 b1 : Addr) (k1 : ClassId) (sz : Int32) (vs : List Value) (h0 : Heap) (n0 : Nat) (Z0 : n0 ≤ h0.size) (LS : own_LS Z h0 a1 b1 k1 (10 : Int32) sz vs) (OB : Ovr Z k1 "java/lang/Object") (hs1 : sz < (10 : Int32)) (g1 : n0 ≤ a1) (gb : n0 ≤ b1) (nab : a1 ≠ b1) :
    MetFree l (⟨"java/util/ArrayList", "add", "(Ljava/lang/Object;)Z"⟩ : MethodName) (head1 (Jvm.Cond.code (⟨"java/util/ArrayList", "add", "(Ljava/lang/Object;)Z"⟩ : MethodName) jdk_38_method_25_code 2 (some .boolean) :: ws) ({ frames := 1, cells := 0, slots := 0, locals := 15 } : Room)) (fun a U => a = #[(.ref a1), .null] ∧ Z.Warmed39 U.vm ∧ U.heap = h0) (fun _ _ _ _ _ => True) (fun _ U o U' => ∃ v L, o = .returned v ∧ own_QrmAN0 Z a1 b1 k1 sz vs h0 n0 v U'.heap L ∧ FrameEnd U o U' L ({ frames := 1, cells := 0, slots := 0, locals := 15 } : Room).cells ({ frames := 1, cells := 0, slots := 0, locals := 15 } : Room).slots) := by
  refine MetFree.of_bodySF (plainFor_of_name own_pn_java_util_ArrayList) hisR ?_
  intro p e s m args below meth c s₁ Bd hml0 hP hK
  obtain ⟨rfl, hZ, hh⟩ := hP
  have hx := Bd.exec
  have hby := Bd.bytes
  have hml : c.maxLocals = 2 := hml0
  have hown : s.vm.findClass "java/util/ArrayList" = some m.cls := findClass_of_methodNamed Bd.named
  have hnm := (name_of_methodNamed Bd.named Bd.method).1
  have X0 : Stand p l e ({ frames := 1, cells := 0, slots := 0, locals := 15 } : Room) s m #[(.ref a1), .null] below meth c s₁ [] 0 0 := Stand.of_body Bd
  have e0 : s₁.heap = h0 := by rw [← hh, Bd.state]; rfl
  have N0 := Fr.nil n0
  refine own_adv (B := s₁.setTop (mkF m 0 #[.val (.ref a1), .val .null] [])) (fun t k => castTop (own_ef_rmAN0 m a1) k) ?_
  have KK0 : Keep h0 h0 [a1, b1] := Keep.refl h0 _
  obtain ⟨E1, ⟨mc, FM⟩, FS, FE, VB, EB, EV, hsz, hs0, -⟩ := LS
  refine own_adv (B := s₁.setTop (mkF m 1 #[.val (.ref a1), .val .null] [(.ref a1)])) (fun t k => XS.aloadN X0.here hx rfl (hb hby own_d19_0) rfl rfl k) ?_
  refine own_adv (B := s₁.setTop (mkF m 2 #[.val (.ref a1), .val .null] [(.ref a1), (.ref a1)])) (fun t k => XS.dup X0.here hx rfl (hb hby own_d19_1) rfl rfl k) ?_
  obtain ⟨T10, X10, e10, st10⟩ := getF X0 hx hZ hown (host := "") (Or.inl (hw _ (List.mem_of_getElem? (i := 140) rfl))) (Via.of (hw _ (List.mem_of_getElem? (i := 141) rfl))) e0 FM (g := (mkF m 2 #[.val (.ref a1), .val .null] [(.ref a1), (.ref a1)])) rfl rfl (hb hby own_d19_2)
  refine own_adv (B := T10.setTop (mkF m 5 #[.val (.ref a1), .val .null] [(.int mc), (.ref a1)])) st10 ?_
  refine own_adv (B := T10.setTop (mkF m 6 #[.val (.ref a1), .val .null] [(.int (1 : Int32)), (.int mc), (.ref a1)])) (fun t k => XS.iconst X10.here hx rfl (hb hby own_d19_5) k) ?_
  refine own_adv (B := T10.setTop (mkF m 7 #[.val (.ref a1), .val .null] [(.int (mc + (1 : Int32))), (.ref a1)])) (fun t k => XS.iadd X10.here hx rfl (hb hby own_d19_6) rfl k) ?_
  obtain ⟨T11, h11, X11, e11, W11, st11⟩ := putF X10 hx hZ hown (host := "") (Or.inl (hw _ (List.mem_of_getElem? (i := 140) rfl))) (Via.of (hw _ (List.mem_of_getElem? (i := 141) rfl))) e10 FM E1 (Or.inl (hw _ (List.mem_of_getElem? (i := 23) rfl))) (hw _ (List.mem_of_getElem? (i := 2) rfl)) (ty := .int) (by decide) rfl rfl (g := (mkF m 7 #[.val (.ref a1), .val .null] [(.int (mc + (1 : Int32))), (.ref a1)])) rfl rfl (hb hby own_d19_7)
  subst e11
  have N11 := Fr.snoc X11 N0 g1
  have E_a1_11 : Exa Z T11.heap a1 "java/util/ArrayList" := Exa.keep E1 (Keep.of_wr W11)
  have F_modCount_a1_11 : Fld Z T11.heap a1 "java/util/AbstractList" "modCount" "I" (.int (mc + (1 : Int32))) := Fld.same W11 FM
  have F_size_a1_11 : Fld Z T11.heap a1 "java/util/ArrayList" "size" "I" (.int sz) := Fld.other W11 FS (Or.inr (slot_ne (Or.inl (hw _ (List.mem_of_getElem? (i := 72) rfl))) (Or.inl (hw _ (List.mem_of_getElem? (i := 23) rfl))) (by decide) (t := .int) (t' := .int) (by decide) (by decide)))
  have F_elementData_a1_11 : Fld Z T11.heap a1 "java/util/ArrayList" "elementData" "[Ljava/lang/Object;" (.ref b1) := Fld.other W11 FE (Or.inr (slot_ne (Or.inl (hw _ (List.mem_of_getElem? (i := 26) rfl))) (Or.inl (hw _ (List.mem_of_getElem? (i := 23) rfl))) (by decide) (t := (.array (.object "java/lang/Object"))) (t' := .int) (by decide) (by decide)))
  have E_b1_11 : Exa Z T11.heap b1 "[Ljava/lang/Object;" := Exa.keep EB (Keep.of_wr W11)
  have V_b1_11 : Arv Z T11.heap b1 k1 (.object "java/lang/Object") (10 : Int32) vs .null := Arv.keep VB (Keep.of_wr W11) (ninS (Ne.symm nab) nin0)
  have EV_11 : ∀ v ∈ vs, own_El Z T11.heap v := fun v hv => own_El_keep (EV v hv) (Keep.of_wr W11)
  have KK11 : Keep h0 T11.heap [a1, b1] := KK0.wr W11 (Or.inl (List.mem_of_getElem? (i := 0) rfl))
  refine own_adv (B := T11.setTop (mkF m 10 #[.val (.ref a1), .val .null] [])) st11 ?_
  refine own_adv (B := T11.setTop (mkF m 11 #[.val (.ref a1), .val .null] [(.ref a1)])) (fun t k => XS.aloadN X11.here hx rfl (hb hby own_d19_10) rfl rfl k) ?_
  refine own_adv (B := T11.setTop (mkF m 12 #[.val (.ref a1), .val .null] [.null, (.ref a1)])) (fun t k => XS.aloadN X11.here hx rfl (hb hby own_d19_11) rfl rfl k) ?_
  refine own_adv (B := T11.setTop (mkF m 13 #[.val (.ref a1), .val .null] [(.ref a1), .null, (.ref a1)])) (fun t k => XS.aloadN X11.here hx rfl (hb hby own_d19_12) rfl rfl k) ?_
  obtain ⟨T12, X12, e12, st12⟩ := getF X11 hx hZ hown (host := "") (Or.inl (hw _ (List.mem_of_getElem? (i := 25) rfl))) Via.refl rfl F_elementData_a1_11 (g := (mkF m 13 #[.val (.ref a1), .val .null] [(.ref a1), .null, (.ref a1)])) rfl rfl (hb hby own_d19_13)
  refine own_adv (B := T12.setTop (mkF m 16 #[.val (.ref a1), .val .null] [(.ref b1), .null, (.ref a1)])) st12 ?_
  refine own_adv (B := T12.setTop (mkF m 17 #[.val (.ref a1), .val .null] [(.ref a1), (.ref b1), .null, (.ref a1)])) (fun t k => XS.aloadN X12.here hx rfl (hb hby own_d19_16) rfl rfl k) ?_
  obtain ⟨T13, X13, e13, st13⟩ := getF X12 hx hZ hown (host := "") (Or.inl (hw _ (List.mem_of_getElem? (i := 71) rfl))) Via.refl e12 F_size_a1_11 (g := (mkF m 17 #[.val (.ref a1), .val .null] [(.ref a1), (.ref b1), .null, (.ref a1)])) rfl rfl (hb hby own_d19_17)
  refine own_adv (B := T13.setTop (mkF m 20 #[.val (.ref a1), .val .null] [(.int sz), (.ref b1), .null, (.ref a1)])) st13 ?_
  obtain ⟨cq14, q14, q14'⟩ := Exa.cell E_a1_11
  obtain ⟨_, _, ⟨T14, L14, k14, n14⟩, -, X14, ⟨Lc14, hQ14, l14, y14, z14⟩, st14⟩ := X13.privateBack hx (y := (⟨"java/util/ArrayList", "add", "(Ljava/lang/Object;[Ljava/lang/Object;I)V"⟩ : MethodName)) hown (mvT hZ (hw _ (List.mem_of_getElem? (i := 142) rfl))) (mvT hZ (hw _ (List.mem_of_getElem? (i := 143) rfl))) (mvT hZ (hw _ (List.mem_of_getElem? (i := 145) rfl))) (Cond.privateMethod_at (mvP hZ (hw _ (List.mem_of_getElem? (i := 144) rfl)) (args := #[]))) (mvT hZ (hw _ (List.mem_of_getElem? (i := 146) rfl))) (by decide) (backOf (W := 0) (rmA3N0 l Z a0 hw [] a1 b1 k1 (mc + (1 : Int32)) sz vs T11.heap n0 (Nat.le_trans Z0 KK11.1) E_a1_11 F_modCount_a1_11 F_size_a1_11 F_elementData_a1_11 V_b1_11 E_b1_11 OB EV_11 hsz hs0 hs1 g1 gb nab) hZ (hw _ (List.mem_of_getElem? (i := 146) rfl)) (hw _ (List.mem_of_getElem? (i := 3) rfl)) (by decide) (by decide)) (g := (mkF m 20 #[.val (.ref a1), .val .null] [(.int sz), (.ref b1), .null, (.ref a1)])) rfl (by rw [hml]; rfl) (Steps.refl _) (a := a1) (by rw [e13]; exact q14) q14' (argsL := [.null, (.ref b1), (.int sz)]) (rest := []) (lenOf own_pd__Ljava_lang_Object__Ljava_lang_Object_I_V rfl) rfl (by show 2 * 0 + _ ≤ _; exact Nat.le_of_eq rfl) (hb hby own_d19_20) (fun _ _ => ⟨rfl, e13, (by decide : 0 + 0 ≤ _), (by decide : 0 + 0 ≤ _)⟩)
  dsimp only [Pt.U, Pt.locs, Pt.cells, Pt.slots] at X14 l14 y14 z14 st14 hQ14
  subst l14 y14 z14
  obtain ⟨rfl, N14q, K14, LS14⟩ := hQ14
  have N14 := Fr.app N11 N14q
  have E_a1_14 : Exa Z T14.heap a1 "java/util/ArrayList" := Exa.keep E_a1_11 K14
  have E_b1_14 : Exa Z T14.heap b1 "[Ljava/lang/Object;" := Exa.keep E_b1_11 K14
  have EV_14 : ∀ v ∈ vs, own_El Z T14.heap v := fun v hv => own_El_keep (EV_11 v hv) K14
  have KK14 : Keep h0 T14.heap [a1, b1] := KK11.trans K14 (allS (Or.inl (List.mem_of_getElem? (i := 0) rfl)) (allS (Or.inl (List.mem_of_getElem? (i := 1) rfl)) all0))
  refine own_adv (B := T14.setTop (mkF m 23 #[.val (.ref a1), .val .null] [])) (fun t k => st14.trans k) ?_
  refine own_adv (B := T14.setTop (mkF m 24 #[.val (.ref a1), .val .null] [(.int (1 : Int32))])) (fun t k => XS.iconst X14.here hx rfl (hb hby own_d19_23) k) ?_
  obtain ⟨fs, hr, hrun, hended, hW, hsame⟩ := X14.leave (v := some (.int (1 : Int32))) (fun h => by rw [Bd.returns] at h; cases h)
  refine ⟨_, _, retN X14 hx (t := .boolean) Bd.returns (by simp) (hb hby own_d19_24) hr, hrun, hended, _, _, rfl, ?_, ⟨_, rfl⟩, hW, hsame.mono (by decide) (by decide)⟩
  exact ⟨rfl, N14, KK14, LS14⟩
def own_QrmC3 (Z : State) (a1 : Addr) (k1 : ClassId) (z1 p1 : Int32) (vs : List Value) (mr : Addr) (h0 : Heap) (n0 : Nat) (v : Option Value) (h : Heap) (L : List Loc) : Prop := ∃ c k us, v = some (.ref c) ∧ Fr n0 L ∧ Keep h0 h [] ∧ h0.size ≤ c ∧ Arv Z h c k (.object "java/lang/Object") p1 us .null
set_option maxRecDepth 65536 in
set_option maxHeartbeats 40000000 in
theorem rmC3 (l : Launch) (Z : State) (a0 : Array Value) (hw : ∀ d ∈ tables_1, d.before a0 Z = true) (ws : List Jvm.Cond) (a1 : Addr) (k1 : ClassId) (z1 p1 : Int32) (vs : List Value) (mr : Addr) (h0 : Heap) (n0 : Nat) (Z0 : n0 ≤ h0.size) (OL : Old Z n0 h0) (E1 : Exa Z h0 a1 "[Ljava/lang/Object;") (V1 : Arv Z h0 a1 k1 (.object "java/lang/Object") z1 vs .null) (EV : ∀ v ∈ vs, own_El Z h0 v) (hp : ¬ p1 < 0) (hz : ¬ z1 < p1) (hc : p1.toNatClampNeg ≤ 10) (MR : own_Mir Z "[Ljava/lang/Object;" mr) :
    MetFree l (⟨"java/util/Arrays", "copyOf", "([Ljava/lang/Object;ILjava/lang/Class;)[Ljava/lang/Object;"⟩ : MethodName) (head1 (Jvm.Cond.code (⟨"java/util/Arrays", "copyOf", "([Ljava/lang/Object;ILjava/lang/Class;)[Ljava/lang/Object;"⟩ : MethodName) jdk_65_method_120_code 4 (some (.array (.object "java/lang/Object"))) :: ws) ({ frames := 1, cells := 1, slots := 10, locals := 40 } : Room)) (fun a U => a = #[(.ref a1), (.int p1), (.ref mr)] ∧ Z.Warmed39 U.vm ∧ U.heap = h0) (fun _ _ _ _ _ => True) (fun _ U o U' => ∃ v L, o = .returned v ∧ own_QrmC3 Z a1 k1 z1 p1 vs mr h0 n0 v U'.heap L ∧ FrameEnd U o U' L ({ frames := 1, cells := 1, slots := 10, locals := 40 } : Room).cells ({ frames := 1, cells := 1, slots := 10, locals := 40 } : Room).slots) := by
  refine MetFree.of_bodySF (plainFor_of_name own_pn_java_util_Arrays) hisR ?_
  intro p e s m args below meth c s₁ Bd hml0 hP hK
  obtain ⟨rfl, hZ, hh⟩ := hP
  have hx := Bd.exec
  have hby := Bd.bytes
  have hml : c.maxLocals = 4 := hml0
  have hown : s.vm.findClass "java/util/Arrays" = some m.cls := findClass_of_methodNamed Bd.named
  have hnm := (name_of_methodNamed Bd.named Bd.method).1
  have X0 : Stand p l e ({ frames := 1, cells := 1, slots := 10, locals := 40 } : Room) s m #[(.ref a1), (.int p1), (.ref mr)] below meth c s₁ [] 0 0 := Stand.of_body Bd
  have e0 : s₁.heap = h0 := by rw [← hh, Bd.state]; rfl
  have N0 := Fr.nil n0
  refine own_adv (B := s₁.setTop (mkF m 0 #[.val (.ref a1), .val (.int p1), .val (.ref mr), .unset] [])) (fun t k => castTop (own_ef_rmC3 m a1 p1 mr) k) ?_
  have KK0 : Keep h0 h0 [] := Keep.refl h0 _
  refine own_adv (B := s₁.setTop (mkF m 1 #[.val (.ref a1), .val (.int p1), .val (.ref mr), .unset] [(.ref mr)])) (fun t k => XS.aloadN X0.here hx rfl (hb hby own_d12_0) rfl rfl k) ?_
  obtain ⟨T10, X10, e10, st10⟩ := own_ldcM X0 hx hZ hown (hw _ (List.mem_of_getElem? (i := 86) rfl)) e0 MR (g := (mkF m 1 #[.val (.ref a1), .val (.int p1), .val (.ref mr), .unset] [(.ref mr)])) rfl (hb hby own_d12_1)
  refine own_adv (B := T10.setTop (mkF m 3 #[.val (.ref a1), .val (.int p1), .val (.ref mr), .unset] [(.ref mr), (.ref mr)])) st10 ?_
  refine own_adv (B := T10.setTop (mkF m 6 #[.val (.ref a1), .val (.int p1), .val (.ref mr), .unset] [])) (fun t k => Jvm.RoadKit.acmp (g := (mkF m 3 #[.val (.ref a1), .val (.int p1), .val (.ref mr), .unset] [(.ref mr), (.ref mr)])) X10 hx rfl rfl rfl (pc0 := 3) (pc' := 6) (same := true) rfl (hb hby own_d12_3) rfl (decide_eq_true rfl) (by decide) (by decide) k) ?_
  refine own_adv (B := T10.setTop (mkF m 7 #[.val (.ref a1), .val (.int p1), .val (.ref mr), .unset] [(.int p1)])) (fun t k => XS.iloadN X10.here hx rfl (hb hby own_d12_6) rfl k) ?_
  obtain ⟨T11, h11, k11, X11, e11, E11, A11, B11, O11, st11⟩ := newRE X10 hx hZ hown (hw _ (List.mem_of_getElem? (i := 87) rfl)) (hw _ (List.mem_of_getElem? (i := 88) rfl)) e10 (g := (mkF m 7 #[.val (.ref a1), .val (.int p1), .val (.ref mr), .unset] [(.int p1)])) rfl (hb hby own_d12_7) rfl hp (cap := 10) hc (by decide) (by decide) (by decide) (ad := "[Ljava/lang/Object;") (by decide +kernel)
  obtain ⟨b11, g11⟩ : ∃ z, z = h0.size := ⟨_, rfl⟩
  rw [← g11] at A11 B11 st11
  subst e11
  have ne_a1_b11 : a1 ≠ b11 := Nat.ne_of_lt (Nat.lt_of_lt_of_le E1.lt (Nat.le_of_eq g11.symm))
  have sz_b11 : h0.size ≤ b11 := Nat.le_trans KK0.1 (Nat.le_of_eq g11.symm)
  have g_b11 : n0 ≤ b11 := Nat.le_trans Z0 sz_b11
  have E_a1_11 : Exa Z T11.heap a1 "[Ljava/lang/Object;" := Exa.keep E1 ((Keep.refl _ []).ext E11)
  have V_a1_11 : Arv Z T11.heap a1 k1 (.object "java/lang/Object") z1 vs .null := Arv.keep V1 ((Keep.refl _ []).ext E11) nin0
  have EV_11 : ∀ v ∈ vs, own_El Z T11.heap v := fun v hv => own_El_keep (EV v hv) ((Keep.refl _ []).ext E11)
  have KK11 : Keep h0 T11.heap [] := KK0.ext E11
  have V_b11 : Arv Z T11.heap b11 k11 (.object "java/lang/Object") p1 [] .null := Arv.new A11 hp
  refine own_adv (B := T11.setTop (mkF m 10 #[.val (.ref a1), .val (.int p1), .val (.ref mr), .unset] [(.ref b11)])) st11 ?_
  refine own_adv (B := T11.setTop (mkF m 24 #[.val (.ref a1), .val (.int p1), .val (.ref mr), .unset] [(.ref b11)])) (fun t k => XS.goto X11.here hx rfl (pc0 := 10) (pc' := 24) rfl (hb hby own_d12_10) (by decide) (by decide) k) ?_
  refine own_adv (B := T11.setTop (mkF m 25 #[.val (.ref a1), .val (.int p1), .val (.ref mr), .val (.ref b11)] [])) (fun t k => XS.astoreN X11.here hx rfl (hb hby own_d12_24) rfl rfl (l' := #[.val (.ref a1), .val (.int p1), .val (.ref mr), .val (.ref b11)]) rfl k) ?_
  refine own_adv (B := T11.setTop (mkF m 26 #[.val (.ref a1), .val (.int p1), .val (.ref mr), .val (.ref b11)] [(.ref a1)])) (fun t k => XS.aloadN X11.here hx rfl (hb hby own_d12_25) rfl rfl k) ?_
  refine own_adv (B := T11.setTop (mkF m 27 #[.val (.ref a1), .val (.int p1), .val (.ref mr), .val (.ref b11)] [(.int (0 : Int32)), (.ref a1)])) (fun t k => XS.iconst X11.here hx rfl (hb hby own_d12_26) k) ?_
  refine own_adv (B := T11.setTop (mkF m 28 #[.val (.ref a1), .val (.int p1), .val (.ref mr), .val (.ref b11)] [(.ref b11), (.int (0 : Int32)), (.ref a1)])) (fun t k => XS.aloadN X11.here hx rfl (hb hby own_d12_27) rfl rfl k) ?_
  refine own_adv (B := T11.setTop (mkF m 29 #[.val (.ref a1), .val (.int p1), .val (.ref mr), .val (.ref b11)] [(.int (0 : Int32)), (.ref b11), (.int (0 : Int32)), (.ref a1)])) (fun t k => XS.iconst X11.here hx rfl (hb hby own_d12_28) k) ?_
  refine own_adv (B := T11.setTop (mkF m 30 #[.val (.ref a1), .val (.int p1), .val (.ref mr), .val (.ref b11)] [(.ref a1), (.int (0 : Int32)), (.ref b11), (.int (0 : Int32)), (.ref a1)])) (fun t k => XS.aloadN X11.here hx rfl (hb hby own_d12_29) rfl rfl k) ?_
  obtain ⟨cl12, Ar12, -, S12, Nn12, -, -⟩ := id (V_a1_11)
  refine own_adv (B := T11.setTop (mkF m 31 #[.val (.ref a1), .val (.int p1), .val (.ref mr), .val (.ref b11)] [(.int z1), (.int (0 : Int32)), (.ref b11), (.int (0 : Int32)), (.ref a1)])) (fun t k => X11.arraylength hx Ar12.1 (State.isArrayOf_alike hZ.alike Ar12.2.1) (g := (mkF m 30 #[.val (.ref a1), .val (.int p1), .val (.ref mr), .val (.ref b11)] [(.ref a1), (.int (0 : Int32)), (.ref b11), (.int (0 : Int32)), (.ref a1)])) rfl rfl (hb hby own_d12_30) _ (by rw [len_of S12 Nn12]; exact k)) ?_
  refine own_adv (B := T11.setTop (mkF m 32 #[.val (.ref a1), .val (.int p1), .val (.ref mr), .val (.ref b11)] [(.int p1), (.int z1), (.int (0 : Int32)), (.ref b11), (.int (0 : Int32)), (.ref a1)])) (fun t k => XS.iloadN X11.here hx rfl (hb hby own_d12_31) rfl k) ?_
  have hm : (p1 < z1 ∧ p1 = p1) ∨ (¬ p1 < z1 ∧ p1 = z1) := by
    by_cases q : p1 < z1
    · exact Or.inl ⟨q, rfl⟩
    · exact Or.inr ⟨q, (own_eqz q hz).symm⟩
  obtain ⟨_, _, ⟨T13, L13, k13, n13⟩, -, X13, ⟨Lc13, hQ13, l13, y13, z13⟩, st13⟩ := Jvm.LawKit.callS X11 hx (y := (⟨"java/lang/Math", "min", "(II)I"⟩ : MethodName)) hown (mvT hZ (hw _ (List.mem_of_getElem? (i := 89) rfl))) (mvT hZ (hw _ (List.mem_of_getElem? (i := 90) rfl))) (mvT hZ (hw _ (List.mem_of_getElem? (i := 91) rfl))) (mvT hZ (hw _ (List.mem_of_getElem? (i := 92) rfl))) (by decide) (backOf (W := 4) (rmMin_ l Z a0 hw [] z1 p1 p1 T11.heap n0 (Nat.le_trans Z0 KK11.1) hm) hZ (hw _ (List.mem_of_getElem? (i := 92) rfl)) (hw _ (List.mem_of_getElem? (i := 91) rfl)) (by decide) (by decide)) (g := (mkF m 32 #[.val (.ref a1), .val (.int p1), .val (.ref mr), .val (.ref b11)] [(.int p1), (.int z1), (.int (0 : Int32)), (.ref b11), (.int (0 : Int32)), (.ref a1)])) rfl (by rw [hml]; rfl) (argsL := [(.int z1), (.int p1)]) (rest := [(.int (0 : Int32)), (.ref b11), (.int (0 : Int32)), (.ref a1)]) (lenOf own_pd__II_I rfl) rfl (by show 2 * 0 + _ ≤ _; exact Nat.le_of_eq rfl) (hb hby own_d12_32) (fun _ _ => ⟨rfl, rfl, (by decide : 1 + 0 ≤ _), (by decide : 10 + 0 ≤ _)⟩)
  dsimp only [Pt.U, Pt.locs, Pt.cells, Pt.slots] at X13 l13 y13 z13 st13 hQ13
  subst l13 y13 z13
  obtain ⟨rfl, N13q, e13⟩ := hQ13
  have N13 := Fr.app N0 N13q
  refine own_adv (B := T13.setTop (mkF m 35 #[.val (.ref a1), .val (.int p1), .val (.ref mr), .val (.ref b11)] [(.int p1), (.int (0 : Int32)), (.ref b11), (.int (0 : Int32)), (.ref a1)])) (fun t k => st13 t k) ?_
  obtain ⟨clx, Arx, qx, -⟩ := id V_b11
  have VX := Arv.pad (vs' := [] ++ List.replicate 10 .null) V_b11 (pad_rep [] .null 10)
  have hsto : StoL Z T11.heap b11 ((List.range p1.toNatClampNeg).map fun i => vs.getD ((0 : Int32).toNatClampNeg + i) .null) := own_StoL _ fun u hu => by
    obtain ⟨i, -, rfl⟩ := List.mem_map.mp hu
    rcases own_getD EV_11 ((0 : Int32).toNatClampNeg + i) with q | ⟨y, q, Ey⟩
    · exact Or.inl q
    · rw [q]; exact Sto.ofV Arx qx O11 (Ins.of_exa Ey (hw _ (List.mem_of_getElem? (i := 161) rfl)))
  obtain ⟨T14, h14, L14, X14, e14, N14, K14, V14, st14⟩ := cpA X13 hx hZ hown (hw _ (List.mem_of_getElem? (i := 93) rfl)) (hw _ (List.mem_of_getElem? (i := 96) rfl)) (hw _ (List.mem_of_getElem? (i := 94) rfl)) (hw _ (List.mem_of_getElem? (i := 95) rfl)) e13 V_a1_11 VX (Or.inr ⟨rfl, rfl, hsto⟩) (by decide) (by decide) hp (by rw [show (0 : Int32).toNatClampNeg = 0 from rfl, Nat.zero_add]; exact own_nat hz) (by rw [show (0 : Int32).toNatClampNeg = 0 from rfl, Nat.zero_add]; exact Nat.le_refl _) rfl (by rw [show (0 : Int32).toNatClampNeg = 0 from rfl, Nat.zero_add]; simpa using hc) N13 g_b11 (g := (mkF m 35 #[.val (.ref a1), .val (.int p1), .val (.ref mr), .val (.ref b11)] [(.int p1), (.int (0 : Int32)), (.ref b11), (.int (0 : Int32)), (.ref a1)])) rfl (by rw [hml]; rfl) rfl (hb hby own_d12_35) (by decide) (W := 0) (by show 2 * 0 + _ ≤ _; exact Nat.le_of_eq rfl) (by decide)
  subst e14
  have KK14 : Keep h0 T14.heap [] := KK11.trans K14 (allS (Or.inr sz_b11) all0)
  refine own_adv (B := T14.setTop (mkF m 38 #[.val (.ref a1), .val (.int p1), .val (.ref mr), .val (.ref b11)] [])) st14 ?_
  refine own_adv (B := T14.setTop (mkF m 39 #[.val (.ref a1), .val (.int p1), .val (.ref mr), .val (.ref b11)] [(.ref b11)])) (fun t k => XS.aloadN X14.here hx rfl (hb hby own_d12_38) rfl rfl k) ?_
  obtain ⟨fs, hr, hrun, hended, hW, hsame⟩ := X14.leave (v := some (.ref b11)) (fun h => by rw [Bd.returns] at h; cases h)
  refine ⟨_, _, retOut X14 hx (t := (.array (.object "java/lang/Object"))) (i := .areturn) Bd.returns rfl (Or.inr (Or.inr (Or.inr (Or.inr ⟨rfl, rfl, rfl⟩)))) (hb hby own_d12_39) hr, hrun, hended, _, _, rfl, ?_, ⟨_, rfl⟩, hW, hsame.mono (by decide) (by decide)⟩
  exact ⟨_, _, _, rfl, N14, KK14, sz_b11, V14⟩
def own_QrmC2 (Z : State) (a1 : Addr) (k1 : ClassId) (z1 p1 : Int32) (vs : List Value) (mr : Addr) (h0 : Heap) (n0 : Nat) (v : Option Value) (h : Heap) (L : List Loc) : Prop := ∃ c k us, v = some (.ref c) ∧ Fr n0 L ∧ Keep h0 h [] ∧ h0.size ≤ c ∧ Arv Z h c k (.object "java/lang/Object") p1 us .null
set_option maxRecDepth 65536 in
set_option maxHeartbeats 40000000 in
theorem rmC2 (l : Launch) (Z : State) (a0 : Array Value) (hw : ∀ d ∈ tables_1, d.before a0 Z = true) (ws : List Jvm.Cond) (a1 : Addr) (k1 : ClassId) (z1 p1 : Int32) (vs : List Value) (mr : Addr) (h0 : Heap) (n0 : Nat) (Z0 : n0 ≤ h0.size) (OL : Old Z n0 h0) (E1 : Exa Z h0 a1 "[Ljava/lang/Object;") (V1 : Arv Z h0 a1 k1 (.object "java/lang/Object") z1 vs .null) (EV : ∀ v ∈ vs, own_El Z h0 v) (hp : ¬ p1 < 0) (hz : ¬ z1 < p1) (hc : p1.toNatClampNeg ≤ 10) (MR : own_Mir Z "[Ljava/lang/Object;" mr) :
    MetFree l (⟨"java/util/Arrays", "copyOf", "([Ljava/lang/Object;I)[Ljava/lang/Object;"⟩ : MethodName) (head1 (Jvm.Cond.code (⟨"java/util/Arrays", "copyOf", "([Ljava/lang/Object;I)[Ljava/lang/Object;"⟩ : MethodName) jdk_65_method_119_code 2 (some (.array (.object "java/lang/Object"))) :: ws) ({ frames := 2, cells := 1, slots := 10, locals := 60 } : Room)) (fun a U => a = #[(.ref a1), (.int p1)] ∧ Z.Warmed39 U.vm ∧ U.heap = h0) (fun _ _ _ _ _ => True) (fun _ U o U' => ∃ v L, o = .returned v ∧ own_QrmC2 Z a1 k1 z1 p1 vs mr h0 n0 v U'.heap L ∧ FrameEnd U o U' L ({ frames := 2, cells := 1, slots := 10, locals := 60 } : Room).cells ({ frames := 2, cells := 1, slots := 10, locals := 60 } : Room).slots) := by
  refine MetFree.of_bodySF (plainFor_of_name own_pn_java_util_Arrays) hisR ?_
  intro p e s m args below meth c s₁ Bd hml0 hP hK
  obtain ⟨rfl, hZ, hh⟩ := hP
  have hx := Bd.exec
  have hby := Bd.bytes
  have hml : c.maxLocals = 2 := hml0
  have hown : s.vm.findClass "java/util/Arrays" = some m.cls := findClass_of_methodNamed Bd.named
  have hnm := (name_of_methodNamed Bd.named Bd.method).1
  have X0 : Stand p l e ({ frames := 2, cells := 1, slots := 10, locals := 60 } : Room) s m #[(.ref a1), (.int p1)] below meth c s₁ [] 0 0 := Stand.of_body Bd
  have e0 : s₁.heap = h0 := by rw [← hh, Bd.state]; rfl
  have N0 := Fr.nil n0
  refine own_adv (B := s₁.setTop (mkF m 0 #[.val (.ref a1), .val (.int p1)] [])) (fun t k => castTop (own_ef_rmC2 m a1 p1) k) ?_
  have KK0 : Keep h0 h0 [] := Keep.refl h0 _
  refine own_adv (B := s₁.setTop (mkF m 1 #[.val (.ref a1), .val (.int p1)] [(.ref a1)])) (fun t k => XS.aloadN X0.here hx rfl (hb hby own_d11_0) rfl rfl k) ?_
  refine own_adv (B := s₁.setTop (mkF m 2 #[.val (.ref a1), .val (.int p1)] [(.int p1), (.ref a1)])) (fun t k => XS.iloadN X0.here hx rfl (hb hby own_d11_1) rfl k) ?_
  refine own_adv (B := s₁.setTop (mkF m 3 #[.val (.ref a1), .val (.int p1)] [(.ref a1), (.int p1), (.ref a1)])) (fun t k => XS.aloadN X0.here hx rfl (hb hby own_d11_2) rfl rfl k) ?_
  obtain ⟨T10, X10, e10, st10⟩ := own_gcls X0 hx hZ hown (hw _ (List.mem_of_getElem? (i := 77) rfl)) (hw _ (List.mem_of_getElem? (i := 78) rfl)) (hw _ (List.mem_of_getElem? (i := 80) rfl)) (hw _ (List.mem_of_getElem? (i := 79) rfl)) (hw _ (List.mem_of_getElem? (i := 81) rfl)) e0 E1 MR (g := (mkF m 3 #[.val (.ref a1), .val (.int p1)] [(.ref a1), (.int p1), (.ref a1)])) rfl (by rw [hml]; rfl) rfl (hb hby own_d11_3) (by decide) (W := 2) (by show 2 * 0 + _ ≤ _; exact Nat.le_of_eq rfl) (by decide)
  refine own_adv (B := T10.setTop (mkF m 6 #[.val (.ref a1), .val (.int p1)] [(.ref mr), (.int p1), (.ref a1)])) st10 ?_
  obtain ⟨_, _, ⟨T11, L11, k11, n11⟩, -, X11, ⟨Lc11, hQ11, l11, y11, z11⟩, st11⟩ := Jvm.LawKit.callS X10 hx (y := (⟨"java/util/Arrays", "copyOf", "([Ljava/lang/Object;ILjava/lang/Class;)[Ljava/lang/Object;"⟩ : MethodName)) hown (mvT hZ (hw _ (List.mem_of_getElem? (i := 83) rfl))) (mvT hZ (hw _ (List.mem_of_getElem? (i := 84) rfl))) (mvT hZ (hw _ (List.mem_of_getElem? (i := 75) rfl))) (mvT hZ (hw _ (List.mem_of_getElem? (i := 85) rfl))) (by decide) (backOf (W := 0) (rmC3 l Z a0 hw [] a1 k1 z1 p1 vs mr h0 n0 Z0 OL E1 V1 EV hp hz hc MR) hZ (hw _ (List.mem_of_getElem? (i := 85) rfl)) (hw _ (List.mem_of_getElem? (i := 75) rfl)) (by decide) (by decide)) (g := (mkF m 6 #[.val (.ref a1), .val (.int p1)] [(.ref mr), (.int p1), (.ref a1)])) rfl (by rw [hml]; rfl) (argsL := [(.ref a1), (.int p1), (.ref mr)]) (rest := []) (lenOf own_pd___Ljava_lang_Object_ILjava_lang_Class___Ljava_lang_Object_ rfl) rfl (by show 2 * 0 + _ ≤ _; exact Nat.le_of_eq rfl) (hb hby own_d11_6) (fun _ _ => ⟨rfl, e10, (by decide : 0 + 1 ≤ _), (by decide : 0 + 10 ≤ _)⟩)
  dsimp only [Pt.U, Pt.locs, Pt.cells, Pt.slots] at X11 l11 y11 z11 st11 hQ11
  subst l11 y11 z11
  obtain ⟨c11, kc11, us11, rfl, N11q, K11, hb11, V11⟩ := hQ11
  have N11 := Fr.app N0 N11q
  have KK11 : Keep h0 T11.heap [] := KK0.trans K11 all0
  refine own_adv (B := T11.setTop (mkF m 9 #[.val (.ref a1), .val (.int p1)] [(.ref c11)])) (fun t k => st11 t k) ?_
  obtain ⟨fs, hr, hrun, hended, hW, hsame⟩ := X11.leave (v := some (.ref c11)) (fun h => by rw [Bd.returns] at h; cases h)
  refine ⟨_, _, retOut X11 hx (t := (.array (.object "java/lang/Object"))) (i := .areturn) Bd.returns rfl (Or.inr (Or.inr (Or.inr (Or.inr ⟨rfl, rfl, rfl⟩)))) (hb hby own_d11_9) hr, hrun, hended, _, _, rfl, ?_, ⟨_, rfl⟩, hW, hsame.mono (by decide) (by decide)⟩
  exact ⟨_, _, _, rfl, N11, KK11, hb11, V11⟩
def own_QrmTA (Z : State) (a1 b1 : Addr) (k1 : ClassId) (z1 sz : Int32) (vs : List Value) (mr : Addr) (h0 : Heap) (n0 : Nat) (v : Option Value) (h : Heap) (L : List Loc) : Prop := ∃ c k us, v = some (.ref c) ∧ Fr n0 L ∧ Keep h0 h [] ∧ h0.size ≤ c ∧ Arv Z h c k (.object "java/lang/Object") sz us .null
set_option maxRecDepth 65536 in
set_option maxHeartbeats 40000000 in
theorem rmTA (l : Launch) (Z : State) (a0 : Array Value) (hw : ∀ d ∈ tables_1, d.before a0 Z = true) (ws : List Jvm.Cond) (a1 b1 : Addr) (k1 : ClassId) (z1 sz : Int32) (vs : List Value) (mr : Addr) (h0 : Heap) (n0 : Nat) (Z0 : n0 ≤ h0.size) (OL : Old Z n0 h0) (LS : own_LS Z h0 a1 b1 k1 z1 sz vs) (hc : sz.toNatClampNeg ≤ 10) (MR : own_Mir Z "[Ljava/lang/Object;" mr) :
    MetFree l (⟨"java/util/ArrayList", "toArray", "()[Ljava/lang/Object;"⟩ : MethodName) (head1 (Jvm.Cond.code (⟨"java/util/ArrayList", "toArray", "()[Ljava/lang/Object;"⟩ : MethodName) jdk_38_method_16_code 1 (some (.array (.object "java/lang/Object"))) :: ws) ({ frames := 3, cells := 1, slots := 10, locals := 73 } : Room)) (fun a U => a = #[(.ref a1)] ∧ Z.Warmed39 U.vm ∧ U.heap = h0) (fun _ _ _ _ _ => True) (fun _ U o U' => ∃ v L, o = .returned v ∧ own_QrmTA Z a1 b1 k1 z1 sz vs mr h0 n0 v U'.heap L ∧ FrameEnd U o U' L ({ frames := 3, cells := 1, slots := 10, locals := 73 } : Room).cells ({ frames := 3, cells := 1, slots := 10, locals := 73 } : Room).slots) := by
  refine MetFree.of_bodySF (plainFor_of_name own_pn_java_util_ArrayList) hisR ?_
  intro p e s m args below meth c s₁ Bd hml0 hP hK
  obtain ⟨rfl, hZ, hh⟩ := hP
  have hx := Bd.exec
  have hby := Bd.bytes
  have hml : c.maxLocals = 1 := hml0
  have hown : s.vm.findClass "java/util/ArrayList" = some m.cls := findClass_of_methodNamed Bd.named
  have hnm := (name_of_methodNamed Bd.named Bd.method).1
  have X0 : Stand p l e ({ frames := 3, cells := 1, slots := 10, locals := 73 } : Room) s m #[(.ref a1)] below meth c s₁ [] 0 0 := Stand.of_body Bd
  have e0 : s₁.heap = h0 := by rw [← hh, Bd.state]; rfl
  have N0 := Fr.nil n0
  refine own_adv (B := s₁.setTop (mkF m 0 #[.val (.ref a1)] [])) (fun t k => castTop (own_ef_rmTA m a1) k) ?_
  have KK0 : Keep h0 h0 [] := Keep.refl h0 _
  obtain ⟨E1, -, FS, FE, VB, EB, EV, hsz, hs0, hs1⟩ := LS
  refine own_adv (B := s₁.setTop (mkF m 1 #[.val (.ref a1)] [(.ref a1)])) (fun t k => XS.aloadN X0.here hx rfl (hb hby own_d10_0) rfl rfl k) ?_
  obtain ⟨T10, X10, e10, st10⟩ := getF X0 hx hZ hown (host := "") (Or.inl (hw _ (List.mem_of_getElem? (i := 25) rfl))) Via.refl e0 FE (g := (mkF m 1 #[.val (.ref a1)] [(.ref a1)])) rfl rfl (hb hby own_d10_1)
  refine own_adv (B := T10.setTop (mkF m 4 #[.val (.ref a1)] [(.ref b1)])) st10 ?_
  refine own_adv (B := T10.setTop (mkF m 5 #[.val (.ref a1)] [(.ref a1), (.ref b1)])) (fun t k => XS.aloadN X10.here hx rfl (hb hby own_d10_4) rfl rfl k) ?_
  obtain ⟨T11, X11, e11, st11⟩ := getF X10 hx hZ hown (host := "") (Or.inl (hw _ (List.mem_of_getElem? (i := 71) rfl))) Via.refl e10 FS (g := (mkF m 5 #[.val (.ref a1)] [(.ref a1), (.ref b1)])) rfl rfl (hb hby own_d10_5)
  refine own_adv (B := T11.setTop (mkF m 8 #[.val (.ref a1)] [(.int sz), (.ref b1)])) st11 ?_
  obtain ⟨_, _, ⟨T12, L12, k12, n12⟩, -, X12, ⟨Lc12, hQ12, l12, y12, z12⟩, st12⟩ := Jvm.LawKit.callS X11 hx (y := (⟨"java/util/Arrays", "copyOf", "([Ljava/lang/Object;I)[Ljava/lang/Object;"⟩ : MethodName)) hown (mvT hZ (hw _ (List.mem_of_getElem? (i := 73) rfl))) (mvT hZ (hw _ (List.mem_of_getElem? (i := 74) rfl))) (mvT hZ (hw _ (List.mem_of_getElem? (i := 75) rfl))) (mvT hZ (hw _ (List.mem_of_getElem? (i := 76) rfl))) (by decide) (backOf (W := 0) (rmC2 l Z a0 hw [] b1 k1 z1 sz vs mr h0 n0 Z0 OL EB VB EV hs0 hs1 hc MR) hZ (hw _ (List.mem_of_getElem? (i := 76) rfl)) (hw _ (List.mem_of_getElem? (i := 75) rfl)) (by decide) (by decide)) (g := (mkF m 8 #[.val (.ref a1)] [(.int sz), (.ref b1)])) rfl (by rw [hml]; rfl) (argsL := [(.ref b1), (.int sz)]) (rest := []) (lenOf own_pd___Ljava_lang_Object_I__Ljava_lang_Object_ rfl) rfl (by show 2 * 0 + _ ≤ _; exact Nat.le_of_eq rfl) (hb hby own_d10_8) (fun _ _ => ⟨rfl, e11, (by decide : 0 + 1 ≤ _), (by decide : 0 + 10 ≤ _)⟩)
  dsimp only [Pt.U, Pt.locs, Pt.cells, Pt.slots] at X12 l12 y12 z12 st12 hQ12
  subst l12 y12 z12
  obtain ⟨c12, kc12, us12, rfl, N12q, K12, hb12, V12⟩ := hQ12
  have N12 := Fr.app N0 N12q
  have F_size_a1_12 : Fld Z T12.heap a1 "java/util/ArrayList" "size" "I" (.int sz) := Fld.keep FS K12 nin0
  have F_elementData_a1_12 : Fld Z T12.heap a1 "java/util/ArrayList" "elementData" "[Ljava/lang/Object;" (.ref b1) := Fld.keep FE K12 nin0
  have KK12 : Keep h0 T12.heap [] := KK0.trans K12 all0
  refine own_adv (B := T12.setTop (mkF m 11 #[.val (.ref a1)] [(.ref c12)])) (fun t k => st12 t k) ?_
  obtain ⟨fs, hr, hrun, hended, hW, hsame⟩ := X12.leave (v := some (.ref c12)) (fun h => by rw [Bd.returns] at h; cases h)
  refine ⟨_, _, retOut X12 hx (t := (.array (.object "java/lang/Object"))) (i := .areturn) Bd.returns rfl (Or.inr (Or.inr (Or.inr (Or.inr ⟨rfl, rfl, rfl⟩)))) (hb hby own_d10_11) hr, hrun, hended, _, _, rfl, ?_, ⟨_, rfl⟩, hW, hsame.mono (by decide) (by decide)⟩
  exact ⟨_, _, _, rfl, N12, KK12, hb12, V12⟩
def own_QrmOF (Z : State) (wL : Addr) (h0 : Heap) (n0 : Nat) (v : Option Value) (h : Heap) (L : List Loc) : Prop := v = some (.ref wL) ∧ Fr n0 L ∧ h = h0
set_option maxRecDepth 65536 in
set_option maxHeartbeats 40000000 in
theorem rmOF (l : Launch) (Z : State) (a0 : Array Value) (hw : ∀ d ∈ tables_1, d.before a0 Z = true) (ws : List Jvm.Cond) (wL : Addr) (h0 : Heap) (n0 : Nat) (Z0 : n0 ≤ h0.size) (OL : Old Z n0 h0) (S_L : Sta Z Z.heap "java/util/ImmutableCollections" "EMPTY_LIST" "Ljava/util/ImmutableCollections$ListN;" (.ref wL)) :
    MetFree l (⟨"java/util/List", "of", "()Ljava/util/List;"⟩ : MethodName) (head1 (Jvm.Cond.code (⟨"java/util/List", "of", "()Ljava/util/List;"⟩ : MethodName) jdk_40_method_36_code 0 (some (.object "java/util/List")) :: ws) ({ frames := 0, cells := 0, slots := 0, locals := 0 } : Room)) (fun a U => a = #[] ∧ Z.Warmed39 U.vm ∧ U.heap = h0) (fun _ _ _ _ _ => True) (fun _ U o U' => ∃ v L, o = .returned v ∧ own_QrmOF Z wL h0 n0 v U'.heap L ∧ FrameEnd U o U' L ({ frames := 0, cells := 0, slots := 0, locals := 0 } : Room).cells ({ frames := 0, cells := 0, slots := 0, locals := 0 } : Room).slots) := by
  refine MetFree.of_bodySF (plainFor_of_name own_pn_java_util_List) hisR ?_
  intro p e s m args below meth c s₁ Bd hml0 hP hK
  obtain ⟨rfl, hZ, hh⟩ := hP
  have hx := Bd.exec
  have hby := Bd.bytes
  have hml : c.maxLocals = 0 := hml0
  have hown : s.vm.findClass "java/util/List" = some m.cls := findClass_of_methodNamed Bd.named
  have hnm := (name_of_methodNamed Bd.named Bd.method).1
  have X0 : Stand p l e ({ frames := 0, cells := 0, slots := 0, locals := 0 } : Room) s m #[] below meth c s₁ [] 0 0 := Stand.of_body Bd
  have e0 : s₁.heap = h0 := by rw [← hh, Bd.state]; rfl
  have N0 := Fr.nil n0
  refine own_adv (B := s₁.setTop (mkF m 0 #[] [])) (fun t k => castTop (own_ef_rmOF m) k) ?_
  obtain ⟨T10, X10, e10, st10⟩ := getS2 X0 hx hZ hown (host := "") (Or.inl (hw _ (List.mem_of_getElem? (i := 43) rfl))) Via.refl e0 (S_L.ext OL.2) (g := (mkF m 0 #[] [])) rfl (hb hby own_d7_0)
  refine own_adv (B := T10.setTop (mkF m 3 #[] [(.ref wL)])) st10 ?_
  obtain ⟨fs, hr, hrun, hended, hW, hsame⟩ := X10.leave (v := some (.ref wL)) (fun h => by rw [Bd.returns] at h; cases h)
  refine ⟨_, _, retOut X10 hx (t := (.object "java/util/List")) (i := .areturn) Bd.returns rfl (Or.inr (Or.inr (Or.inr (Or.inr ⟨rfl, rfl, rfl⟩)))) (hb hby own_d7_3) hr, hrun, hended, _, _, rfl, ?_, ⟨_, rfl⟩, hW, hsame.mono (by decide) (by decide)⟩
  exact ⟨rfl, N0, e10⟩
def own_QrmIE (Z : State) (wL wE : Addr) (kE : ClassId) (h0 : Heap) (n0 : Nat) (v : Option Value) (h : Heap) (L : List Loc) : Prop := v = some (.int 1) ∧ Fr n0 L ∧ h = h0
set_option maxRecDepth 65536 in
set_option maxHeartbeats 40000000 in
theorem rmIE (l : Launch) (Z : State) (a0 : Array Value) (hw : ∀ d ∈ tables_1, d.before a0 Z = true) (ws : List Jvm.Cond) (wL wE : Addr) (kE : ClassId) (h0 : Heap) (n0 : Nat) (Z0 : n0 ≤ h0.size) (OL : Old Z n0 h0) (FL : Fld Z Z.heap wL "java/util/ImmutableCollections$ListN" "elements" "[Ljava/lang/Object;" (.ref wE)) (VL : Arv Z Z.heap wE kE (.object "java/lang/Object") (0 : Int32) [] .null) :
    MetFree l (⟨"java/util/ImmutableCollections$ListN", "isEmpty", "()Z"⟩ : MethodName) (head1 (Jvm.Cond.code (⟨"java/util/ImmutableCollections$ListN", "isEmpty", "()Z"⟩ : MethodName) jdk_45_method_2_code 1 (some .boolean) :: ws) ({ frames := 0, cells := 0, slots := 0, locals := 0 } : Room)) (fun a U => a = #[(.ref wL)] ∧ Z.Warmed39 U.vm ∧ U.heap = h0) (fun _ _ _ _ _ => True) (fun _ U o U' => ∃ v L, o = .returned v ∧ own_QrmIE Z wL wE kE h0 n0 v U'.heap L ∧ FrameEnd U o U' L ({ frames := 0, cells := 0, slots := 0, locals := 0 } : Room).cells ({ frames := 0, cells := 0, slots := 0, locals := 0 } : Room).slots) := by
  refine MetFree.of_bodySF (plainFor_of_name own_pn_java_util_ImmutableCollections_ListN) hisR ?_
  intro p e s m args below meth c s₁ Bd hml0 hP hK
  obtain ⟨rfl, hZ, hh⟩ := hP
  have hx := Bd.exec
  have hby := Bd.bytes
  have hml : c.maxLocals = 1 := hml0
  have hown : s.vm.findClass "java/util/ImmutableCollections$ListN" = some m.cls := findClass_of_methodNamed Bd.named
  have hnm := (name_of_methodNamed Bd.named Bd.method).1
  have X0 : Stand p l e ({ frames := 0, cells := 0, slots := 0, locals := 0 } : Room) s m #[(.ref wL)] below meth c s₁ [] 0 0 := Stand.of_body Bd
  have e0 : s₁.heap = h0 := by rw [← hh, Bd.state]; rfl
  have N0 := Fr.nil n0
  refine own_adv (B := s₁.setTop (mkF m 0 #[.val (.ref wL)] [])) (fun t k => castTop (own_ef_rmIE m wL) k) ?_
  refine own_adv (B := s₁.setTop (mkF m 1 #[.val (.ref wL)] [(.ref wL)])) (fun t k => XS.aloadN X0.here hx rfl (hb hby own_d16_0) rfl rfl k) ?_
  obtain ⟨T10, X10, e10, st10⟩ := getF X0 hx hZ hown (host := "") (Or.inl (hw _ (List.mem_of_getElem? (i := 121) rfl))) Via.refl e0 (FL.ext OL.2) (g := (mkF m 1 #[.val (.ref wL)] [(.ref wL)])) rfl rfl (hb hby own_d16_1)
  refine own_adv (B := T10.setTop (mkF m 4 #[.val (.ref wL)] [(.ref wE)])) st10 ?_
  obtain ⟨cl11, Ar11, -, S11, Nn11, -, -⟩ := id ((VL.ext OL.2))
  refine own_adv (B := T10.setTop (mkF m 5 #[.val (.ref wL)] [(.int (0 : Int32))])) (fun t k => X10.arraylength hx (by rw [e10]; exact Ar11.1) (State.isArrayOf_alike hZ.alike Ar11.2.1) (g := (mkF m 4 #[.val (.ref wL)] [(.ref wE)])) rfl rfl (hb hby own_d16_4) _ (by rw [len_of S11 Nn11]; exact k)) ?_
  refine own_adv (B := T10.setTop (mkF m 8 #[.val (.ref wL)] [])) (fun t k => XS.ifNo X10.here hx rfl (hb hby own_d16_5) rfl ((if0 _ _).trans (teq (rfl : (0 : Int32) = (0 : Int32))).2) k) ?_
  refine own_adv (B := T10.setTop (mkF m 9 #[.val (.ref wL)] [(.int (1 : Int32))])) (fun t k => XS.iconst X10.here hx rfl (hb hby own_d16_8) k) ?_
  refine own_adv (B := T10.setTop (mkF m 13 #[.val (.ref wL)] [(.int (1 : Int32))])) (fun t k => XS.goto X10.here hx rfl (pc0 := 9) (pc' := 13) rfl (hb hby own_d16_9) (by decide) (by decide) k) ?_
  obtain ⟨fs, hr, hrun, hended, hW, hsame⟩ := X10.leave (v := some (.int (1 : Int32))) (fun h => by rw [Bd.returns] at h; cases h)
  refine ⟨_, _, retN X10 hx (t := .boolean) Bd.returns (by simp) (hb hby own_d16_13) hr, hrun, hended, _, _, rfl, ?_, ⟨_, rfl⟩, hW, hsame.mono (by decide) (by decide)⟩
  exact ⟨rfl, N0, e10⟩
def own_QrmDMI (Z : State) (a1 wL : Addr) (h0 : Heap) (n0 : Nat) (v : Option Value) (h : Heap) (L : List Loc) : Prop := v = none ∧ Fr n0 L ∧ Keep h0 h [a1] ∧ own_MS Z h a1 (.ref wL) (-1 : Int32) .null .null
set_option maxRecDepth 65536 in
set_option maxHeartbeats 40000000 in
theorem rmDMI (l : Launch) (Z : State) (a0 : Array Value) (hw : ∀ d ∈ tables_1, d.before a0 Z = true) (ws : List Jvm.Cond) (a1 wL : Addr) (h0 : Heap) (n0 : Nat) (Z0 : n0 ≤ h0.size) (OL : Old Z n0 h0) (S_L : Sta Z Z.heap "java/util/ImmutableCollections" "EMPTY_LIST" "Ljava/util/ImmutableCollections$ListN;" (.ref wL)) (MS : own_MS Z h0 a1 .null (0 : Int32) .null .null) (g1 : n0 ≤ a1) :
    MetFree l (⟨"jakarta/faces/model/DataModel", "<init>", "()V"⟩ : MethodName) (head1 (Jvm.Cond.code (⟨"jakarta/faces/model/DataModel", "<init>", "()V"⟩ : MethodName) prog_42_method_1_code 1 none :: ws) ({ frames := 1, cells := 0, slots := 0, locals := 13 } : Room)) (fun a U => a = #[(.ref a1)] ∧ Z.Warmed39 U.vm ∧ U.heap = h0) (fun _ _ _ _ _ => True) (fun _ U o U' => ∃ v L, o = .returned v ∧ own_QrmDMI Z a1 wL h0 n0 v U'.heap L ∧ FrameEnd U o U' L ({ frames := 1, cells := 0, slots := 0, locals := 13 } : Room).cells ({ frames := 1, cells := 0, slots := 0, locals := 13 } : Room).slots) := by
  refine MetFree.of_bodySF (plainFor_of_name own_pn_jakarta_faces_model_DataModel) hisR ?_
  intro p e s m args below meth c s₁ Bd hml0 hP hK
  obtain ⟨rfl, hZ, hh⟩ := hP
  have hx := Bd.exec
  have hby := Bd.bytes
  have hml : c.maxLocals = 1 := hml0
  have hown : s.vm.findClass "jakarta/faces/model/DataModel" = some m.cls := findClass_of_methodNamed Bd.named
  have hnm := (name_of_methodNamed Bd.named Bd.method).1
  have X0 : Stand p l e ({ frames := 1, cells := 0, slots := 0, locals := 13 } : Room) s m #[(.ref a1)] below meth c s₁ [] 0 0 := Stand.of_body Bd
  have e0 : s₁.heap = h0 := by rw [← hh, Bd.state]; rfl
  have N0 := Fr.nil n0
  refine own_adv (B := s₁.setTop (mkF m 0 #[.val (.ref a1)] [])) (fun t k => castTop (own_ef_rmDMI m a1) k) ?_
  have KK0 : Keep h0 h0 [a1] := Keep.refl h0 _
  obtain ⟨E1, FL1, FI1, FC1, FE1⟩ := MS
  refine own_adv (B := s₁.setTop (mkF m 1 #[.val (.ref a1)] [(.ref a1)])) (fun t k => XS.aloadN X0.here hx rfl (hb hby own_d6_0) rfl rfl k) ?_
  obtain ⟨T10, X10, e10, st10⟩ := initO X0 hx hZ hown (hw _ (List.mem_of_getElem? (i := 38) rfl)) (hw _ (List.mem_of_getElem? (i := 20) rfl)) (hw _ (List.mem_of_getElem? (i := 21) rfl)) e0 (g := (mkF m 1 #[.val (.ref a1)] [(.ref a1)])) rfl (by rw [hml]; rfl) rfl (hb hby own_d6_1) (by decide) (W := 0) (by show 2 * 0 + _ ≤ _; exact Nat.le_of_eq rfl) (by decide)
  refine own_adv (B := T10.setTop (mkF m 4 #[.val (.ref a1)] [])) st10 ?_
  refine own_adv (B := T10.setTop (mkF m 5 #[.val (.ref a1)] [(.ref a1)])) (fun t k => XS.aloadN X10.here hx rfl (hb hby own_d6_4) rfl rfl k) ?_
  obtain ⟨_, _, ⟨T11, L11, k11, n11⟩, -, X11, ⟨Lc11, hQ11, l11, y11, z11⟩, st11⟩ := Jvm.LawKit.callS X10 hx (y := (⟨"java/util/List", "of", "()Ljava/util/List;"⟩ : MethodName)) hown (mvT hZ (hw _ (List.mem_of_getElem? (i := 39) rfl))) (mvT hZ (hw _ (List.mem_of_getElem? (i := 40) rfl))) (mvT hZ (hw _ (List.mem_of_getElem? (i := 41) rfl))) (mvT hZ (hw _ (List.mem_of_getElem? (i := 42) rfl))) (by decide) (backOf (W := 1) (rmOF l Z a0 hw [] wL h0 n0 Z0 OL S_L) hZ (hw _ (List.mem_of_getElem? (i := 42) rfl)) (hw _ (List.mem_of_getElem? (i := 41) rfl)) (by decide) (by decide)) (g := (mkF m 5 #[.val (.ref a1)] [(.ref a1)])) rfl (by rw [hml]; rfl) (argsL := []) (rest := [(.ref a1)]) (lenOf own_pd___Ljava_util_List_ rfl) rfl (by show 2 * 0 + _ ≤ _; exact Nat.le_of_eq rfl) (hb hby own_d6_5) (fun _ _ => ⟨rfl, e10, (by decide : 0 + 0 ≤ _), (by decide : 0 + 0 ≤ _)⟩)
  dsimp only [Pt.U, Pt.locs, Pt.cells, Pt.slots] at X11 l11 y11 z11 st11 hQ11
  subst l11 y11 z11
  obtain ⟨rfl, N11q, e11⟩ := hQ11
  have N11 := Fr.app N0 N11q
  refine own_adv (B := T11.setTop (mkF m 8 #[.val (.ref a1)] [(.ref wL), (.ref a1)])) (fun t k => st11 t k) ?_
  obtain ⟨T12, h12, X12, e12, W12, st12⟩ := putF X11 hx hZ hown (host := "") (Or.inl (hw _ (List.mem_of_getElem? (i := 45) rfl))) Via.refl e11 FL1 E1 (Or.inl (hw _ (List.mem_of_getElem? (i := 46) rfl))) (hw _ (List.mem_of_getElem? (i := 28) rfl)) (ty := (.object "java/util/List")) (by decide) rfl rfl (g := (mkF m 8 #[.val (.ref a1)] [(.ref wL), (.ref a1)])) rfl rfl (hb hby own_d6_8)
  subst e12
  have N12 := Fr.snoc X12 N11 g1
  have OL_12 : Old Z n0 T12.heap := Old.keep OL (Keep.of_wr W12) (allS g1 all0)
  have E_a1_12 : Exa Z T12.heap a1 "jakarta/faces/model/CollectionDataModel" := Exa.keep E1 (Keep.of_wr W12)
  have F_listeners_a1_12 : Fld Z T12.heap a1 "jakarta/faces/model/DataModel" "listeners" "Ljava/util/List;" (.ref wL) := Fld.same W12 FL1
  have F_index_a1_12 : Fld Z T12.heap a1 "jakarta/faces/model/DataModel" "index" "I" (.int (0 : Int32)) := Fld.other W12 FI1 (Or.inr (slot_ne (Or.inl (hw _ (List.mem_of_getElem? (i := 48) rfl))) (Or.inl (hw _ (List.mem_of_getElem? (i := 46) rfl))) (by decide) (t := .int) (t' := (.object "java/util/List")) (by decide) (by decide)))
  have F_collection_a1_12 : Fld Z T12.heap a1 "jakarta/faces/model/CollectionDataModel" "collection" "Ljava/util/Collection;" .null := Fld.other W12 FC1 (Or.inr (slot_ne (Or.inl (hw _ (List.mem_of_getElem? (i := 55) rfl))) (Or.inl (hw _ (List.mem_of_getElem? (i := 46) rfl))) (by decide) (t := (.object "java/util/Collection")) (t' := (.object "java/util/List")) (by decide) (by decide)))
  have F_elements_a1_12 : Fld Z T12.heap a1 "jakarta/faces/model/CollectionDataModel" "elements" "[Ljava/lang/Object;" .null := Fld.other W12 FE1 (Or.inr (slot_ne (Or.inl (hw _ (List.mem_of_getElem? (i := 98) rfl))) (Or.inl (hw _ (List.mem_of_getElem? (i := 46) rfl))) (by decide) (t := (.array (.object "java/lang/Object"))) (t' := (.object "java/util/List")) (by decide) (by decide)))
  have KK12 : Keep h0 T12.heap [a1] := KK0.wr W12 (Or.inl (List.mem_of_getElem? (i := 0) rfl))
  refine own_adv (B := T12.setTop (mkF m 11 #[.val (.ref a1)] [])) st12 ?_
  refine own_adv (B := T12.setTop (mkF m 12 #[.val (.ref a1)] [(.ref a1)])) (fun t k => XS.aloadN X12.here hx rfl (hb hby own_d6_11) rfl rfl k) ?_
  refine own_adv (B := T12.setTop (mkF m 13 #[.val (.ref a1)] [(.int (-1 : Int32)), (.ref a1)])) (fun t k => XS.iconst X12.here hx rfl (hb hby own_d6_12) k) ?_
  obtain ⟨T13, h13, X13, e13, W13, st13⟩ := putF X12 hx hZ hown (host := "") (Or.inl (hw _ (List.mem_of_getElem? (i := 47) rfl))) Via.refl rfl F_index_a1_12 E_a1_12 (Or.inl (hw _ (List.mem_of_getElem? (i := 48) rfl))) (hw _ (List.mem_of_getElem? (i := 28) rfl)) (ty := .int) (by decide) rfl rfl (g := (mkF m 13 #[.val (.ref a1)] [(.int (-1 : Int32)), (.ref a1)])) rfl rfl (hb hby own_d6_13)
  subst e13
  have N13 := Fr.snoc X13 N12 g1
  have OL_13 : Old Z n0 T13.heap := Old.keep OL_12 (Keep.of_wr W13) (allS g1 all0)
  have E_a1_13 : Exa Z T13.heap a1 "jakarta/faces/model/CollectionDataModel" := Exa.keep E_a1_12 (Keep.of_wr W13)
  have F_listeners_a1_13 : Fld Z T13.heap a1 "jakarta/faces/model/DataModel" "listeners" "Ljava/util/List;" (.ref wL) := Fld.other W13 F_listeners_a1_12 (Or.inr (slot_ne (Or.inl (hw _ (List.mem_of_getElem? (i := 46) rfl))) (Or.inl (hw _ (List.mem_of_getElem? (i := 48) rfl))) (by decide) (t := (.object "java/util/List")) (t' := .int) (by decide) (by decide)))
  have F_index_a1_13 : Fld Z T13.heap a1 "jakarta/faces/model/DataModel" "index" "I" (.int (-1 : Int32)) := Fld.same W13 F_index_a1_12
  have F_collection_a1_13 : Fld Z T13.heap a1 "jakarta/faces/model/CollectionDataModel" "collection" "Ljava/util/Collection;" .null := Fld.other W13 F_collection_a1_12 (Or.inr (slot_ne (Or.inl (hw _ (List.mem_of_getElem? (i := 55) rfl))) (Or.inl (hw _ (List.mem_of_getElem? (i := 48) rfl))) (by decide) (t := (.object "java/util/Collection")) (t' := .int) (by decide) (by decide)))
  have F_elements_a1_13 : Fld Z T13.heap a1 "jakarta/faces/model/CollectionDataModel" "elements" "[Ljava/lang/Object;" .null := Fld.other W13 F_elements_a1_12 (Or.inr (slot_ne (Or.inl (hw _ (List.mem_of_getElem? (i := 98) rfl))) (Or.inl (hw _ (List.mem_of_getElem? (i := 48) rfl))) (by decide) (t := (.array (.object "java/lang/Object"))) (t' := .int) (by decide) (by decide)))
  have KK13 : Keep h0 T13.heap [a1] := KK12.wr W13 (Or.inl (List.mem_of_getElem? (i := 0) rfl))
  refine own_adv (B := T13.setTop (mkF m 16 #[.val (.ref a1)] [])) st13 ?_
  obtain ⟨fs, hr, hrun, hended, hW, hsame⟩ := X13.leave (v := none) (fun _ => rfl)
  refine ⟨_, _, X13.returnOut hx Bd.returns (hb hby own_d6_16) hr, hrun, hended, _, _, rfl, ?_, ⟨_, rfl⟩, hW, hsame.mono (by decide) (by decide)⟩
  exact ⟨rfl, N13, KK13, ⟨E_a1_13, F_listeners_a1_13, F_index_a1_13, F_collection_a1_13, F_elements_a1_13⟩⟩
def own_QrmCDI (Z : State) (a1 wL : Addr) (h0 : Heap) (n0 : Nat) (v : Option Value) (h : Heap) (L : List Loc) : Prop := v = none ∧ Fr n0 L ∧ Keep h0 h [a1] ∧ own_MS Z h a1 (.ref wL) (-1 : Int32) .null .null
set_option maxRecDepth 65536 in
set_option maxHeartbeats 40000000 in
theorem rmCDI (l : Launch) (Z : State) (a0 : Array Value) (hw : ∀ d ∈ tables_1, d.before a0 Z = true) (ws : List Jvm.Cond) (a1 wL : Addr) (h0 : Heap) (n0 : Nat) (Z0 : n0 ≤ h0.size) (OL : Old Z n0 h0) (S_L : Sta Z Z.heap "java/util/ImmutableCollections" "EMPTY_LIST" "Ljava/util/ImmutableCollections$ListN;" (.ref wL)) (MS : own_MS Z h0 a1 .null (0 : Int32) .null .null) (g1 : n0 ≤ a1) :
    MetFree l (⟨"jakarta/faces/model/CollectionDataModel", "<init>", "()V"⟩ : MethodName) (head1 (Jvm.Cond.code (⟨"jakarta/faces/model/CollectionDataModel", "<init>", "()V"⟩ : MethodName) prog_40_method_1_code 1 none :: ws) ({ frames := 2, cells := 0, slots := 0, locals := 25 } : Room)) (fun a U => a = #[(.ref a1)] ∧ Z.Warmed39 U.vm ∧ U.heap = h0) (fun _ _ _ _ _ => True) (fun _ U o U' => ∃ v L, o = .returned v ∧ own_QrmCDI Z a1 wL h0 n0 v U'.heap L ∧ FrameEnd U o U' L ({ frames := 2, cells := 0, slots := 0, locals := 25 } : Room).cells ({ frames := 2, cells := 0, slots := 0, locals := 25 } : Room).slots) := by
  refine MetFree.of_bodySF (plainFor_of_name own_pn_jakarta_faces_model_CollectionDataModel) hisR ?_
  intro p e s m args below meth c s₁ Bd hml0 hP hK
  obtain ⟨rfl, hZ, hh⟩ := hP
  have hx := Bd.exec
  have hby := Bd.bytes
  have hml : c.maxLocals = 1 := hml0
  have hown : s.vm.findClass "jakarta/faces/model/CollectionDataModel" = some m.cls := findClass_of_methodNamed Bd.named
  have hnm := (name_of_methodNamed Bd.named Bd.method).1
  have X0 : Stand p l e ({ frames := 2, cells := 0, slots := 0, locals := 25 } : Room) s m #[(.ref a1)] below meth c s₁ [] 0 0 := Stand.of_body Bd
  have e0 : s₁.heap = h0 := by rw [← hh, Bd.state]; rfl
  have N0 := Fr.nil n0
  refine own_adv (B := s₁.setTop (mkF m 0 #[.val (.ref a1)] [])) (fun t k => castTop (own_ef_rmCDI m a1) k) ?_
  have KK0 : Keep h0 h0 [a1] := Keep.refl h0 _
  refine own_adv (B := s₁.setTop (mkF m 1 #[.val (.ref a1)] [(.ref a1)])) (fun t k => XS.aloadN X0.here hx rfl (hb hby own_d5_0) rfl rfl k) ?_
  obtain ⟨_, _, ⟨T10, L10, k10, n10⟩, -, X10, ⟨Lc10, hQ10, l10, y10, z10⟩, st10⟩ := X0.specialBack hx (y := (⟨"jakarta/faces/model/DataModel", "<init>", "()V"⟩ : MethodName)) rfl hown (mvT hZ (hw _ (List.mem_of_getElem? (i := 33) rfl))) (mvT hZ (hw _ (List.mem_of_getElem? (i := 34) rfl))) (mvT hZ (hw _ (List.mem_of_getElem? (i := 37) rfl))) (by decide) (backOf (W := 0) (rmDMI l Z a0 hw [] a1 wL h0 n0 Z0 OL S_L MS g1) hZ (hw _ (List.mem_of_getElem? (i := 37) rfl)) (hw _ (List.mem_of_getElem? (i := 36) rfl)) (by decide) (by decide)) (g := (mkF m 1 #[.val (.ref a1)] [(.ref a1)])) rfl (by rw [hml]; rfl) (Steps.refl _) (a := a1) (argsL := []) (rest := []) (lenOf own_pd___V rfl) rfl (by show 2 * 0 + _ ≤ _; exact Nat.le_of_eq rfl) (hb hby own_d5_1) (fun _ _ => ⟨rfl, e0, (by decide : 0 + 0 ≤ _), (by decide : 0 + 0 ≤ _)⟩)
  dsimp only [Pt.U, Pt.locs, Pt.cells, Pt.slots] at X10 l10 y10 z10 st10 hQ10
  subst l10 y10 z10
  obtain ⟨rfl, N10q, K10, MS10⟩ := hQ10
  have N10 := Fr.app N0 N10q
  have KK10 : Keep h0 T10.heap [a1] := KK0.trans K10 (allS (Or.inl (List.mem_of_getElem? (i := 0) rfl)) all0)
  refine own_adv (B := T10.setTop (mkF m 4 #[.val (.ref a1)] [])) (fun t k => st10.trans k) ?_
  obtain ⟨fs, hr, hrun, hended, hW, hsame⟩ := X10.leave (v := none) (fun _ => rfl)
  refine ⟨_, _, X10.returnOut hx Bd.returns (hb hby own_d5_4) hr, hrun, hended, _, _, rfl, ?_, ⟨_, rfl⟩, hW, hsame.mono (by decide) (by decide)⟩
  exact ⟨rfl, N10, KK10, MS10⟩
def own_QrmRC0 (Z : State) (a1 : Addr) (lv ev : Value) (ix : Int32) (h0 : Heap) (n0 : Nat) (v : Option Value) (h : Heap) (L : List Loc) : Prop := v = some (.int (-1)) ∧ Fr n0 L ∧ h = h0
set_option maxRecDepth 65536 in
set_option maxHeartbeats 40000000 in
theorem rmRC0 (l : Launch) (Z : State) (a0 : Array Value) (hw : ∀ d ∈ tables_1, d.before a0 Z = true) (ws : List Jvm.Cond) (a1 : Addr) (lv ev : Value) (ix : Int32) (h0 : Heap) (n0 : Nat) (Z0 : n0 ≤ h0.size) (MS : own_MS Z h0 a1 lv ix .null ev) :
    MetFree l (⟨"jakarta/faces/model/CollectionDataModel", "getRowCount", "()I"⟩ : MethodName) (head1 (Jvm.Cond.code (⟨"jakarta/faces/model/CollectionDataModel", "getRowCount", "()I"⟩ : MethodName) prog_40_method_3_code 1 (some .int) :: ws) ({ frames := 0, cells := 0, slots := 0, locals := 0 } : Room)) (fun a U => a = #[(.ref a1)] ∧ Z.Warmed39 U.vm ∧ U.heap = h0) (fun _ _ _ _ _ => True) (fun _ U o U' => ∃ v L, o = .returned v ∧ own_QrmRC0 Z a1 lv ev ix h0 n0 v U'.heap L ∧ FrameEnd U o U' L ({ frames := 0, cells := 0, slots := 0, locals := 0 } : Room).cells ({ frames := 0, cells := 0, slots := 0, locals := 0 } : Room).slots) := by
  refine MetFree.of_bodySF (plainFor_of_name own_pn_jakarta_faces_model_CollectionDataModel) hisR ?_
  intro p e s m args below meth c s₁ Bd hml0 hP hK
  obtain ⟨rfl, hZ, hh⟩ := hP
  have hx := Bd.exec
  have hby := Bd.bytes
  have hml : c.maxLocals = 1 := hml0
  have hown : s.vm.findClass "jakarta/faces/model/CollectionDataModel" = some m.cls := findClass_of_methodNamed Bd.named
  have hnm := (name_of_methodNamed Bd.named Bd.method).1
  have X0 : Stand p l e ({ frames := 0, cells := 0, slots := 0, locals := 0 } : Room) s m #[(.ref a1)] below meth c s₁ [] 0 0 := Stand.of_body Bd
  have e0 : s₁.heap = h0 := by rw [← hh, Bd.state]; rfl
  have N0 := Fr.nil n0
  refine own_adv (B := s₁.setTop (mkF m 0 #[.val (.ref a1)] [])) (fun t k => castTop (own_ef_rmRC0 m a1) k) ?_
  obtain ⟨E1, FL1, FI1, FC1, FE1⟩ := MS
  refine own_adv (B := s₁.setTop (mkF m 1 #[.val (.ref a1)] [(.ref a1)])) (fun t k => XS.aloadN X0.here hx rfl (hb hby own_d8_0) rfl rfl k) ?_
  obtain ⟨T10, X10, e10, st10⟩ := getF X0 hx hZ hown (host := "") (Or.inl (hw _ (List.mem_of_getElem? (i := 54) rfl))) Via.refl e0 FC1 (g := (mkF m 1 #[.val (.ref a1)] [(.ref a1)])) rfl rfl (hb hby own_d8_1)
  refine own_adv (B := T10.setTop (mkF m 4 #[.val (.ref a1)] [.null])) st10 ?_
  refine own_adv (B := T10.setTop (mkF m 7 #[.val (.ref a1)] [])) (fun t k => XS.ifnonnullNo X10.here hx rfl (hb hby own_d8_4) rfl k) ?_
  refine own_adv (B := T10.setTop (mkF m 8 #[.val (.ref a1)] [(.int (-1 : Int32))])) (fun t k => XS.iconst X10.here hx rfl (hb hby own_d8_7) k) ?_
  refine own_adv (B := T10.setTop (mkF m 16 #[.val (.ref a1)] [(.int (-1 : Int32))])) (fun t k => XS.goto X10.here hx rfl (pc0 := 8) (pc' := 16) rfl (hb hby own_d8_8) (by decide) (by decide) k) ?_
  obtain ⟨fs, hr, hrun, hended, hW, hsame⟩ := X10.leave (v := some (.int (-1 : Int32))) (fun h => by rw [Bd.returns] at h; cases h)
  refine ⟨_, _, retOut X10 hx (t := .int) (i := .ireturn) Bd.returns rfl (Or.inl ⟨rfl, Or.inl rfl, _, rfl⟩) (hb hby own_d8_16) hr, hrun, hended, _, _, rfl, ?_, ⟨_, rfl⟩, hW, hsame.mono (by decide) (by decide)⟩
  exact ⟨rfl, N0, e10⟩
def own_QrmRC1 (Z : State) (a1 a2 c1 : Addr) (lv : Value) (ix z1 : Int32) (k1 : ClassId) (us : List Value) (h0 : Heap) (n0 : Nat) (v : Option Value) (h : Heap) (L : List Loc) : Prop := v = some (.int z1) ∧ Fr n0 L ∧ h = h0
set_option maxRecDepth 65536 in
set_option maxHeartbeats 40000000 in
theorem rmRC1 (l : Launch) (Z : State) (a0 : Array Value) (hw : ∀ d ∈ tables_1, d.before a0 Z = true) (ws : List Jvm.Cond) (a1 a2 c1 : Addr) (lv : Value) (ix z1 : Int32) (k1 : ClassId) (us : List Value) (h0 : Heap) (n0 : Nat) (Z0 : n0 ≤ h0.size) (MS : own_MS Z h0 a1 lv ix (.ref a2) (.ref c1)) (VC : Arv Z h0 c1 k1 (.object "java/lang/Object") z1 us .null) :
    MetFree l (⟨"jakarta/faces/model/CollectionDataModel", "getRowCount", "()I"⟩ : MethodName) (head1 (Jvm.Cond.code (⟨"jakarta/faces/model/CollectionDataModel", "getRowCount", "()I"⟩ : MethodName) prog_40_method_3_code 1 (some .int) :: ws) ({ frames := 0, cells := 0, slots := 0, locals := 0 } : Room)) (fun a U => a = #[(.ref a1)] ∧ Z.Warmed39 U.vm ∧ U.heap = h0) (fun _ _ _ _ _ => True) (fun _ U o U' => ∃ v L, o = .returned v ∧ own_QrmRC1 Z a1 a2 c1 lv ix z1 k1 us h0 n0 v U'.heap L ∧ FrameEnd U o U' L ({ frames := 0, cells := 0, slots := 0, locals := 0 } : Room).cells ({ frames := 0, cells := 0, slots := 0, locals := 0 } : Room).slots) := by
  refine MetFree.of_bodySF (plainFor_of_name own_pn_jakarta_faces_model_CollectionDataModel) hisR ?_
  intro p e s m args below meth c s₁ Bd hml0 hP hK
  obtain ⟨rfl, hZ, hh⟩ := hP
  have hx := Bd.exec
  have hby := Bd.bytes
  have hml : c.maxLocals = 1 := hml0
  have hown : s.vm.findClass "jakarta/faces/model/CollectionDataModel" = some m.cls := findClass_of_methodNamed Bd.named
  have hnm := (name_of_methodNamed Bd.named Bd.method).1
  have X0 : Stand p l e ({ frames := 0, cells := 0, slots := 0, locals := 0 } : Room) s m #[(.ref a1)] below meth c s₁ [] 0 0 := Stand.of_body Bd
  have e0 : s₁.heap = h0 := by rw [← hh, Bd.state]; rfl
  have N0 := Fr.nil n0
  refine own_adv (B := s₁.setTop (mkF m 0 #[.val (.ref a1)] [])) (fun t k => castTop (own_ef_rmRC1 m a1) k) ?_
  obtain ⟨E1, FL1, FI1, FC1, FE1⟩ := MS
  refine own_adv (B := s₁.setTop (mkF m 1 #[.val (.ref a1)] [(.ref a1)])) (fun t k => XS.aloadN X0.here hx rfl (hb hby own_d8_0) rfl rfl k) ?_
  obtain ⟨T10, X10, e10, st10⟩ := getF X0 hx hZ hown (host := "") (Or.inl (hw _ (List.mem_of_getElem? (i := 54) rfl))) Via.refl e0 FC1 (g := (mkF m 1 #[.val (.ref a1)] [(.ref a1)])) rfl rfl (hb hby own_d8_1)
  refine own_adv (B := T10.setTop (mkF m 4 #[.val (.ref a1)] [(.ref a2)])) st10 ?_
  refine own_adv (B := T10.setTop (mkF m 11 #[.val (.ref a1)] [])) (fun t k => XS.ifnonnullYes X10.here hx rfl (pc0 := 4) (pc' := 11) rfl (hb hby own_d8_4) rfl (by decide) (by decide) k) ?_
  refine own_adv (B := T10.setTop (mkF m 12 #[.val (.ref a1)] [(.ref a1)])) (fun t k => XS.aloadN X10.here hx rfl (hb hby own_d8_11) rfl rfl k) ?_
  obtain ⟨T11, X11, e11, st11⟩ := getF X10 hx hZ hown (host := "") (Or.inl (hw _ (List.mem_of_getElem? (i := 97) rfl))) Via.refl e10 FE1 (g := (mkF m 12 #[.val (.ref a1)] [(.ref a1)])) rfl rfl (hb hby own_d8_12)
  refine own_adv (B := T11.setTop (mkF m 15 #[.val (.ref a1)] [(.ref c1)])) st11 ?_
  obtain ⟨cl12, Ar12, -, S12, Nn12, -, -⟩ := id (VC)
  refine own_adv (B := T11.setTop (mkF m 16 #[.val (.ref a1)] [(.int z1)])) (fun t k => X11.arraylength hx (by rw [e11]; exact Ar12.1) (State.isArrayOf_alike hZ.alike Ar12.2.1) (g := (mkF m 15 #[.val (.ref a1)] [(.ref c1)])) rfl rfl (hb hby own_d8_15) _ (by rw [len_of S12 Nn12]; exact k)) ?_
  obtain ⟨fs, hr, hrun, hended, hW, hsame⟩ := X11.leave (v := some (.int z1)) (fun h => by rw [Bd.returns] at h; cases h)
  refine ⟨_, _, retOut X11 hx (t := .int) (i := .ireturn) Bd.returns rfl (Or.inl ⟨rfl, Or.inl rfl, _, rfl⟩) (hb hby own_d8_16) hr, hrun, hended, _, _, rfl, ?_, ⟨_, rfl⟩, hW, hsame.mono (by decide) (by decide)⟩
  exact ⟨rfl, N0, e11⟩
def own_QrmCR (Z : State) (a1 : Addr) (lv cv ev : Value) (ix : Int32) (h0 : Heap) (n0 : Nat) (v : Option Value) (h : Heap) (L : List Loc) : Prop := v = none ∧ Fr n0 L ∧ Keep h0 h [a1] ∧ own_MS Z h a1 lv (-1 : Int32) cv ev
set_option maxRecDepth 65536 in
set_option maxHeartbeats 40000000 in
theorem rmCR (l : Launch) (Z : State) (a0 : Array Value) (hw : ∀ d ∈ tables_1, d.before a0 Z = true) (ws : List Jvm.Cond) (a1 : Addr) (lv cv ev : Value) (ix : Int32) (h0 : Heap) (n0 : Nat) (Z0 : n0 ≤ h0.size) (MS : own_MS Z h0 a1 lv ix cv ev) (g1 : n0 ≤ a1) :
    MetFree l (⟨"jakarta/faces/model/DataModel", "clearRow", "()V"⟩ : MethodName) (head1 (Jvm.Cond.code (⟨"jakarta/faces/model/DataModel", "clearRow", "()V"⟩ : MethodName) prog_42_method_16_code 1 none :: ws) ({ frames := 0, cells := 0, slots := 0, locals := 0 } : Room)) (fun a U => a = #[(.ref a1)] ∧ Z.Warmed39 U.vm ∧ U.heap = h0) (fun _ _ _ _ _ => True) (fun _ U o U' => ∃ v L, o = .returned v ∧ own_QrmCR Z a1 lv cv ev ix h0 n0 v U'.heap L ∧ FrameEnd U o U' L ({ frames := 0, cells := 0, slots := 0, locals := 0 } : Room).cells ({ frames := 0, cells := 0, slots := 0, locals := 0 } : Room).slots) := by
  refine MetFree.of_bodySF (plainFor_of_name own_pn_jakarta_faces_model_DataModel) hisR ?_
  intro p e s m args below meth c s₁ Bd hml0 hP hK
  obtain ⟨rfl, hZ, hh⟩ := hP
  have hx := Bd.exec
  have hby := Bd.bytes
  have hml : c.maxLocals = 1 := hml0
  have hown : s.vm.findClass "jakarta/faces/model/DataModel" = some m.cls := findClass_of_methodNamed Bd.named
  have hnm := (name_of_methodNamed Bd.named Bd.method).1
  have X0 : Stand p l e ({ frames := 0, cells := 0, slots := 0, locals := 0 } : Room) s m #[(.ref a1)] below meth c s₁ [] 0 0 := Stand.of_body Bd
  have e0 : s₁.heap = h0 := by rw [← hh, Bd.state]; rfl
  have N0 := Fr.nil n0
  refine own_adv (B := s₁.setTop (mkF m 0 #[.val (.ref a1)] [])) (fun t k => castTop (own_ef_rmCR m a1) k) ?_
  have KK0 : Keep h0 h0 [a1] := Keep.refl h0 _
  obtain ⟨E1, FL1, FI1, FC1, FE1⟩ := MS
  refine own_adv (B := s₁.setTop (mkF m 1 #[.val (.ref a1)] [(.ref a1)])) (fun t k => XS.aloadN X0.here hx rfl (hb hby own_d14_0) rfl rfl k) ?_
  refine own_adv (B := s₁.setTop (mkF m 2 #[.val (.ref a1)] [(.int (-1 : Int32)), (.ref a1)])) (fun t k => XS.iconst X0.here hx rfl (hb hby own_d14_1) k) ?_
  obtain ⟨T10, h10, X10, e10, W10, st10⟩ := putF X0 hx hZ hown (host := "") (Or.inl (hw _ (List.mem_of_getElem? (i := 47) rfl))) Via.refl e0 FI1 E1 (Or.inl (hw _ (List.mem_of_getElem? (i := 48) rfl))) (hw _ (List.mem_of_getElem? (i := 28) rfl)) (ty := .int) (by decide) rfl rfl (g := (mkF m 2 #[.val (.ref a1)] [(.int (-1 : Int32)), (.ref a1)])) rfl rfl (hb hby own_d14_2)
  subst e10
  have N10 := Fr.snoc X10 N0 g1
  have E_a1_10 : Exa Z T10.heap a1 "jakarta/faces/model/CollectionDataModel" := Exa.keep E1 (Keep.of_wr W10)
  have F_listeners_a1_10 : Fld Z T10.heap a1 "jakarta/faces/model/DataModel" "listeners" "Ljava/util/List;" lv := Fld.other W10 FL1 (Or.inr (slot_ne (Or.inl (hw _ (List.mem_of_getElem? (i := 46) rfl))) (Or.inl (hw _ (List.mem_of_getElem? (i := 48) rfl))) (by decide) (t := (.object "java/util/List")) (t' := .int) (by decide) (by decide)))
  have F_index_a1_10 : Fld Z T10.heap a1 "jakarta/faces/model/DataModel" "index" "I" (.int (-1 : Int32)) := Fld.same W10 FI1
  have F_collection_a1_10 : Fld Z T10.heap a1 "jakarta/faces/model/CollectionDataModel" "collection" "Ljava/util/Collection;" cv := Fld.other W10 FC1 (Or.inr (slot_ne (Or.inl (hw _ (List.mem_of_getElem? (i := 55) rfl))) (Or.inl (hw _ (List.mem_of_getElem? (i := 48) rfl))) (by decide) (t := (.object "java/util/Collection")) (t' := .int) (by decide) (by decide)))
  have F_elements_a1_10 : Fld Z T10.heap a1 "jakarta/faces/model/CollectionDataModel" "elements" "[Ljava/lang/Object;" ev := Fld.other W10 FE1 (Or.inr (slot_ne (Or.inl (hw _ (List.mem_of_getElem? (i := 98) rfl))) (Or.inl (hw _ (List.mem_of_getElem? (i := 48) rfl))) (by decide) (t := (.array (.object "java/lang/Object"))) (t' := .int) (by decide) (by decide)))
  have KK10 : Keep h0 T10.heap [a1] := KK0.wr W10 (Or.inl (List.mem_of_getElem? (i := 0) rfl))
  refine own_adv (B := T10.setTop (mkF m 5 #[.val (.ref a1)] [])) st10 ?_
  obtain ⟨fs, hr, hrun, hended, hW, hsame⟩ := X10.leave (v := none) (fun _ => rfl)
  refine ⟨_, _, X10.returnOut hx Bd.returns (hb hby own_d14_5) hr, hrun, hended, _, _, rfl, ?_, ⟨_, rfl⟩, hW, hsame.mono (by decide) (by decide)⟩
  exact ⟨rfl, N10, KK10, ⟨E_a1_10, F_listeners_a1_10, F_index_a1_10, F_collection_a1_10, F_elements_a1_10⟩⟩
def own_QrmSR (Z : State) (a1 wL wE : Addr) (kE : ClassId) (p1 p2 ix : Int32) (cv ev : Value) (h0 : Heap) (n0 : Nat) (v : Option Value) (h : Heap) (L : List Loc) : Prop := v = none ∧ Fr n0 L ∧ Keep h0 h [a1] ∧ own_MS Z h a1 (.ref wL) p1 cv ev
set_option maxRecDepth 65536 in
set_option maxHeartbeats 40000000 in
theorem rmSR (l : Launch) (Z : State) (a0 : Array Value) (hw : ∀ d ∈ tables_1, d.before a0 Z = true) (ws : List Jvm.Cond) (a1 wL wE : Addr) (kE : ClassId) (p1 p2 ix : Int32) (cv ev : Value) (h0 : Heap) (n0 : Nat) (Z0 : n0 ≤ h0.size) (OL : Old Z n0 h0) (EL : Exa Z Z.heap wL "java/util/ImmutableCollections$ListN") (FL : Fld Z Z.heap wL "java/util/ImmutableCollections$ListN" "elements" "[Ljava/lang/Object;" (.ref wE)) (VL : Arv Z Z.heap wE kE (.object "java/lang/Object") (0 : Int32) [] .null) (MS : own_MS Z h0 a1 (.ref wL) ix cv ev) (g1 : n0 ≤ a1) (hp : ¬ p1 < (-1 : Int32)) :
    MetFree l (⟨"jakarta/faces/model/DataModel", "selectRow", "(IZ)V"⟩ : MethodName) (head1 (Jvm.Cond.code (⟨"jakarta/faces/model/DataModel", "selectRow", "(IZ)V"⟩ : MethodName) prog_42_method_14_code 7 none :: ws) ({ frames := 1, cells := 0, slots := 0, locals := 12 } : Room)) (fun a U => a = #[(.ref a1), (.int p1), (.int p2)] ∧ Z.Warmed39 U.vm ∧ U.heap = h0) (fun _ _ _ _ _ => True) (fun _ U o U' => ∃ v L, o = .returned v ∧ own_QrmSR Z a1 wL wE kE p1 p2 ix cv ev h0 n0 v U'.heap L ∧ FrameEnd U o U' L ({ frames := 1, cells := 0, slots := 0, locals := 12 } : Room).cells ({ frames := 1, cells := 0, slots := 0, locals := 12 } : Room).slots) := by
  refine MetFree.of_bodySF (plainFor_of_name own_pn_jakarta_faces_model_DataModel) hisR ?_
  intro p e s m args below meth c s₁ Bd hml0 hP hK
  obtain ⟨rfl, hZ, hh⟩ := hP
  have hx := Bd.exec
  have hby := Bd.bytes
  have hml : c.maxLocals = 7 := hml0
  have hown : s.vm.findClass "jakarta/faces/model/DataModel" = some m.cls := findClass_of_methodNamed Bd.named
  have hnm := (name_of_methodNamed Bd.named Bd.method).1
  have X0 : Stand p l e ({ frames := 1, cells := 0, slots := 0, locals := 12 } : Room) s m #[(.ref a1), (.int p1), (.int p2)] below meth c s₁ [] 0 0 := Stand.of_body Bd
  have e0 : s₁.heap = h0 := by rw [← hh, Bd.state]; rfl
  have N0 := Fr.nil n0
  refine own_adv (B := s₁.setTop (mkF m 0 #[.val (.ref a1), .val (.int p1), .val (.int p2), .unset, .unset, .unset, .unset] [])) (fun t k => castTop (own_ef_rmSR m a1 p1 p2) k) ?_
  have KK0 : Keep h0 h0 [a1] := Keep.refl h0 _
  obtain ⟨E1, FL1, FI1, FC1, FE1⟩ := MS
  refine own_adv (B := s₁.setTop (mkF m 1 #[.val (.ref a1), .val (.int p1), .val (.int p2), .unset, .unset, .unset, .unset] [(.int p1)])) (fun t k => XS.iloadN X0.here hx rfl (hb hby own_d15_0) rfl k) ?_
  refine own_adv (B := s₁.setTop (mkF m 2 #[.val (.ref a1), .val (.int p1), .val (.int p2), .unset, .unset, .unset, .unset] [(.int (-1 : Int32)), (.int p1)])) (fun t k => XS.iconst X0.here hx rfl (hb hby own_d15_1) k) ?_
  refine own_adv (B := s₁.setTop (mkF m 19 #[.val (.ref a1), .val (.int p1), .val (.int p2), .unset, .unset, .unset, .unset] [])) (fun t k => XS.icmpYes X0.here hx rfl (pc0 := 2) (pc' := 19) rfl (hb hby own_d15_2) rfl (flt hp).2.1 (by decide) (by decide) k) ?_
  refine own_adv (B := s₁.setTop (mkF m 20 #[.val (.ref a1), .val (.int p1), .val (.int p2), .unset, .unset, .unset, .unset] [(.ref a1)])) (fun t k => XS.aloadN X0.here hx rfl (hb hby own_d15_19) rfl rfl k) ?_
  obtain ⟨T10, X10, e10, st10⟩ := getF X0 hx hZ hown (host := "") (Or.inl (hw _ (List.mem_of_getElem? (i := 47) rfl))) Via.refl e0 FI1 (g := (mkF m 20 #[.val (.ref a1), .val (.int p1), .val (.int p2), .unset, .unset, .unset, .unset] [(.ref a1)])) rfl rfl (hb hby own_d15_20)
  refine own_adv (B := T10.setTop (mkF m 23 #[.val (.ref a1), .val (.int p1), .val (.int p2), .unset, .unset, .unset, .unset] [(.int ix)])) st10 ?_
  refine own_adv (B := T10.setTop (mkF m 24 #[.val (.ref a1), .val (.int p1), .val (.int p2), .val (.int ix), .unset, .unset, .unset] [])) (fun t k => XS.istoreN X10.here hx rfl (hb hby own_d15_23) rfl (l' := #[.val (.ref a1), .val (.int p1), .val (.int p2), .val (.int ix), .unset, .unset, .unset]) rfl k) ?_
  refine own_adv (B := T10.setTop (mkF m 25 #[.val (.ref a1), .val (.int p1), .val (.int p2), .val (.int ix), .unset, .unset, .unset] [(.ref a1)])) (fun t k => XS.aloadN X10.here hx rfl (hb hby own_d15_24) rfl rfl k) ?_
  refine own_adv (B := T10.setTop (mkF m 26 #[.val (.ref a1), .val (.int p1), .val (.int p2), .val (.int ix), .unset, .unset, .unset] [(.int p1), (.ref a1)])) (fun t k => XS.iloadN X10.here hx rfl (hb hby own_d15_25) rfl k) ?_
  obtain ⟨T11, h11, X11, e11, W11, st11⟩ := putF X10 hx hZ hown (host := "") (Or.inl (hw _ (List.mem_of_getElem? (i := 47) rfl))) Via.refl e10 FI1 E1 (Or.inl (hw _ (List.mem_of_getElem? (i := 48) rfl))) (hw _ (List.mem_of_getElem? (i := 28) rfl)) (ty := .int) (by decide) rfl rfl (g := (mkF m 26 #[.val (.ref a1), .val (.int p1), .val (.int p2), .val (.int ix), .unset, .unset, .unset] [(.int p1), (.ref a1)])) rfl rfl (hb hby own_d15_26)
  subst e11
  have N11 := Fr.snoc X11 N0 g1
  have OL_11 : Old Z n0 T11.heap := Old.keep OL (Keep.of_wr W11) (allS g1 all0)
  have E_a1_11 : Exa Z T11.heap a1 "jakarta/faces/model/CollectionDataModel" := Exa.keep E1 (Keep.of_wr W11)
  have F_listeners_a1_11 : Fld Z T11.heap a1 "jakarta/faces/model/DataModel" "listeners" "Ljava/util/List;" (.ref wL) := Fld.other W11 FL1 (Or.inr (slot_ne (Or.inl (hw _ (List.mem_of_getElem? (i := 46) rfl))) (Or.inl (hw _ (List.mem_of_getElem? (i := 48) rfl))) (by decide) (t := (.object "java/util/List")) (t' := .int) (by decide) (by decide)))
  have F_index_a1_11 : Fld Z T11.heap a1 "jakarta/faces/model/DataModel" "index" "I" (.int p1) := Fld.same W11 FI1
  have F_collection_a1_11 : Fld Z T11.heap a1 "jakarta/faces/model/CollectionDataModel" "collection" "Ljava/util/Collection;" cv := Fld.other W11 FC1 (Or.inr (slot_ne (Or.inl (hw _ (List.mem_of_getElem? (i := 55) rfl))) (Or.inl (hw _ (List.mem_of_getElem? (i := 48) rfl))) (by decide) (t := (.object "java/util/Collection")) (t' := .int) (by decide) (by decide)))
  have F_elements_a1_11 : Fld Z T11.heap a1 "jakarta/faces/model/CollectionDataModel" "elements" "[Ljava/lang/Object;" ev := Fld.other W11 FE1 (Or.inr (slot_ne (Or.inl (hw _ (List.mem_of_getElem? (i := 98) rfl))) (Or.inl (hw _ (List.mem_of_getElem? (i := 48) rfl))) (by decide) (t := (.array (.object "java/lang/Object"))) (t' := .int) (by decide) (by decide)))
  have KK11 : Keep h0 T11.heap [a1] := KK0.wr W11 (Or.inl (List.mem_of_getElem? (i := 0) rfl))
  refine own_adv (B := T11.setTop (mkF m 29 #[.val (.ref a1), .val (.int p1), .val (.int p2), .val (.int ix), .unset, .unset, .unset] [])) st11 ?_
  refine own_adv (B := T11.setTop (mkF m 30 #[.val (.ref a1), .val (.int p1), .val (.int p2), .val (.int ix), .unset, .unset, .unset] [(.int p2)])) (fun t k => XS.iloadN X11.here hx rfl (hb hby own_d15_29) rfl k) ?_
  by_cases h1 : p2 = (0 : Int32)
  · skip
    refine own_adv (B := T11.setTop (mkF m 124 #[.val (.ref a1), .val (.int p1), .val (.int p2), .val (.int ix), .unset, .unset, .unset] [])) (fun t k => XS.ifYes X11.here hx rfl (pc0 := 30) (pc' := 124) rfl (hb hby own_d15_30) rfl ((if0 _ _).trans (teq h1).1) (by decide) (by decide) k) ?_
    obtain ⟨fs, hr, hrun, hended, hW, hsame⟩ := X11.leave (v := none) (fun _ => rfl)
    refine ⟨_, _, X11.returnOut hx Bd.returns (hb hby own_d15_124) hr, hrun, hended, _, _, rfl, ?_, ⟨_, rfl⟩, hW, hsame.mono (by decide) (by decide)⟩
    exact ⟨rfl, N11, KK11, ⟨E_a1_11, F_listeners_a1_11, F_index_a1_11, F_collection_a1_11, F_elements_a1_11⟩⟩
  refine own_adv (B := T11.setTop (mkF m 33 #[.val (.ref a1), .val (.int p1), .val (.int p2), .val (.int ix), .unset, .unset, .unset] [])) (fun t k => XS.ifNo X11.here hx rfl (hb hby own_d15_30) rfl ((if0 _ _).trans (feq h1).1) k) ?_
  refine own_adv (B := T11.setTop (mkF m 34 #[.val (.ref a1), .val (.int p1), .val (.int p2), .val (.int ix), .unset, .unset, .unset] [(.int ix)])) (fun t k => XS.iloadN X11.here hx rfl (hb hby own_d15_33) rfl k) ?_
  refine own_adv (B := T11.setTop (mkF m 35 #[.val (.ref a1), .val (.int p1), .val (.int p2), .val (.int ix), .unset, .unset, .unset] [(.int p1), (.int ix)])) (fun t k => XS.iloadN X11.here hx rfl (hb hby own_d15_34) rfl k) ?_
  by_cases h2 : ix = p1
  · skip
    refine own_adv (B := T11.setTop (mkF m 124 #[.val (.ref a1), .val (.int p1), .val (.int p2), .val (.int ix), .unset, .unset, .unset] [])) (fun t k => XS.icmpYes X11.here hx rfl (pc0 := 35) (pc' := 124) rfl (hb hby own_d15_35) rfl (teq h2).1 (by decide) (by decide) k) ?_
    obtain ⟨fs, hr, hrun, hended, hW, hsame⟩ := X11.leave (v := none) (fun _ => rfl)
    refine ⟨_, _, X11.returnOut hx Bd.returns (hb hby own_d15_124) hr, hrun, hended, _, _, rfl, ?_, ⟨_, rfl⟩, hW, hsame.mono (by decide) (by decide)⟩
    exact ⟨rfl, N11, KK11, ⟨E_a1_11, F_listeners_a1_11, F_index_a1_11, F_collection_a1_11, F_elements_a1_11⟩⟩
  refine own_adv (B := T11.setTop (mkF m 38 #[.val (.ref a1), .val (.int p1), .val (.int p2), .val (.int ix), .unset, .unset, .unset] [])) (fun t k => XS.icmpNo X11.here hx rfl (hb hby own_d15_35) rfl (feq h2).1 k) ?_
  refine own_adv (B := T11.setTop (mkF m 39 #[.val (.ref a1), .val (.int p1), .val (.int p2), .val (.int ix), .unset, .unset, .unset] [(.ref a1)])) (fun t k => XS.aloadN X11.here hx rfl (hb hby own_d15_38) rfl rfl k) ?_
  obtain ⟨T12, X12, e12, st12⟩ := getF X11 hx hZ hown (host := "") (Or.inl (hw _ (List.mem_of_getElem? (i := 45) rfl))) Via.refl rfl F_listeners_a1_11 (g := (mkF m 39 #[.val (.ref a1), .val (.int p1), .val (.int p2), .val (.int ix), .unset, .unset, .unset] [(.ref a1)])) rfl rfl (hb hby own_d15_39)
  refine own_adv (B := T12.setTop (mkF m 42 #[.val (.ref a1), .val (.int p1), .val (.int p2), .val (.int ix), .unset, .unset, .unset] [(.ref wL)])) st12 ?_
  obtain ⟨cq13, kq13, q13a, q13b, q13c⟩ := isOf hZ e12 (EL.ext OL_11.2)
  obtain ⟨_, _, ⟨T13, L13, k13, n13⟩, -, X13, ⟨Lc13, hQ13, l13, y13, z13⟩, st13⟩ := X12.interfaceBack hx (xi := (⟨"java/util/List", "isEmpty", "()Z"⟩ : MethodName)) (y := (⟨"java/util/ImmutableCollections$ListN", "isEmpty", "()Z"⟩ : MethodName)) hown (mvT hZ (hw _ (List.mem_of_getElem? (i := 111) rfl))) (mvT hZ (hw _ (List.mem_of_getElem? (i := 112) rfl))) (mvT hZ (hw _ (List.mem_of_getElem? (i := 113) rfl))) (mvT hZ (hw _ (List.mem_of_getElem? (i := 114) rfl))) (mvT hZ (hw _ (List.mem_of_getElem? (i := 115) rfl))) (mvT hZ (hw _ (List.mem_of_getElem? (i := 116) rfl))) (mvT hZ (hw _ (List.mem_of_getElem? (i := 117) rfl))) (mvT hZ (hw _ (List.mem_of_getElem? (i := 118) rfl))) (by decide) (backOf (W := 0) (rmIE l Z a0 hw [] wL wE kE T11.heap n0 (Nat.le_trans Z0 KK11.1) OL_11 FL VL) hZ (hw _ (List.mem_of_getElem? (i := 120) rfl)) (hw _ (List.mem_of_getElem? (i := 119) rfl)) (by decide) (by decide)) q13a q13b q13c (g := (mkF m 42 #[.val (.ref a1), .val (.int p1), .val (.int p2), .val (.int ix), .unset, .unset, .unset] [(.ref wL)])) rfl (by rw [hml]; rfl) (Steps.refl _) (argsL := []) (rest := []) (lenOf own_pd___Z rfl) rfl (by show 2 * 0 + _ ≤ _; exact Nat.le_of_eq rfl) (hb hby own_d15_42) (fun _ _ => ⟨rfl, e12, (by decide : 0 + 0 ≤ _), (by decide : 0 + 0 ≤ _)⟩)
  dsimp only [Pt.U, Pt.locs, Pt.cells, Pt.slots] at X13 l13 y13 z13 st13 hQ13
  subst l13 y13 z13
  obtain ⟨rfl, N13q, e13⟩ := hQ13
  have N13 := Fr.app N11 N13q
  refine own_adv (B := T13.setTop (mkF m 47 #[.val (.ref a1), .val (.int p1), .val (.int p2), .val (.int ix), .unset, .unset, .unset] [(.int (1 : Int32))])) (fun t k => st13.trans k) ?_
  refine own_adv (B := T13.setTop (mkF m 124 #[.val (.ref a1), .val (.int p1), .val (.int p2), .val (.int ix), .unset, .unset, .unset] [])) (fun t k => XS.ifYes X13.here hx rfl (pc0 := 47) (pc' := 124) rfl (hb hby own_d15_47) rfl ((if0 _ _).trans (feq (by decide)).2) (by decide) (by decide) k) ?_
  rw [← e13] at KK11 E_a1_11 F_listeners_a1_11 F_index_a1_11 F_collection_a1_11 F_elements_a1_11
  obtain ⟨fs, hr, hrun, hended, hW, hsame⟩ := X13.leave (v := none) (fun _ => rfl)
  refine ⟨_, _, X13.returnOut hx Bd.returns (hb hby own_d15_124) hr, hrun, hended, _, _, rfl, ?_, ⟨_, rfl⟩, hW, hsame.mono (by decide) (by decide)⟩
  exact ⟨rfl, N13, KK11, ⟨E_a1_11, F_listeners_a1_11, F_index_a1_11, F_collection_a1_11, F_elements_a1_11⟩⟩
def own_QrmSI (Z : State) (a1 a2 wL wE : Addr) (kE : ClassId) (p1 ix : Int32) (ev : Value) (h0 : Heap) (n0 : Nat) (v : Option Value) (h : Heap) (L : List Loc) : Prop := v = none ∧ Fr n0 L ∧ Keep h0 h [a1] ∧ own_MS Z h a1 (.ref wL) p1 (.ref a2) ev
set_option maxRecDepth 65536 in
set_option maxHeartbeats 40000000 in
theorem rmSI (l : Launch) (Z : State) (a0 : Array Value) (hw : ∀ d ∈ tables_1, d.before a0 Z = true) (ws : List Jvm.Cond) (a1 a2 wL wE : Addr) (kE : ClassId) (p1 ix : Int32) (ev : Value) (h0 : Heap) (n0 : Nat) (Z0 : n0 ≤ h0.size) (OL : Old Z n0 h0) (EL : Exa Z Z.heap wL "java/util/ImmutableCollections$ListN") (FL : Fld Z Z.heap wL "java/util/ImmutableCollections$ListN" "elements" "[Ljava/lang/Object;" (.ref wE)) (VL : Arv Z Z.heap wE kE (.object "java/lang/Object") (0 : Int32) [] .null) (MS : own_MS Z h0 a1 (.ref wL) ix (.ref a2) ev) (g1 : n0 ≤ a1) (hp : ¬ p1 < (-1 : Int32)) :
    MetFree l (⟨"jakarta/faces/model/CollectionDataModel", "setRowIndex", "(I)V"⟩ : MethodName) (head1 (Jvm.Cond.code (⟨"jakarta/faces/model/CollectionDataModel", "setRowIndex", "(I)V"⟩ : MethodName) prog_40_method_8_code 2 none :: ws) ({ frames := 2, cells := 0, slots := 0, locals := 30 } : Room)) (fun a U => a = #[(.ref a1), (.int p1)] ∧ Z.Warmed39 U.vm ∧ U.heap = h0) (fun _ _ _ _ _ => True) (fun _ U o U' => ∃ v L, o = .returned v ∧ own_QrmSI Z a1 a2 wL wE kE p1 ix ev h0 n0 v U'.heap L ∧ FrameEnd U o U' L ({ frames := 2, cells := 0, slots := 0, locals := 30 } : Room).cells ({ frames := 2, cells := 0, slots := 0, locals := 30 } : Room).slots) := by
  refine MetFree.of_bodySF (plainFor_of_name own_pn_jakarta_faces_model_CollectionDataModel) hisR ?_
  intro p e s m args below meth c s₁ Bd hml0 hP hK
  obtain ⟨rfl, hZ, hh⟩ := hP
  have hx := Bd.exec
  have hby := Bd.bytes
  have hml : c.maxLocals = 2 := hml0
  have hown : s.vm.findClass "jakarta/faces/model/CollectionDataModel" = some m.cls := findClass_of_methodNamed Bd.named
  have hnm := (name_of_methodNamed Bd.named Bd.method).1
  have X0 : Stand p l e ({ frames := 2, cells := 0, slots := 0, locals := 30 } : Room) s m #[(.ref a1), (.int p1)] below meth c s₁ [] 0 0 := Stand.of_body Bd
  have e0 : s₁.heap = h0 := by rw [← hh, Bd.state]; rfl
  have N0 := Fr.nil n0
  refine own_adv (B := s₁.setTop (mkF m 0 #[.val (.ref a1), .val (.int p1)] [])) (fun t k => castTop (own_ef_rmSI m a1 p1) k) ?_
  have KK0 : Keep h0 h0 [a1] := Keep.refl h0 _
  have MS' := MS
  obtain ⟨E1, FL1, FI1, FC1, FE1⟩ := MS
  refine own_adv (B := s₁.setTop (mkF m 1 #[.val (.ref a1), .val (.int p1)] [(.ref a1)])) (fun t k => XS.aloadN X0.here hx rfl (hb hby own_d17_0) rfl rfl k) ?_
  refine own_adv (B := s₁.setTop (mkF m 2 #[.val (.ref a1), .val (.int p1)] [(.int p1), (.ref a1)])) (fun t k => XS.iloadN X0.here hx rfl (hb hby own_d17_1) rfl k) ?_
  refine own_adv (B := s₁.setTop (mkF m 3 #[.val (.ref a1), .val (.int p1)] [(.ref a1), (.int p1), (.ref a1)])) (fun t k => XS.aloadN X0.here hx rfl (hb hby own_d17_2) rfl rfl k) ?_
  obtain ⟨T10, X10, e10, st10⟩ := getF X0 hx hZ hown (host := "") (Or.inl (hw _ (List.mem_of_getElem? (i := 54) rfl))) Via.refl e0 FC1 (g := (mkF m 3 #[.val (.ref a1), .val (.int p1)] [(.ref a1), (.int p1), (.ref a1)])) rfl rfl (hb hby own_d17_3)
  refine own_adv (B := T10.setTop (mkF m 6 #[.val (.ref a1), .val (.int p1)] [(.ref a2), (.int p1), (.ref a1)])) st10 ?_
  refine own_adv (B := T10.setTop (mkF m 9 #[.val (.ref a1), .val (.int p1)] [(.int p1), (.ref a1)])) (fun t k => XS.ifnullNo X10.here hx rfl (hb hby own_d17_6) rfl k) ?_
  refine own_adv (B := T10.setTop (mkF m 10 #[.val (.ref a1), .val (.int p1)] [(.int (1 : Int32)), (.int p1), (.ref a1)])) (fun t k => XS.iconst X10.here hx rfl (hb hby own_d17_9) k) ?_
  refine own_adv (B := T10.setTop (mkF m 14 #[.val (.ref a1), .val (.int p1)] [(.int (1 : Int32)), (.int p1), (.ref a1)])) (fun t k => XS.goto X10.here hx rfl (pc0 := 10) (pc' := 14) rfl (hb hby own_d17_10) (by decide) (by decide) k) ?_
  obtain ⟨cq11, kq11, q11a, q11b, q11c⟩ := isOf hZ e10 E1
  obtain ⟨_, _, ⟨T11, L11, k11, n11⟩, -, X11, ⟨Lc11, hQ11, l11, y11, z11⟩, st11⟩ := X10.virtualBackUp hx (x := (⟨"jakarta/faces/model/CollectionDataModel", "selectRow", "(IZ)V"⟩ : MethodName)) (y := (⟨"jakarta/faces/model/DataModel", "selectRow", "(IZ)V"⟩ : MethodName)) (owner := "jakarta/faces/model/DataModel") hown (mvT hZ (hw _ (List.mem_of_getElem? (i := 105) rfl))) (mvT hZ (hw _ (List.mem_of_getElem? (i := 106) rfl))) (mvT hZ (hw _ (List.mem_of_getElem? (i := 107) rfl))) (by decide) (mvT hZ (hw _ (List.mem_of_getElem? (i := 109) rfl))) (mvT hZ (hw _ (List.mem_of_getElem? (i := 108) rfl))) (backOf (W := 0) (rmSR l Z a0 hw [] a1 wL wE kE p1 (1 : Int32) ix (.ref a2) ev h0 n0 Z0 OL EL FL VL MS' g1 hp) hZ (hw _ (List.mem_of_getElem? (i := 110) rfl)) (hw _ (List.mem_of_getElem? (i := 36) rfl)) (by decide) (by decide)) q11a q11c (g := (mkF m 14 #[.val (.ref a1), .val (.int p1)] [(.int (1 : Int32)), (.int p1), (.ref a1)])) rfl (by rw [hml]; rfl) (Steps.refl _) (argsL := [(.int p1), (.int (1 : Int32))]) (rest := []) (lenOf own_pd__IZ_V rfl) rfl (by show 2 * 0 + _ ≤ _; exact Nat.le_of_eq rfl) (hb hby own_d17_14) (fun _ _ => ⟨rfl, e10, (by decide : 0 + 0 ≤ _), (by decide : 0 + 0 ≤ _)⟩)
  dsimp only [Pt.U, Pt.locs, Pt.cells, Pt.slots] at X11 l11 y11 z11 st11 hQ11
  subst l11 y11 z11
  obtain ⟨rfl, N11q, K11, MS11⟩ := hQ11
  have N11 := Fr.app N0 N11q
  have E_a1_11 : Exa Z T11.heap a1 "jakarta/faces/model/CollectionDataModel" := Exa.keep E1 K11
  have KK11 : Keep h0 T11.heap [a1] := KK0.trans K11 (allS (Or.inl (List.mem_of_getElem? (i := 0) rfl)) all0)
  refine own_adv (B := T11.setTop (mkF m 17 #[.val (.ref a1), .val (.int p1)] [])) (fun t k => st11.trans k) ?_
  obtain ⟨fs, hr, hrun, hended, hW, hsame⟩ := X11.leave (v := none) (fun _ => rfl)
  refine ⟨_, _, X11.returnOut hx Bd.returns (hb hby own_d17_17) hr, hrun, hended, _, _, rfl, ?_, ⟨_, rfl⟩, hW, hsame.mono (by decide) (by decide)⟩
  exact ⟨rfl, N11, KK11, MS11⟩
def own_QrmSW (Z : State) (a1 a2 b2 wL wE : Addr) (kE k2 : ClassId) (z2 sz ix : Int32) (cv ev : Value) (vs : List Value) (mr : Addr) (h0 : Heap) (n0 : Nat) (v : Option Value) (h : Heap) (L : List Loc) : Prop := ∃ c k us, v = none ∧ Fr n0 L ∧ Keep h0 h [a1] ∧ h0.size ≤ c ∧ own_MS Z h a1 (.ref wL) (0 : Int32) (.ref a2) (.ref c) ∧ Arv Z h c k (.object "java/lang/Object") sz us .null
set_option maxRecDepth 65536 in
set_option maxHeartbeats 40000000 in
theorem rmSW (l : Launch) (Z : State) (a0 : Array Value) (hw : ∀ d ∈ tables_1, d.before a0 Z = true) (ws : List Jvm.Cond) (a1 a2 b2 wL wE : Addr) (kE k2 : ClassId) (z2 sz ix : Int32) (cv ev : Value) (vs : List Value) (mr : Addr) (h0 : Heap) (n0 : Nat) (Z0 : n0 ≤ h0.size) (OL : Old Z n0 h0) (EL : Exa Z Z.heap wL "java/util/ImmutableCollections$ListN") (FL : Fld Z Z.heap wL "java/util/ImmutableCollections$ListN" "elements" "[Ljava/lang/Object;" (.ref wE)) (VL : Arv Z Z.heap wE kE (.object "java/lang/Object") (0 : Int32) [] .null) (MS : own_MS Z h0 a1 (.ref wL) ix cv ev) (g1 : n0 ≤ a1) (LS : own_LS Z h0 a2 b2 k2 z2 sz vs) (hc : sz.toNatClampNeg ≤ 10) (MR : own_Mir Z "[Ljava/lang/Object;" mr) (n21 : a2 ≠ a1) (nb1 : b2 ≠ a1) :
    MetFree l (⟨"jakarta/faces/model/CollectionDataModel", "setWrappedData", "(Ljava/lang/Object;)V"⟩ : MethodName) (head1 (Jvm.Cond.code (⟨"jakarta/faces/model/CollectionDataModel", "setWrappedData", "(Ljava/lang/Object;)V"⟩ : MethodName) prog_40_method_9_code 3 none :: ws) ({ frames := 4, cells := 1, slots := 10, locals := 87 } : Room)) (fun a U => a = #[(.ref a1), (.ref a2)] ∧ Z.Warmed39 U.vm ∧ U.heap = h0) (fun _ _ _ _ _ => True) (fun _ U o U' => ∃ v L, o = .returned v ∧ own_QrmSW Z a1 a2 b2 wL wE kE k2 z2 sz ix cv ev vs mr h0 n0 v U'.heap L ∧ FrameEnd U o U' L ({ frames := 4, cells := 1, slots := 10, locals := 87 } : Room).cells ({ frames := 4, cells := 1, slots := 10, locals := 87 } : Room).slots) := by
  refine MetFree.of_bodySF (plainFor_of_name own_pn_jakarta_faces_model_CollectionDataModel) hisR ?_
  intro p e s m args below meth c s₁ Bd hml0 hP hK
  obtain ⟨rfl, hZ, hh⟩ := hP
  have hx := Bd.exec
  have hby := Bd.bytes
  have hml : c.maxLocals = 3 := hml0
  have hown : s.vm.findClass "jakarta/faces/model/CollectionDataModel" = some m.cls := findClass_of_methodNamed Bd.named
  have hnm := (name_of_methodNamed Bd.named Bd.method).1
  have X0 : Stand p l e ({ frames := 4, cells := 1, slots := 10, locals := 87 } : Room) s m #[(.ref a1), (.ref a2)] below meth c s₁ [] 0 0 := Stand.of_body Bd
  have e0 : s₁.heap = h0 := by rw [← hh, Bd.state]; rfl
  have N0 := Fr.nil n0
  refine own_adv (B := s₁.setTop (mkF m 0 #[.val (.ref a1), .val (.ref a2), .unset] [])) (fun t k => castTop (own_ef_rmSW m a1 a2) k) ?_
  have KK0 : Keep h0 h0 [a1] := Keep.refl h0 _
  obtain ⟨E1, FL1, FI1, FC1, FE1⟩ := MS
  refine own_adv (B := s₁.setTop (mkF m 1 #[.val (.ref a1), .val (.ref a2), .unset] [(.ref a2)])) (fun t k => XS.aloadN X0.here hx rfl (hb hby own_d9_0) rfl rfl k) ?_
  obtain ⟨T10, X10, e10, st10⟩ := castY X0 hx hZ hown (hw _ (List.mem_of_getElem? (i := 61) rfl)) e0 (Ins.of_exa LS.1 (hw _ (List.mem_of_getElem? (i := 62) rfl))) (g := (mkF m 1 #[.val (.ref a1), .val (.ref a2), .unset] [(.ref a2)])) rfl rfl (hb hby own_d9_1)
  refine own_adv (B := T10.setTop (mkF m 4 #[.val (.ref a1), .val (.ref a2), .unset] [(.ref a2)])) st10 ?_
  refine own_adv (B := T10.setTop (mkF m 5 #[.val (.ref a1), .val (.ref a2), .val (.ref a2)] [])) (fun t k => XS.astoreN X10.here hx rfl (hb hby own_d9_4) rfl rfl (l' := #[.val (.ref a1), .val (.ref a2), .val (.ref a2)]) rfl k) ?_
  refine own_adv (B := T10.setTop (mkF m 6 #[.val (.ref a1), .val (.ref a2), .val (.ref a2)] [(.ref a1)])) (fun t k => XS.aloadN X10.here hx rfl (hb hby own_d9_5) rfl rfl k) ?_
  refine own_adv (B := T10.setTop (mkF m 7 #[.val (.ref a1), .val (.ref a2), .val (.ref a2)] [(.ref a2), (.ref a1)])) (fun t k => XS.aloadN X10.here hx rfl (hb hby own_d9_6) rfl rfl k) ?_
  obtain ⟨T11, h11, X11, e11, W11, st11⟩ := putF X10 hx hZ hown (host := "") (Or.inl (hw _ (List.mem_of_getElem? (i := 54) rfl))) Via.refl e10 FC1 E1 (Or.inl (hw _ (List.mem_of_getElem? (i := 55) rfl))) (hw _ (List.mem_of_getElem? (i := 28) rfl)) (ty := (.object "java/util/Collection")) (by decide) rfl rfl (g := (mkF m 7 #[.val (.ref a1), .val (.ref a2), .val (.ref a2)] [(.ref a2), (.ref a1)])) rfl rfl (hb hby own_d9_7)
  subst e11
  have N11 := Fr.snoc X11 N0 g1
  have OL_11 : Old Z n0 T11.heap := Old.keep OL (Keep.of_wr W11) (allS g1 all0)
  have E_a1_11 : Exa Z T11.heap a1 "jakarta/faces/model/CollectionDataModel" := Exa.keep E1 (Keep.of_wr W11)
  have F_listeners_a1_11 : Fld Z T11.heap a1 "jakarta/faces/model/DataModel" "listeners" "Ljava/util/List;" (.ref wL) := Fld.other W11 FL1 (Or.inr (slot_ne (Or.inl (hw _ (List.mem_of_getElem? (i := 46) rfl))) (Or.inl (hw _ (List.mem_of_getElem? (i := 55) rfl))) (by decide) (t := (.object "java/util/List")) (t' := (.object "java/util/Collection")) (by decide) (by decide)))
  have F_index_a1_11 : Fld Z T11.heap a1 "jakarta/faces/model/DataModel" "index" "I" (.int ix) := Fld.other W11 FI1 (Or.inr (slot_ne (Or.inl (hw _ (List.mem_of_getElem? (i := 48) rfl))) (Or.inl (hw _ (List.mem_of_getElem? (i := 55) rfl))) (by decide) (t := .int) (t' := (.object "java/util/Collection")) (by decide) (by decide)))
  have F_collection_a1_11 : Fld Z T11.heap a1 "jakarta/faces/model/CollectionDataModel" "collection" "Ljava/util/Collection;" (.ref a2) := Fld.same W11 FC1
  have F_elements_a1_11 : Fld Z T11.heap a1 "jakarta/faces/model/CollectionDataModel" "elements" "[Ljava/lang/Object;" ev := Fld.other W11 FE1 (Or.inr (slot_ne (Or.inl (hw _ (List.mem_of_getElem? (i := 98) rfl))) (Or.inl (hw _ (List.mem_of_getElem? (i := 55) rfl))) (by decide) (t := (.array (.object "java/lang/Object"))) (t' := (.object "java/util/Collection")) (by decide) (by decide)))
  have LS_11 : own_LS Z T11.heap a2 b2 k2 z2 sz vs := own_LS_keep LS (Keep.of_wr W11) (ninS n21 nin0) (ninS nb1 nin0)
  have KK11 : Keep h0 T11.heap [a1] := KK0.wr W11 (Or.inl (List.mem_of_getElem? (i := 0) rfl))
  refine own_adv (B := T11.setTop (mkF m 10 #[.val (.ref a1), .val (.ref a2), .val (.ref a2)] [])) st11 ?_
  refine own_adv (B := T11.setTop (mkF m 11 #[.val (.ref a1), .val (.ref a2), .val (.ref a2)] [(.ref a1)])) (fun t k => XS.aloadN X11.here hx rfl (hb hby own_d9_10) rfl rfl k) ?_
  refine own_adv (B := T11.setTop (mkF m 12 #[.val (.ref a1), .val (.ref a2), .val (.ref a2)] [(.ref a2), (.ref a1)])) (fun t k => XS.aloadN X11.here hx rfl (hb hby own_d9_11) rfl rfl k) ?_
  refine own_adv (B := T11.setTop (mkF m 19 #[.val (.ref a1), .val (.ref a2), .val (.ref a2)] [(.ref a1)])) (fun t k => XS.ifnonnullYes X11.here hx rfl (pc0 := 12) (pc' := 19) rfl (hb hby own_d9_12) rfl (by decide) (by decide) k) ?_
  refine own_adv (B := T11.setTop (mkF m 20 #[.val (.ref a1), .val (.ref a2), .val (.ref a2)] [(.ref a2), (.ref a1)])) (fun t k => XS.aloadN X11.here hx rfl (hb hby own_d9_19) rfl rfl k) ?_
  obtain ⟨cq12, kq12, q12a, q12b, q12c⟩ := isOf hZ rfl LS_11.1
  obtain ⟨_, _, ⟨T12, L12, k12, n12⟩, -, X12, ⟨Lc12, hQ12, l12, y12, z12⟩, st12⟩ := X11.interfaceBack hx (xi := (⟨"java/util/Collection", "toArray", "()[Ljava/lang/Object;"⟩ : MethodName)) (y := (⟨"java/util/ArrayList", "toArray", "()[Ljava/lang/Object;"⟩ : MethodName)) hown (mvT hZ (hw _ (List.mem_of_getElem? (i := 63) rfl))) (mvT hZ (hw _ (List.mem_of_getElem? (i := 64) rfl))) (mvT hZ (hw _ (List.mem_of_getElem? (i := 65) rfl))) (mvT hZ (hw _ (List.mem_of_getElem? (i := 66) rfl))) (mvT hZ (hw _ (List.mem_of_getElem? (i := 67) rfl))) (mvT hZ (hw _ (List.mem_of_getElem? (i := 68) rfl))) (mvT hZ (hw _ (List.mem_of_getElem? (i := 69) rfl))) (mvT hZ (hw _ (List.mem_of_getElem? (i := 62) rfl))) (by decide) (backOf (W := 1) (rmTA l Z a0 hw [] a2 b2 k2 z2 sz vs mr T11.heap n0 (Nat.le_trans Z0 KK11.1) OL_11 LS_11 hc MR) hZ (hw _ (List.mem_of_getElem? (i := 70) rfl)) (hw _ (List.mem_of_getElem? (i := 3) rfl)) (by decide) (by decide)) q12a q12b q12c (g := (mkF m 20 #[.val (.ref a1), .val (.ref a2), .val (.ref a2)] [(.ref a2), (.ref a1)])) rfl (by rw [hml]; rfl) (Steps.refl _) (argsL := []) (rest := [(.ref a1)]) (lenOf own_pd____Ljava_lang_Object_ rfl) rfl (by show 2 * 0 + _ ≤ _; exact Nat.le_of_eq rfl) (hb hby own_d9_20) (fun _ _ => ⟨rfl, rfl, (by decide : 0 + 1 ≤ _), (by decide : 0 + 10 ≤ _)⟩)
  dsimp only [Pt.U, Pt.locs, Pt.cells, Pt.slots] at X12 l12 y12 z12 st12 hQ12
  subst l12 y12 z12
  obtain ⟨c12, kc12, us12, rfl, N12q, K12, hb12, V12⟩ := hQ12
  have N12 := Fr.app N11 N12q
  have ne_a1_c12 : a1 ≠ c12 := Nat.ne_of_lt (Nat.lt_of_lt_of_le E_a1_11.lt hb12)
  have ne_a2_c12 : a2 ≠ c12 := Nat.ne_of_lt (Nat.lt_of_lt_of_le LS_11.1.lt hb12)
  have ne_b2_c12 : b2 ≠ c12 := Nat.ne_of_lt (Nat.lt_of_lt_of_le LS_11.2.2.2.2.1.lt hb12)
  have sz_c12 : h0.size ≤ c12 := Nat.le_trans KK11.1 hb12
  have g_c12 : n0 ≤ c12 := Nat.le_trans Z0 sz_c12
  have OL_12 : Old Z n0 T12.heap := Old.keep OL_11 K12 all0
  have E_a1_12 : Exa Z T12.heap a1 "jakarta/faces/model/CollectionDataModel" := Exa.keep E_a1_11 K12
  have F_listeners_a1_12 : Fld Z T12.heap a1 "jakarta/faces/model/DataModel" "listeners" "Ljava/util/List;" (.ref wL) := Fld.keep F_listeners_a1_11 K12 nin0
  have F_index_a1_12 : Fld Z T12.heap a1 "jakarta/faces/model/DataModel" "index" "I" (.int ix) := Fld.keep F_index_a1_11 K12 nin0
  have F_collection_a1_12 : Fld Z T12.heap a1 "jakarta/faces/model/CollectionDataModel" "collection" "Ljava/util/Collection;" (.ref a2) := Fld.keep F_collection_a1_11 K12 nin0
  have F_elements_a1_12 : Fld Z T12.heap a1 "jakarta/faces/model/CollectionDataModel" "elements" "[Ljava/lang/Object;" ev := Fld.keep F_elements_a1_11 K12 nin0
  have LS_12 : own_LS Z T12.heap a2 b2 k2 z2 sz vs := own_LS_keep LS_11 K12 nin0 nin0
  have KK12 : Keep h0 T12.heap [a1] := KK11.trans K12 all0
  refine own_adv (B := T12.setTop (mkF m 25 #[.val (.ref a1), .val (.ref a2), .val (.ref a2)] [(.ref c12), (.ref a1)])) (fun t k => st12.trans k) ?_
  obtain ⟨T13, h13, X13, e13, W13, st13⟩ := putF X12 hx hZ hown (host := "") (Or.inl (hw _ (List.mem_of_getElem? (i := 97) rfl))) Via.refl rfl F_elements_a1_12 E_a1_12 (Or.inl (hw _ (List.mem_of_getElem? (i := 98) rfl))) (hw _ (List.mem_of_getElem? (i := 28) rfl)) (ty := (.array (.object "java/lang/Object"))) (by decide) rfl rfl (g := (mkF m 25 #[.val (.ref a1), .val (.ref a2), .val (.ref a2)] [(.ref c12), (.ref a1)])) rfl rfl (hb hby own_d9_25)
  subst e13
  have N13 := Fr.snoc X13 N12 g1
  have OL_13 : Old Z n0 T13.heap := Old.keep OL_12 (Keep.of_wr W13) (allS g1 all0)
  have E_a1_13 : Exa Z T13.heap a1 "jakarta/faces/model/CollectionDataModel" := Exa.keep E_a1_12 (Keep.of_wr W13)
  have F_listeners_a1_13 : Fld Z T13.heap a1 "jakarta/faces/model/DataModel" "listeners" "Ljava/util/List;" (.ref wL) := Fld.other W13 F_listeners_a1_12 (Or.inr (slot_ne (Or.inl (hw _ (List.mem_of_getElem? (i := 46) rfl))) (Or.inl (hw _ (List.mem_of_getElem? (i := 98) rfl))) (by decide) (t := (.object "java/util/List")) (t' := (.array (.object "java/lang/Object"))) (by decide) (by decide)))
  have F_index_a1_13 : Fld Z T13.heap a1 "jakarta/faces/model/DataModel" "index" "I" (.int ix) := Fld.other W13 F_index_a1_12 (Or.inr (slot_ne (Or.inl (hw _ (List.mem_of_getElem? (i := 48) rfl))) (Or.inl (hw _ (List.mem_of_getElem? (i := 98) rfl))) (by decide) (t := .int) (t' := (.array (.object "java/lang/Object"))) (by decide) (by decide)))
  have F_collection_a1_13 : Fld Z T13.heap a1 "jakarta/faces/model/CollectionDataModel" "collection" "Ljava/util/Collection;" (.ref a2) := Fld.other W13 F_collection_a1_12 (Or.inr (slot_ne (Or.inl (hw _ (List.mem_of_getElem? (i := 55) rfl))) (Or.inl (hw _ (List.mem_of_getElem? (i := 98) rfl))) (by decide) (t := (.object "java/util/Collection")) (t' := (.array (.object "java/lang/Object"))) (by decide) (by decide)))
  have F_elements_a1_13 : Fld Z T13.heap a1 "jakarta/faces/model/CollectionDataModel" "elements" "[Ljava/lang/Object;" (.ref c12) := Fld.same W13 F_elements_a1_12
  have LS_13 : own_LS Z T13.heap a2 b2 k2 z2 sz vs := own_LS_keep LS_12 (Keep.of_wr W13) (ninS n21 nin0) (ninS nb1 nin0)
  have V_c12_13 : Arv Z T13.heap c12 kc12 (.object "java/lang/Object") sz us12 .null := Arv.keep V12 (Keep.of_wr W13) (ninS (Ne.symm ne_a1_c12) nin0)
  have KK13 : Keep h0 T13.heap [a1] := KK12.wr W13 (Or.inl (List.mem_of_getElem? (i := 0) rfl))
  refine own_adv (B := T13.setTop (mkF m 28 #[.val (.ref a1), .val (.ref a2), .val (.ref a2)] [])) st13 ?_
  refine own_adv (B := T13.setTop (mkF m 29 #[.val (.ref a1), .val (.ref a2), .val (.ref a2)] [(.ref a1)])) (fun t k => XS.aloadN X13.here hx rfl (hb hby own_d9_28) rfl rfl k) ?_
  obtain ⟨cq14, kq14, q14a, q14b, q14c⟩ := isOf hZ rfl E_a1_13
  obtain ⟨_, _, ⟨T14, L14, k14, n14⟩, -, X14, ⟨Lc14, hQ14, l14, y14, z14⟩, st14⟩ := X13.virtualBackUp hx (x := (⟨"jakarta/faces/model/CollectionDataModel", "clearRow", "()V"⟩ : MethodName)) (y := (⟨"jakarta/faces/model/DataModel", "clearRow", "()V"⟩ : MethodName)) (owner := "jakarta/faces/model/DataModel") hown (mvT hZ (hw _ (List.mem_of_getElem? (i := 99) rfl))) (mvT hZ (hw _ (List.mem_of_getElem? (i := 100) rfl))) (mvT hZ (hw _ (List.mem_of_getElem? (i := 101) rfl))) (by decide) (mvT hZ (hw _ (List.mem_of_getElem? (i := 103) rfl))) (mvT hZ (hw _ (List.mem_of_getElem? (i := 102) rfl))) (backOf (W := 0) (rmCR l Z a0 hw [] a1 (.ref wL) (.ref a2) (.ref c12) ix T13.heap n0 (Nat.le_trans Z0 KK13.1) ⟨E_a1_13, F_listeners_a1_13, F_index_a1_13, F_collection_a1_13, F_elements_a1_13⟩ g1) hZ (hw _ (List.mem_of_getElem? (i := 104) rfl)) (hw _ (List.mem_of_getElem? (i := 36) rfl)) (by decide) (by decide)) q14a q14c (g := (mkF m 29 #[.val (.ref a1), .val (.ref a2), .val (.ref a2)] [(.ref a1)])) rfl (by rw [hml]; rfl) (Steps.refl _) (argsL := []) (rest := []) (lenOf own_pd___V rfl) rfl (by show 2 * 0 + _ ≤ _; exact Nat.le_of_eq rfl) (hb hby own_d9_29) (fun _ _ => ⟨rfl, rfl, (by decide : 1 + 0 ≤ _), (by decide : 10 + 0 ≤ _)⟩)
  dsimp only [Pt.U, Pt.locs, Pt.cells, Pt.slots] at X14 l14 y14 z14 st14 hQ14
  subst l14 y14 z14
  obtain ⟨rfl, N14q, K14, MS14⟩ := hQ14
  have N14 := Fr.app N13 N14q
  have OL_14 : Old Z n0 T14.heap := Old.keep OL_13 K14 (allS g1 all0)
  have E_a1_14 : Exa Z T14.heap a1 "jakarta/faces/model/CollectionDataModel" := Exa.keep E_a1_13 K14
  have LS_14 : own_LS Z T14.heap a2 b2 k2 z2 sz vs := own_LS_keep LS_13 K14 (ninS n21 nin0) (ninS nb1 nin0)
  have V_c12_14 : Arv Z T14.heap c12 kc12 (.object "java/lang/Object") sz us12 .null := Arv.keep V_c12_13 K14 (ninS (Ne.symm ne_a1_c12) nin0)
  have KK14 : Keep h0 T14.heap [a1] := KK13.trans K14 (allS (Or.inl (List.mem_of_getElem? (i := 0) rfl)) all0)
  refine own_adv (B := T14.setTop (mkF m 32 #[.val (.ref a1), .val (.ref a2), .val (.ref a2)] [])) (fun t k => st14.trans k) ?_
  refine own_adv (B := T14.setTop (mkF m 33 #[.val (.ref a1), .val (.ref a2), .val (.ref a2)] [(.ref a1)])) (fun t k => XS.aloadN X14.here hx rfl (hb hby own_d9_32) rfl rfl k) ?_
  refine own_adv (B := T14.setTop (mkF m 34 #[.val (.ref a1), .val (.ref a2), .val (.ref a2)] [(.ref a2), (.ref a1)])) (fun t k => XS.aloadN X14.here hx rfl (hb hby own_d9_33) rfl rfl k) ?_
  refine own_adv (B := T14.setTop (mkF m 41 #[.val (.ref a1), .val (.ref a2), .val (.ref a2)] [(.ref a1)])) (fun t k => XS.ifnonnullYes X14.here hx rfl (pc0 := 34) (pc' := 41) rfl (hb hby own_d9_34) rfl (by decide) (by decide) k) ?_
  refine own_adv (B := T14.setTop (mkF m 42 #[.val (.ref a1), .val (.ref a2), .val (.ref a2)] [(.int (0 : Int32)), (.ref a1)])) (fun t k => XS.iconst X14.here hx rfl (hb hby own_d9_41) k) ?_
  refine own_adv (B := T14.setTop (mkF m 43 #[.val (.ref a1), .val (.ref a2), .val (.ref a2)] [(.ref a2), (.int (0 : Int32)), (.ref a1)])) (fun t k => XS.aloadN X14.here hx rfl (hb hby own_d9_42) rfl rfl k) ?_
  refine own_adv (B := T14.setTop (mkF m 46 #[.val (.ref a1), .val (.ref a2), .val (.ref a2)] [(.int (0 : Int32)), (.ref a1)])) (fun t k => XS.ifnullNo X14.here hx rfl (hb hby own_d9_43) rfl k) ?_
  refine own_adv (B := T14.setTop (mkF m 47 #[.val (.ref a1), .val (.ref a2), .val (.ref a2)] [(.int (1 : Int32)), (.int (0 : Int32)), (.ref a1)])) (fun t k => XS.iconst X14.here hx rfl (hb hby own_d9_46) k) ?_
  refine own_adv (B := T14.setTop (mkF m 51 #[.val (.ref a1), .val (.ref a2), .val (.ref a2)] [(.int (1 : Int32)), (.int (0 : Int32)), (.ref a1)])) (fun t k => XS.goto X14.here hx rfl (pc0 := 47) (pc' := 51) rfl (hb hby own_d9_47) (by decide) (by decide) k) ?_
  obtain ⟨cq15, kq15, q15a, q15b, q15c⟩ := isOf hZ rfl MS14.1
  obtain ⟨_, _, ⟨T15, L15, k15, n15⟩, -, X15, ⟨Lc15, hQ15, l15, y15, z15⟩, st15⟩ := X14.virtualBackUp hx (x := (⟨"jakarta/faces/model/CollectionDataModel", "selectRow", "(IZ)V"⟩ : MethodName)) (y := (⟨"jakarta/faces/model/DataModel", "selectRow", "(IZ)V"⟩ : MethodName)) (owner := "jakarta/faces/model/DataModel") hown (mvT hZ (hw _ (List.mem_of_getElem? (i := 105) rfl))) (mvT hZ (hw _ (List.mem_of_getElem? (i := 106) rfl))) (mvT hZ (hw _ (List.mem_of_getElem? (i := 107) rfl))) (by decide) (mvT hZ (hw _ (List.mem_of_getElem? (i := 109) rfl))) (mvT hZ (hw _ (List.mem_of_getElem? (i := 108) rfl))) (backOf (W := 0) (rmSR l Z a0 hw [] a1 wL wE kE (0 : Int32) (1 : Int32) (-1 : Int32) (.ref a2) (.ref c12) T14.heap n0 (Nat.le_trans Z0 KK14.1) OL_14 EL FL VL MS14 g1 (by decide)) hZ (hw _ (List.mem_of_getElem? (i := 110) rfl)) (hw _ (List.mem_of_getElem? (i := 36) rfl)) (by decide) (by decide)) q15a q15c (g := (mkF m 51 #[.val (.ref a1), .val (.ref a2), .val (.ref a2)] [(.int (1 : Int32)), (.int (0 : Int32)), (.ref a1)])) rfl (by rw [hml]; rfl) (Steps.refl _) (argsL := [(.int (0 : Int32)), (.int (1 : Int32))]) (rest := []) (lenOf own_pd__IZ_V rfl) rfl (by show 2 * 0 + _ ≤ _; exact Nat.le_of_eq rfl) (hb hby own_d9_51) (fun _ _ => ⟨rfl, rfl, (by decide : 1 + 0 ≤ _), (by decide : 10 + 0 ≤ _)⟩)
  dsimp only [Pt.U, Pt.locs, Pt.cells, Pt.slots] at X15 l15 y15 z15 st15 hQ15
  subst l15 y15 z15
  obtain ⟨rfl, N15q, K15, MS15⟩ := hQ15
  have N15 := Fr.app N14 N15q
  have OL_15 : Old Z n0 T15.heap := Old.keep OL_14 K15 (allS g1 all0)
  have E_a1_15 : Exa Z T15.heap a1 "jakarta/faces/model/CollectionDataModel" := Exa.keep E_a1_14 K15
  have LS_15 : own_LS Z T15.heap a2 b2 k2 z2 sz vs := own_LS_keep LS_14 K15 (ninS n21 nin0) (ninS nb1 nin0)
  have V_c12_15 : Arv Z T15.heap c12 kc12 (.object "java/lang/Object") sz us12 .null := Arv.keep V_c12_14 K15 (ninS (Ne.symm ne_a1_c12) nin0)
  have KK15 : Keep h0 T15.heap [a1] := KK14.trans K15 (allS (Or.inl (List.mem_of_getElem? (i := 0) rfl)) all0)
  refine own_adv (B := T15.setTop (mkF m 54 #[.val (.ref a1), .val (.ref a2), .val (.ref a2)] [])) (fun t k => st15.trans k) ?_
  obtain ⟨fs, hr, hrun, hended, hW, hsame⟩ := X15.leave (v := none) (fun _ => rfl)
  refine ⟨_, _, X15.returnOut hx Bd.returns (hb hby own_d9_54) hr, hrun, hended, _, _, rfl, ?_, ⟨_, rfl⟩, hW, hsame.mono (by decide) (by decide)⟩
  exact ⟨_, _, _, rfl, N15, KK15, sz_c12, MS15, V_c12_15⟩
def own_QrmSW0 (Z : State) (a1 wL wE : Addr) (kE : ClassId) (ix : Int32) (cv ev : Value) (h0 : Heap) (n0 : Nat) (v : Option Value) (h : Heap) (L : List Loc) : Prop := v = none ∧ Fr n0 L ∧ Keep h0 h [a1] ∧ own_MS Z h a1 (.ref wL) (-1 : Int32) .null .null
set_option maxRecDepth 65536 in
set_option maxHeartbeats 40000000 in
theorem rmSW0 (l : Launch) (Z : State) (a0 : Array Value) (hw : ∀ d ∈ tables_1, d.before a0 Z = true) (ws : List Jvm.Cond) (a1 wL wE : Addr) (kE : ClassId) (ix : Int32) (cv ev : Value) (h0 : Heap) (n0 : Nat) (Z0 : n0 ≤ h0.size) (OL : Old Z n0 h0) (EL : Exa Z Z.heap wL "java/util/ImmutableCollections$ListN") (FL : Fld Z Z.heap wL "java/util/ImmutableCollections$ListN" "elements" "[Ljava/lang/Object;" (.ref wE)) (VL : Arv Z Z.heap wE kE (.object "java/lang/Object") (0 : Int32) [] .null) (MS : own_MS Z h0 a1 (.ref wL) ix cv ev) (g1 : n0 ≤ a1) :
    MetFree l (⟨"jakarta/faces/model/CollectionDataModel", "setWrappedData", "(Ljava/lang/Object;)V"⟩ : MethodName) (head1 (Jvm.Cond.code (⟨"jakarta/faces/model/CollectionDataModel", "setWrappedData", "(Ljava/lang/Object;)V"⟩ : MethodName) prog_40_method_9_code 3 none :: ws) ({ frames := 2, cells := 0, slots := 0, locals := 34 } : Room)) (fun a U => a = #[(.ref a1), .null] ∧ Z.Warmed39 U.vm ∧ U.heap = h0) (fun _ _ _ _ _ => True) (fun _ U o U' => ∃ v L, o = .returned v ∧ own_QrmSW0 Z a1 wL wE kE ix cv ev h0 n0 v U'.heap L ∧ FrameEnd U o U' L ({ frames := 2, cells := 0, slots := 0, locals := 34 } : Room).cells ({ frames := 2, cells := 0, slots := 0, locals := 34 } : Room).slots) := by
  refine MetFree.of_bodySF (plainFor_of_name own_pn_jakarta_faces_model_CollectionDataModel) hisR ?_
  intro p e s m args below meth c s₁ Bd hml0 hP hK
  obtain ⟨rfl, hZ, hh⟩ := hP
  have hx := Bd.exec
  have hby := Bd.bytes
  have hml : c.maxLocals = 3 := hml0
  have hown : s.vm.findClass "jakarta/faces/model/CollectionDataModel" = some m.cls := findClass_of_methodNamed Bd.named
  have hnm := (name_of_methodNamed Bd.named Bd.method).1
  have X0 : Stand p l e ({ frames := 2, cells := 0, slots := 0, locals := 34 } : Room) s m #[(.ref a1), .null] below meth c s₁ [] 0 0 := Stand.of_body Bd
  have e0 : s₁.heap = h0 := by rw [← hh, Bd.state]; rfl
  have N0 := Fr.nil n0
  refine own_adv (B := s₁.setTop (mkF m 0 #[.val (.ref a1), .val .null, .unset] [])) (fun t k => castTop (own_ef_rmSW0 m a1) k) ?_
  have KK0 : Keep h0 h0 [a1] := Keep.refl h0 _
  obtain ⟨E1, FL1, FI1, FC1, FE1⟩ := MS
  refine own_adv (B := s₁.setTop (mkF m 1 #[.val (.ref a1), .val .null, .unset] [.null])) (fun t k => XS.aloadN X0.here hx rfl (hb hby own_d9_0) rfl rfl k) ?_
  refine own_adv (B := s₁.setTop (mkF m 4 #[.val (.ref a1), .val .null, .unset] [.null])) (fun t k => X0.checkcastNull hx (g := (mkF m 1 #[.val (.ref a1), .val .null, .unset] [.null])) rfl rfl (hb hby own_d9_1) _ k) ?_
  refine own_adv (B := s₁.setTop (mkF m 5 #[.val (.ref a1), .val .null, .val .null] [])) (fun t k => XS.astoreN X0.here hx rfl (hb hby own_d9_4) rfl rfl (l' := #[.val (.ref a1), .val .null, .val .null]) rfl k) ?_
  refine own_adv (B := s₁.setTop (mkF m 6 #[.val (.ref a1), .val .null, .val .null] [(.ref a1)])) (fun t k => XS.aloadN X0.here hx rfl (hb hby own_d9_5) rfl rfl k) ?_
  refine own_adv (B := s₁.setTop (mkF m 7 #[.val (.ref a1), .val .null, .val .null] [.null, (.ref a1)])) (fun t k => XS.aloadN X0.here hx rfl (hb hby own_d9_6) rfl rfl k) ?_
  obtain ⟨T10, h10, X10, e10, W10, st10⟩ := putF X0 hx hZ hown (host := "") (Or.inl (hw _ (List.mem_of_getElem? (i := 54) rfl))) Via.refl e0 FC1 E1 (Or.inl (hw _ (List.mem_of_getElem? (i := 55) rfl))) (hw _ (List.mem_of_getElem? (i := 28) rfl)) (ty := (.object "java/util/Collection")) (by decide) rfl rfl (g := (mkF m 7 #[.val (.ref a1), .val .null, .val .null] [.null, (.ref a1)])) rfl rfl (hb hby own_d9_7)
  subst e10
  have N10 := Fr.snoc X10 N0 g1
  have OL_10 : Old Z n0 T10.heap := Old.keep OL (Keep.of_wr W10) (allS g1 all0)
  have E_a1_10 : Exa Z T10.heap a1 "jakarta/faces/model/CollectionDataModel" := Exa.keep E1 (Keep.of_wr W10)
  have F_listeners_a1_10 : Fld Z T10.heap a1 "jakarta/faces/model/DataModel" "listeners" "Ljava/util/List;" (.ref wL) := Fld.other W10 FL1 (Or.inr (slot_ne (Or.inl (hw _ (List.mem_of_getElem? (i := 46) rfl))) (Or.inl (hw _ (List.mem_of_getElem? (i := 55) rfl))) (by decide) (t := (.object "java/util/List")) (t' := (.object "java/util/Collection")) (by decide) (by decide)))
  have F_index_a1_10 : Fld Z T10.heap a1 "jakarta/faces/model/DataModel" "index" "I" (.int ix) := Fld.other W10 FI1 (Or.inr (slot_ne (Or.inl (hw _ (List.mem_of_getElem? (i := 48) rfl))) (Or.inl (hw _ (List.mem_of_getElem? (i := 55) rfl))) (by decide) (t := .int) (t' := (.object "java/util/Collection")) (by decide) (by decide)))
  have F_collection_a1_10 : Fld Z T10.heap a1 "jakarta/faces/model/CollectionDataModel" "collection" "Ljava/util/Collection;" .null := Fld.same W10 FC1
  have F_elements_a1_10 : Fld Z T10.heap a1 "jakarta/faces/model/CollectionDataModel" "elements" "[Ljava/lang/Object;" ev := Fld.other W10 FE1 (Or.inr (slot_ne (Or.inl (hw _ (List.mem_of_getElem? (i := 98) rfl))) (Or.inl (hw _ (List.mem_of_getElem? (i := 55) rfl))) (by decide) (t := (.array (.object "java/lang/Object"))) (t' := (.object "java/util/Collection")) (by decide) (by decide)))
  have KK10 : Keep h0 T10.heap [a1] := KK0.wr W10 (Or.inl (List.mem_of_getElem? (i := 0) rfl))
  refine own_adv (B := T10.setTop (mkF m 10 #[.val (.ref a1), .val .null, .val .null] [])) st10 ?_
  refine own_adv (B := T10.setTop (mkF m 11 #[.val (.ref a1), .val .null, .val .null] [(.ref a1)])) (fun t k => XS.aloadN X10.here hx rfl (hb hby own_d9_10) rfl rfl k) ?_
  refine own_adv (B := T10.setTop (mkF m 12 #[.val (.ref a1), .val .null, .val .null] [.null, (.ref a1)])) (fun t k => XS.aloadN X10.here hx rfl (hb hby own_d9_11) rfl rfl k) ?_
  refine own_adv (B := T10.setTop (mkF m 15 #[.val (.ref a1), .val .null, .val .null] [(.ref a1)])) (fun t k => XS.ifnonnullNo X10.here hx rfl (hb hby own_d9_12) rfl k) ?_
  refine own_adv (B := T10.setTop (mkF m 16 #[.val (.ref a1), .val .null, .val .null] [.null, (.ref a1)])) (fun t k => XS.aconstNull X10.here hx rfl (hb hby own_d9_15) k) ?_
  refine own_adv (B := T10.setTop (mkF m 25 #[.val (.ref a1), .val .null, .val .null] [.null, (.ref a1)])) (fun t k => XS.goto X10.here hx rfl (pc0 := 16) (pc' := 25) rfl (hb hby own_d9_16) (by decide) (by decide) k) ?_
  obtain ⟨T11, h11, X11, e11, W11, st11⟩ := putF X10 hx hZ hown (host := "") (Or.inl (hw _ (List.mem_of_getElem? (i := 97) rfl))) Via.refl rfl F_elements_a1_10 E_a1_10 (Or.inl (hw _ (List.mem_of_getElem? (i := 98) rfl))) (hw _ (List.mem_of_getElem? (i := 28) rfl)) (ty := (.array (.object "java/lang/Object"))) (by decide) rfl rfl (g := (mkF m 25 #[.val (.ref a1), .val .null, .val .null] [.null, (.ref a1)])) rfl rfl (hb hby own_d9_25)
  subst e11
  have N11 := Fr.snoc X11 N10 g1
  have OL_11 : Old Z n0 T11.heap := Old.keep OL_10 (Keep.of_wr W11) (allS g1 all0)
  have E_a1_11 : Exa Z T11.heap a1 "jakarta/faces/model/CollectionDataModel" := Exa.keep E_a1_10 (Keep.of_wr W11)
  have F_listeners_a1_11 : Fld Z T11.heap a1 "jakarta/faces/model/DataModel" "listeners" "Ljava/util/List;" (.ref wL) := Fld.other W11 F_listeners_a1_10 (Or.inr (slot_ne (Or.inl (hw _ (List.mem_of_getElem? (i := 46) rfl))) (Or.inl (hw _ (List.mem_of_getElem? (i := 98) rfl))) (by decide) (t := (.object "java/util/List")) (t' := (.array (.object "java/lang/Object"))) (by decide) (by decide)))
  have F_index_a1_11 : Fld Z T11.heap a1 "jakarta/faces/model/DataModel" "index" "I" (.int ix) := Fld.other W11 F_index_a1_10 (Or.inr (slot_ne (Or.inl (hw _ (List.mem_of_getElem? (i := 48) rfl))) (Or.inl (hw _ (List.mem_of_getElem? (i := 98) rfl))) (by decide) (t := .int) (t' := (.array (.object "java/lang/Object"))) (by decide) (by decide)))
  have F_collection_a1_11 : Fld Z T11.heap a1 "jakarta/faces/model/CollectionDataModel" "collection" "Ljava/util/Collection;" .null := Fld.other W11 F_collection_a1_10 (Or.inr (slot_ne (Or.inl (hw _ (List.mem_of_getElem? (i := 55) rfl))) (Or.inl (hw _ (List.mem_of_getElem? (i := 98) rfl))) (by decide) (t := (.object "java/util/Collection")) (t' := (.array (.object "java/lang/Object"))) (by decide) (by decide)))
  have F_elements_a1_11 : Fld Z T11.heap a1 "jakarta/faces/model/CollectionDataModel" "elements" "[Ljava/lang/Object;" .null := Fld.same W11 F_elements_a1_10
  have KK11 : Keep h0 T11.heap [a1] := KK10.wr W11 (Or.inl (List.mem_of_getElem? (i := 0) rfl))
  refine own_adv (B := T11.setTop (mkF m 28 #[.val (.ref a1), .val .null, .val .null] [])) st11 ?_
  refine own_adv (B := T11.setTop (mkF m 29 #[.val (.ref a1), .val .null, .val .null] [(.ref a1)])) (fun t k => XS.aloadN X11.here hx rfl (hb hby own_d9_28) rfl rfl k) ?_
  obtain ⟨cq12, kq12, q12a, q12b, q12c⟩ := isOf hZ rfl E_a1_11
  obtain ⟨_, _, ⟨T12, L12, k12, n12⟩, -, X12, ⟨Lc12, hQ12, l12, y12, z12⟩, st12⟩ := X11.virtualBackUp hx (x := (⟨"jakarta/faces/model/CollectionDataModel", "clearRow", "()V"⟩ : MethodName)) (y := (⟨"jakarta/faces/model/DataModel", "clearRow", "()V"⟩ : MethodName)) (owner := "jakarta/faces/model/DataModel") hown (mvT hZ (hw _ (List.mem_of_getElem? (i := 99) rfl))) (mvT hZ (hw _ (List.mem_of_getElem? (i := 100) rfl))) (mvT hZ (hw _ (List.mem_of_getElem? (i := 101) rfl))) (by decide) (mvT hZ (hw _ (List.mem_of_getElem? (i := 103) rfl))) (mvT hZ (hw _ (List.mem_of_getElem? (i := 102) rfl))) (backOf (W := 0) (rmCR l Z a0 hw [] a1 (.ref wL) .null .null ix T11.heap n0 (Nat.le_trans Z0 KK11.1) ⟨E_a1_11, F_listeners_a1_11, F_index_a1_11, F_collection_a1_11, F_elements_a1_11⟩ g1) hZ (hw _ (List.mem_of_getElem? (i := 104) rfl)) (hw _ (List.mem_of_getElem? (i := 36) rfl)) (by decide) (by decide)) q12a q12c (g := (mkF m 29 #[.val (.ref a1), .val .null, .val .null] [(.ref a1)])) rfl (by rw [hml]; rfl) (Steps.refl _) (argsL := []) (rest := []) (lenOf own_pd___V rfl) rfl (by show 2 * 0 + _ ≤ _; exact Nat.le_of_eq rfl) (hb hby own_d9_29) (fun _ _ => ⟨rfl, rfl, (by decide : 0 + 0 ≤ _), (by decide : 0 + 0 ≤ _)⟩)
  dsimp only [Pt.U, Pt.locs, Pt.cells, Pt.slots] at X12 l12 y12 z12 st12 hQ12
  subst l12 y12 z12
  obtain ⟨rfl, N12q, K12, MS12⟩ := hQ12
  have N12 := Fr.app N11 N12q
  have OL_12 : Old Z n0 T12.heap := Old.keep OL_11 K12 (allS g1 all0)
  have E_a1_12 : Exa Z T12.heap a1 "jakarta/faces/model/CollectionDataModel" := Exa.keep E_a1_11 K12
  have KK12 : Keep h0 T12.heap [a1] := KK11.trans K12 (allS (Or.inl (List.mem_of_getElem? (i := 0) rfl)) all0)
  refine own_adv (B := T12.setTop (mkF m 32 #[.val (.ref a1), .val .null, .val .null] [])) (fun t k => st12.trans k) ?_
  refine own_adv (B := T12.setTop (mkF m 33 #[.val (.ref a1), .val .null, .val .null] [(.ref a1)])) (fun t k => XS.aloadN X12.here hx rfl (hb hby own_d9_32) rfl rfl k) ?_
  refine own_adv (B := T12.setTop (mkF m 34 #[.val (.ref a1), .val .null, .val .null] [.null, (.ref a1)])) (fun t k => XS.aloadN X12.here hx rfl (hb hby own_d9_33) rfl rfl k) ?_
  refine own_adv (B := T12.setTop (mkF m 37 #[.val (.ref a1), .val .null, .val .null] [(.ref a1)])) (fun t k => XS.ifnonnullNo X12.here hx rfl (hb hby own_d9_34) rfl k) ?_
  refine own_adv (B := T12.setTop (mkF m 38 #[.val (.ref a1), .val .null, .val .null] [(.int (-1 : Int32)), (.ref a1)])) (fun t k => XS.iconst X12.here hx rfl (hb hby own_d9_37) k) ?_
  refine own_adv (B := T12.setTop (mkF m 42 #[.val (.ref a1), .val .null, .val .null] [(.int (-1 : Int32)), (.ref a1)])) (fun t k => XS.goto X12.here hx rfl (pc0 := 38) (pc' := 42) rfl (hb hby own_d9_38) (by decide) (by decide) k) ?_
  refine own_adv (B := T12.setTop (mkF m 43 #[.val (.ref a1), .val .null, .val .null] [.null, (.int (-1 : Int32)), (.ref a1)])) (fun t k => XS.aloadN X12.here hx rfl (hb hby own_d9_42) rfl rfl k) ?_
  refine own_adv (B := T12.setTop (mkF m 50 #[.val (.ref a1), .val .null, .val .null] [(.int (-1 : Int32)), (.ref a1)])) (fun t k => XS.ifnullYes X12.here hx rfl (pc0 := 43) (pc' := 50) rfl (hb hby own_d9_43) rfl (by decide) (by decide) k) ?_
  refine own_adv (B := T12.setTop (mkF m 51 #[.val (.ref a1), .val .null, .val .null] [(.int (0 : Int32)), (.int (-1 : Int32)), (.ref a1)])) (fun t k => XS.iconst X12.here hx rfl (hb hby own_d9_50) k) ?_
  obtain ⟨cq13, kq13, q13a, q13b, q13c⟩ := isOf hZ rfl MS12.1
  obtain ⟨_, _, ⟨T13, L13, k13, n13⟩, -, X13, ⟨Lc13, hQ13, l13, y13, z13⟩, st13⟩ := X12.virtualBackUp hx (x := (⟨"jakarta/faces/model/CollectionDataModel", "selectRow", "(IZ)V"⟩ : MethodName)) (y := (⟨"jakarta/faces/model/DataModel", "selectRow", "(IZ)V"⟩ : MethodName)) (owner := "jakarta/faces/model/DataModel") hown (mvT hZ (hw _ (List.mem_of_getElem? (i := 105) rfl))) (mvT hZ (hw _ (List.mem_of_getElem? (i := 106) rfl))) (mvT hZ (hw _ (List.mem_of_getElem? (i := 107) rfl))) (by decide) (mvT hZ (hw _ (List.mem_of_getElem? (i := 109) rfl))) (mvT hZ (hw _ (List.mem_of_getElem? (i := 108) rfl))) (backOf (W := 0) (rmSR l Z a0 hw [] a1 wL wE kE (-1 : Int32) (0 : Int32) (-1 : Int32) .null .null T12.heap n0 (Nat.le_trans Z0 KK12.1) OL_12 EL FL VL MS12 g1 (by decide)) hZ (hw _ (List.mem_of_getElem? (i := 110) rfl)) (hw _ (List.mem_of_getElem? (i := 36) rfl)) (by decide) (by decide)) q13a q13c (g := (mkF m 51 #[.val (.ref a1), .val .null, .val .null] [(.int (0 : Int32)), (.int (-1 : Int32)), (.ref a1)])) rfl (by rw [hml]; rfl) (Steps.refl _) (argsL := [(.int (-1 : Int32)), (.int (0 : Int32))]) (rest := []) (lenOf own_pd__IZ_V rfl) rfl (by show 2 * 0 + _ ≤ _; exact Nat.le_of_eq rfl) (hb hby own_d9_51) (fun _ _ => ⟨rfl, rfl, (by decide : 0 + 0 ≤ _), (by decide : 0 + 0 ≤ _)⟩)
  dsimp only [Pt.U, Pt.locs, Pt.cells, Pt.slots] at X13 l13 y13 z13 st13 hQ13
  subst l13 y13 z13
  obtain ⟨rfl, N13q, K13, MS13⟩ := hQ13
  have N13 := Fr.app N12 N13q
  have OL_13 : Old Z n0 T13.heap := Old.keep OL_12 K13 (allS g1 all0)
  have E_a1_13 : Exa Z T13.heap a1 "jakarta/faces/model/CollectionDataModel" := Exa.keep E_a1_12 K13
  have KK13 : Keep h0 T13.heap [a1] := KK12.trans K13 (allS (Or.inl (List.mem_of_getElem? (i := 0) rfl)) all0)
  refine own_adv (B := T13.setTop (mkF m 54 #[.val (.ref a1), .val .null, .val .null] [])) (fun t k => st13.trans k) ?_
  obtain ⟨fs, hr, hrun, hended, hW, hsame⟩ := X13.leave (v := none) (fun _ => rfl)
  refine ⟨_, _, X13.returnOut hx Bd.returns (hb hby own_d9_54) hr, hrun, hended, _, _, rfl, ?_, ⟨_, rfl⟩, hW, hsame.mono (by decide) (by decide)⟩
  exact ⟨rfl, N13, KK13, MS13⟩
def own_Qrm0 (Z : State) (p1 p2 p3 p4 p5 : Int32) (wD wL wE wC mr : Addr) (kD kE : ClassId) (cC : Cell) (h0 : Heap) (n0 : Nat) (v : Option Value) (h : Heap) (L : List Loc) : Prop := v = some (.int 1) ∧ Fr n0 L
set_option maxRecDepth 65536 in
set_option maxHeartbeats 40000000 in
theorem rm0 (l : Launch) (Z : State) (a0 : Array Value) (hw : ∀ d ∈ tables_1, d.before a0 Z = true) (ws : List Jvm.Cond) (p1 p2 p3 p4 p5 : Int32) (wD wL wE wC mr : Addr) (kD kE : ClassId) (cC : Cell) (h0 : Heap) (n0 : Nat) (Z0 : n0 ≤ h0.size) (OL : Old Z n0 h0) (S_D : Sta Z Z.heap "java/util/ArrayList" "DEFAULTCAPACITY_EMPTY_ELEMENTDATA" "[Ljava/lang/Object;" (.ref wD)) (ED : Exa Z Z.heap wD "[Ljava/lang/Object;") (VD : Arv Z Z.heap wD kD (.object "java/lang/Object") (0 : Int32) [] .null) (S_L : Sta Z Z.heap "java/util/ImmutableCollections" "EMPTY_LIST" "Ljava/util/ImmutableCollections$ListN;" (.ref wL)) (EL : Exa Z Z.heap wL "java/util/ImmutableCollections$ListN") (FL : Fld Z Z.heap wL "java/util/ImmutableCollections$ListN" "elements" "[Ljava/lang/Object;" (.ref wE)) (VL : Arv Z Z.heap wE kE (.object "java/lang/Object") (0 : Int32) [] .null) (S_h : Sta Z Z.heap "java/lang/Integer$IntegerCache" "high" "I" (.int (127 : Int32))) (S_c : Sta Z Z.heap "java/lang/Integer$IntegerCache" "cache" "[Ljava/lang/Integer;" (.ref wC)) (AC : Arr Z Z.heap wC cC (.object "java/lang/Integer")) (szC : cC.slots.size = 256) (elC : ∀ j : Int32, ¬ (j < 0 ∨ cC.slots.size ≤ j.toNatClampNeg) → ∃ y, cC.slots[j.toNatClampNeg]? = some (.ref y) ∧ Exa Z Z.heap y "java/lang/Integer") (MR : own_Mir Z "[Ljava/lang/Object;" mr) :
    MetFree l x (head1 (Jvm.Cond.code x code maxLocals ret :: ws) room_1) (fun a U => a = #[(.int p1), (.int p2), (.int p3), (.int p4), (.int p5)] ∧ Z.Warmed39 U.vm ∧ U.heap = h0) (fun _ _ _ _ _ => True) (fun _ U o U' => ∃ v L, o = .returned v ∧ own_Qrm0 Z p1 p2 p3 p4 p5 wD wL wE wC mr kD kE cC h0 n0 v U'.heap L ∧ FrameEnd U o U' L room_1.cells room_1.slots) := by
  refine MetFree.of_bodySF (plainFor_of_name own_pn_jakarta_faces_model_CollectionDataModelGetRowCountPinLaw) hisR ?_
  intro p e s m args below meth c s₁ Bd hml0 hP hK
  obtain ⟨rfl, hZ, hh⟩ := hP
  have hx := Bd.exec
  have hby := Bd.bytes
  have hml : c.maxLocals = 10 := hml0
  have hown : s.vm.findClass "jakarta/faces/model/CollectionDataModelGetRowCountPinLaw" = some m.cls := findClass_of_methodNamed Bd.named
  have hnm := (name_of_methodNamed Bd.named Bd.method).1
  have X0 : Stand p l e room_1 s m #[(.int p1), (.int p2), (.int p3), (.int p4), (.int p5)] below meth c s₁ [] 0 0 := Stand.of_body Bd
  have e0 : s₁.heap = h0 := by rw [← hh, Bd.state]; rfl
  have N0 := Fr.nil n0
  refine own_adv (B := s₁.setTop (mkF m 0 #[.val (.int p1), .val (.int p2), .val (.int p3), .val (.int p4), .val (.int p5), .unset, .unset, .unset, .unset, .unset] [])) (fun t k => castTop (own_ef_rm0 m p1 p2 p3 p4 p5) k) ?_
  have KK0 : Keep h0 h0 [] := Keep.refl h0 _
  have tail : ∀ (Tt : State) (Lt : List Loc) (nx : Int32) (la lb : Addr) (lk : ClassId) (lz : Int32) (lvs : List Value), Stand p l e room_1 s m #[(.int p1), (.int p2), (.int p3), (.int p4), (.int p5)] below meth c Tt Lt 6 17 → Fr n0 Lt → Old Z n0 Tt.heap → Keep h0 Tt.heap [] → own_LS Z Tt.heap la lb lk lz nx lvs → h0.size ≤ la → ((lb = wD ∧ lk = kD ∧ lz = 0 ∧ nx = 0 ∧ lvs = []) ∨ (h0.size ≤ lb ∧ lz = 10 ∧ nx < 10 ∧ la ≠ lb ∧ Ovr Z lk "java/lang/Object")) → nx.toNatClampNeg ≤ 10 →
      ∃ s₂ o, Steps p.tables e below (Tt.setTop (mkF m 96 #[.val (.int p1), .val (.int p2), .val (.int p3), .val (.int p4), .val (.int p5), .val (.int nx), .val (.ref la), .unset, .unset, .unset] [])) s₂ ∧ s₂.status = .running ∧ Ended s₂ below o ∧ (∃ v L, o = .returned v ∧ own_Qrm0 Z p1 p2 p3 p4 p5 wD wL wE wC mr kD kE cC h0 n0 v s₂.heap L ∧ FrameEnd s o s₂ L room_1.cells room_1.slots) := by
    intro Tt Lt nx la lb lk lz lvs Xt Nt OLt Kt LSt sla hk hc
    have ga := Nat.le_trans Z0 sla
    obtain ⟨T10, h10, X10, e10, E10, A10, D10, -, st10⟩ := newO Xt hx hZ hown (hw _ (List.mem_of_getElem? (i := 27) rfl)) (hw _ (List.mem_of_getElem? (i := 28) rfl)) (hw _ (List.mem_of_getElem? (i := 29) rfl)) rfl (g := (mkF m 96 #[.val (.int p1), .val (.int p2), .val (.int p3), .val (.int p4), .val (.int p5), .val (.int nx), .val (.ref la), .unset, .unset, .unset] [])) rfl (hb hby at_96) (by decide) (by decide)
    obtain ⟨b10, g10⟩ : ∃ z, z = Tt.heap.size := ⟨_, rfl⟩
    rw [← g10] at A10 D10 st10
    subst e10
    have ne_la_b10 : la ≠ b10 := Nat.ne_of_lt (Nat.lt_of_lt_of_le LSt.1.lt (Nat.le_of_eq g10.symm))
    have ne_lb_b10 : lb ≠ b10 := Nat.ne_of_lt (Nat.lt_of_lt_of_le LSt.2.2.2.2.1.lt (Nat.le_of_eq g10.symm))
    have sz_b10 : h0.size ≤ b10 := Nat.le_trans Kt.1 (Nat.le_of_eq g10.symm)
    have g_b10 : n0 ≤ b10 := Nat.le_trans Z0 sz_b10
    have OL_10 : Old Z n0 T10.heap := Old.keep OLt ((Keep.refl _ []).ext E10) all0
    have LS_10 : own_LS Z T10.heap la lb lk lz nx lvs := own_LS_keep LSt ((Keep.refl _ []).ext E10) nin0 nin0
    have KK10 : Keep h0 T10.heap [] := Kt.ext E10
    have F_listeners_b10 : Fld Z T10.heap b10 "jakarta/faces/model/DataModel" "listeners" "Ljava/util/List;" .null := D10 (Or.inl (hw _ (List.mem_of_getElem? (i := 46) rfl))) (ty := (.object "java/util/List")) (by decide)
    have F_index_b10 : Fld Z T10.heap b10 "jakarta/faces/model/DataModel" "index" "I" (.int (0 : Int32)) := D10 (Or.inl (hw _ (List.mem_of_getElem? (i := 48) rfl))) (ty := .int) (by decide)
    have F_collection_b10 : Fld Z T10.heap b10 "jakarta/faces/model/CollectionDataModel" "collection" "Ljava/util/Collection;" .null := D10 (Or.inl (hw _ (List.mem_of_getElem? (i := 55) rfl))) (ty := (.object "java/util/Collection")) (by decide)
    have F_elements_b10 : Fld Z T10.heap b10 "jakarta/faces/model/CollectionDataModel" "elements" "[Ljava/lang/Object;" .null := D10 (Or.inl (hw _ (List.mem_of_getElem? (i := 98) rfl))) (ty := (.array (.object "java/lang/Object"))) (by decide)
    refine own_adv (B := T10.setTop (mkF m 99 #[.val (.int p1), .val (.int p2), .val (.int p3), .val (.int p4), .val (.int p5), .val (.int nx), .val (.ref la), .unset, .unset, .unset] [(.ref b10)])) st10 ?_
    refine own_adv (B := T10.setTop (mkF m 100 #[.val (.int p1), .val (.int p2), .val (.int p3), .val (.int p4), .val (.int p5), .val (.int nx), .val (.ref la), .unset, .unset, .unset] [(.ref b10), (.ref b10)])) (fun t k => XS.dup X10.here hx rfl (hb hby at_99) rfl rfl k) ?_
    obtain ⟨_, _, ⟨T11, L11, k11, n11⟩, -, X11, ⟨Lc11, hQ11, l11, y11, z11⟩, st11⟩ := X10.specialBack hx (y := (⟨"jakarta/faces/model/CollectionDataModel", "<init>", "()V"⟩ : MethodName)) rfl hown (mvT hZ (hw _ (List.mem_of_getElem? (i := 30) rfl))) (mvT hZ (hw _ (List.mem_of_getElem? (i := 31) rfl))) (mvT hZ (hw _ (List.mem_of_getElem? (i := 32) rfl))) (by decide) (backOf (W := 1) (rmCDI l Z a0 hw [] b10 wL T10.heap n0 (Nat.le_trans Z0 KK10.1) OL_10 S_L ⟨A10, F_listeners_b10, F_index_b10, F_collection_b10, F_elements_b10⟩ g_b10) hZ (hw _ (List.mem_of_getElem? (i := 32) rfl)) (hw _ (List.mem_of_getElem? (i := 29) rfl)) (by decide) (by decide)) (g := (mkF m 100 #[.val (.int p1), .val (.int p2), .val (.int p3), .val (.int p4), .val (.int p5), .val (.int nx), .val (.ref la), .unset, .unset, .unset] [(.ref b10), (.ref b10)])) rfl (by rw [hml]; rfl) (Steps.refl _) (a := b10) (argsL := []) (rest := [(.ref b10)]) (lenOf own_pd___V rfl) rfl (by show 2 * 0 + _ ≤ _; exact Nat.le_of_eq rfl) (hb hby at_100) (fun _ _ => ⟨rfl, rfl, (by decide : 7 + 0 ≤ _), (by decide : 21 + 0 ≤ _)⟩)
    dsimp only [Pt.U, Pt.locs, Pt.cells, Pt.slots] at X11 l11 y11 z11 st11 hQ11
    subst l11 y11 z11
    obtain ⟨rfl, N11q, K11, MS11⟩ := hQ11
    have N11 := Fr.app Nt N11q
    have OL_11 : Old Z n0 T11.heap := Old.keep OL_10 K11 (allS g_b10 all0)
    have LS_11 : own_LS Z T11.heap la lb lk lz nx lvs := own_LS_keep LS_10 K11 (ninS ne_la_b10 nin0) (ninS ne_lb_b10 nin0)
    have E_b10_11 : Exa Z T11.heap b10 "jakarta/faces/model/CollectionDataModel" := Exa.keep A10 K11
    have KK11 : Keep h0 T11.heap [] := KK10.trans K11 (allS (Or.inr sz_b10) all0)
    refine own_adv (B := T11.setTop (mkF m 103 #[.val (.int p1), .val (.int p2), .val (.int p3), .val (.int p4), .val (.int p5), .val (.int nx), .val (.ref la), .unset, .unset, .unset] [(.ref b10)])) (fun t k => st11.trans k) ?_
    refine own_adv (B := T11.setTop (mkF m 105 #[.val (.int p1), .val (.int p2), .val (.int p3), .val (.int p4), .val (.int p5), .val (.int nx), .val (.ref la), .val (.ref b10), .unset, .unset] [])) (fun t k => XS.astore X11.here hx rfl (hb hby at_103) rfl rfl (l' := #[.val (.int p1), .val (.int p2), .val (.int p3), .val (.int p4), .val (.int p5), .val (.int nx), .val (.ref la), .val (.ref b10), .unset, .unset]) rfl k) ?_
    refine own_adv (B := T11.setTop (mkF m 107 #[.val (.int p1), .val (.int p2), .val (.int p3), .val (.int p4), .val (.int p5), .val (.int nx), .val (.ref la), .val (.ref b10), .unset, .unset] [(.ref b10)])) (fun t k => XS.aload X11.here hx rfl (hb hby at_105) rfl rfl k) ?_
    obtain ⟨cq12, kq12, q12a, q12b, q12c⟩ := isOf hZ rfl MS11.1
    obtain ⟨_, _, ⟨T12, L12, k12, n12⟩, -, X12, ⟨Lc12, hQ12, l12, y12, z12⟩, st12⟩ := X11.virtualBack hx (y := (⟨"jakarta/faces/model/CollectionDataModel", "getRowCount", "()I"⟩ : MethodName)) (z := (⟨"jakarta/faces/model/CollectionDataModel", "getRowCount", "()I"⟩ : MethodName)) hown (mvT hZ (hw _ (List.mem_of_getElem? (i := 49) rfl))) (mvT hZ (hw _ (List.mem_of_getElem? (i := 50) rfl))) (notFace_of_selects (args := #[]) (mvT hZ (hw _ (List.mem_of_getElem? (i := 52) rfl)))) (mvT hZ (hw _ (List.mem_of_getElem? (i := 52) rfl))) (mvT hZ (hw _ (List.mem_of_getElem? (i := 51) rfl))) (by decide) (backOf (W := 0) (rmRC0 l Z a0 hw [] b10 (.ref wL) .null (-1 : Int32) T11.heap n0 (Nat.le_trans Z0 KK11.1) MS11) hZ (hw _ (List.mem_of_getElem? (i := 53) rfl)) (hw _ (List.mem_of_getElem? (i := 29) rfl)) (by decide) (by decide)) q12a q12c (g := (mkF m 107 #[.val (.int p1), .val (.int p2), .val (.int p3), .val (.int p4), .val (.int p5), .val (.int nx), .val (.ref la), .val (.ref b10), .unset, .unset] [(.ref b10)])) rfl (by rw [hml]; rfl) (Steps.refl _) (argsL := []) (rest := []) (lenOf own_pd___I rfl) rfl (by show 2 * 0 + _ ≤ _; exact Nat.le_of_eq rfl) (hb hby at_107) (fun _ _ => ⟨rfl, rfl, (by decide : 7 + 0 ≤ _), (by decide : 21 + 0 ≤ _)⟩)
    dsimp only [Pt.U, Pt.locs, Pt.cells, Pt.slots] at X12 l12 y12 z12 st12 hQ12
    subst l12 y12 z12
    obtain ⟨rfl, N12q, e12⟩ := hQ12
    have N12 := Fr.app N11 N12q
    refine own_adv (B := T12.setTop (mkF m 110 #[.val (.int p1), .val (.int p2), .val (.int p3), .val (.int p4), .val (.int p5), .val (.int nx), .val (.ref la), .val (.ref b10), .unset, .unset] [(.int (-1 : Int32))])) (fun t k => st12.trans k) ?_
    refine own_adv (B := T12.setTop (mkF m 111 #[.val (.int p1), .val (.int p2), .val (.int p3), .val (.int p4), .val (.int p5), .val (.int nx), .val (.ref la), .val (.ref b10), .unset, .unset] [(.int (-1 : Int32)), (.int (-1 : Int32))])) (fun t k => XS.iconst X12.here hx rfl (hb hby at_110) k) ?_
    refine own_adv (B := T12.setTop (mkF m 114 #[.val (.int p1), .val (.int p2), .val (.int p3), .val (.int p4), .val (.int p5), .val (.int nx), .val (.ref la), .val (.ref b10), .unset, .unset] [])) (fun t k => XS.icmpNo X12.here hx rfl (hb hby at_111) rfl (teq (rfl : (-1 : Int32) = (-1 : Int32))).2 k) ?_
    refine own_adv (B := T12.setTop (mkF m 115 #[.val (.int p1), .val (.int p2), .val (.int p3), .val (.int p4), .val (.int p5), .val (.int nx), .val (.ref la), .val (.ref b10), .unset, .unset] [(.int (1 : Int32))])) (fun t k => XS.iconst X12.here hx rfl (hb hby at_114) k) ?_
    refine own_adv (B := T12.setTop (mkF m 119 #[.val (.int p1), .val (.int p2), .val (.int p3), .val (.int p4), .val (.int p5), .val (.int nx), .val (.ref la), .val (.ref b10), .unset, .unset] [(.int (1 : Int32))])) (fun t k => XS.goto X12.here hx rfl (pc0 := 115) (pc' := 119) rfl (hb hby at_115) (by decide) (by decide) k) ?_
    refine own_adv (B := T12.setTop (mkF m 121 #[.val (.int p1), .val (.int p2), .val (.int p3), .val (.int p4), .val (.int p5), .val (.int nx), .val (.ref la), .val (.ref b10), .val (.int (1 : Int32)), .unset] [])) (fun t k => XS.istore X12.here hx rfl (hb hby at_119) rfl (l' := #[.val (.int p1), .val (.int p2), .val (.int p3), .val (.int p4), .val (.int p5), .val (.int nx), .val (.ref la), .val (.ref b10), .val (.int (1 : Int32)), .unset]) rfl k) ?_
    refine own_adv (B := T12.setTop (mkF m 123 #[.val (.int p1), .val (.int p2), .val (.int p3), .val (.int p4), .val (.int p5), .val (.int nx), .val (.ref la), .val (.ref b10), .val (.int (1 : Int32)), .unset] [(.ref b10)])) (fun t k => XS.aload X12.here hx rfl (hb hby at_121) rfl rfl k) ?_
    refine own_adv (B := T12.setTop (mkF m 125 #[.val (.int p1), .val (.int p2), .val (.int p3), .val (.int p4), .val (.int p5), .val (.int nx), .val (.ref la), .val (.ref b10), .val (.int (1 : Int32)), .unset] [(.ref la), (.ref b10)])) (fun t k => XS.aload X12.here hx rfl (hb hby at_123) rfl rfl k) ?_
    obtain ⟨cq13, kq13, q13a, q13b, q13c⟩ := isOf hZ e12 MS11.1
    obtain ⟨_, _, ⟨T13, L13, k13, n13⟩, -, X13, ⟨Lc13, hQ13, l13, y13, z13⟩, st13⟩ := X12.virtualBack hx (y := (⟨"jakarta/faces/model/CollectionDataModel", "setWrappedData", "(Ljava/lang/Object;)V"⟩ : MethodName)) (z := (⟨"jakarta/faces/model/CollectionDataModel", "setWrappedData", "(Ljava/lang/Object;)V"⟩ : MethodName)) hown (mvT hZ (hw _ (List.mem_of_getElem? (i := 56) rfl))) (mvT hZ (hw _ (List.mem_of_getElem? (i := 57) rfl))) (notFace_of_selects (args := #[]) (mvT hZ (hw _ (List.mem_of_getElem? (i := 59) rfl)))) (mvT hZ (hw _ (List.mem_of_getElem? (i := 59) rfl))) (mvT hZ (hw _ (List.mem_of_getElem? (i := 58) rfl))) (by decide) (backOf (W := 0) (rmSW l Z a0 hw [] b10 la lb wL wE kE lk lz nx (-1 : Int32) .null .null lvs mr T11.heap n0 (Nat.le_trans Z0 KK11.1) OL_11 EL FL VL MS11 g_b10 LS_11 hc MR ne_la_b10 ne_lb_b10) hZ (hw _ (List.mem_of_getElem? (i := 60) rfl)) (hw _ (List.mem_of_getElem? (i := 29) rfl)) (by decide) (by decide)) q13a q13c (g := (mkF m 125 #[.val (.int p1), .val (.int p2), .val (.int p3), .val (.int p4), .val (.int p5), .val (.int nx), .val (.ref la), .val (.ref b10), .val (.int (1 : Int32)), .unset] [(.ref la), (.ref b10)])) rfl (by rw [hml]; rfl) (Steps.refl _) (argsL := [(.ref la)]) (rest := []) (lenOf own_pd__Ljava_lang_Object__V rfl) rfl (by show 2 * 0 + _ ≤ _; exact Nat.le_of_eq rfl) (hb hby at_125) (fun _ _ => ⟨rfl, e12, (by decide : 7 + 1 ≤ _), (by decide : 21 + 10 ≤ _)⟩)
    dsimp only [Pt.U, Pt.locs, Pt.cells, Pt.slots] at X13 l13 y13 z13 st13 hQ13
    subst l13 y13 z13
    obtain ⟨c13, kc13, us13, rfl, N13q, K13, hb13, MS13, V13⟩ := hQ13
    have N13 := Fr.app N12 N13q
    have ne_la_c13 : la ≠ c13 := Nat.ne_of_lt (Nat.lt_of_lt_of_le LS_11.1.lt hb13)
    have ne_lb_c13 : lb ≠ c13 := Nat.ne_of_lt (Nat.lt_of_lt_of_le LS_11.2.2.2.2.1.lt hb13)
    have ne_b10_c13 : b10 ≠ c13 := Nat.ne_of_lt (Nat.lt_of_lt_of_le E_b10_11.lt hb13)
    have sz_c13 : h0.size ≤ c13 := Nat.le_trans KK11.1 hb13
    have g_c13 : n0 ≤ c13 := Nat.le_trans Z0 sz_c13
    have OL_13 : Old Z n0 T13.heap := Old.keep OL_11 K13 (allS g_b10 all0)
    have LS_13 : own_LS Z T13.heap la lb lk lz nx lvs := own_LS_keep LS_11 K13 (ninS ne_la_b10 nin0) (ninS ne_lb_b10 nin0)
    have E_b10_13 : Exa Z T13.heap b10 "jakarta/faces/model/CollectionDataModel" := Exa.keep E_b10_11 K13
    have KK13 : Keep h0 T13.heap [] := KK11.trans K13 (allS (Or.inr sz_b10) all0)
    refine own_adv (B := T13.setTop (mkF m 128 #[.val (.int p1), .val (.int p2), .val (.int p3), .val (.int p4), .val (.int p5), .val (.int nx), .val (.ref la), .val (.ref b10), .val (.int (1 : Int32)), .unset] [])) (fun t k => st13.trans k) ?_
    refine own_adv (B := T13.setTop (mkF m 130 #[.val (.int p1), .val (.int p2), .val (.int p3), .val (.int p4), .val (.int p5), .val (.int nx), .val (.ref la), .val (.ref b10), .val (.int (1 : Int32)), .unset] [(.int (1 : Int32))])) (fun t k => XS.iload X13.here hx rfl (hb hby at_128) rfl k) ?_
    refine own_adv (B := T13.setTop (mkF m 133 #[.val (.int p1), .val (.int p2), .val (.int p3), .val (.int p4), .val (.int p5), .val (.int nx), .val (.ref la), .val (.ref b10), .val (.int (1 : Int32)), .unset] [])) (fun t k => XS.ifNo X13.here hx rfl (hb hby at_130) rfl ((if0 _ _).trans (feq (by decide)).1) k) ?_
    refine own_adv (B := T13.setTop (mkF m 135 #[.val (.int p1), .val (.int p2), .val (.int p3), .val (.int p4), .val (.int p5), .val (.int nx), .val (.ref la), .val (.ref b10), .val (.int (1 : Int32)), .unset] [(.ref b10)])) (fun t k => XS.aload X13.here hx rfl (hb hby at_133) rfl rfl k) ?_
    obtain ⟨cq14, kq14, q14a, q14b, q14c⟩ := isOf hZ rfl MS13.1
    obtain ⟨_, _, ⟨T14, L14, k14, n14⟩, -, X14, ⟨Lc14, hQ14, l14, y14, z14⟩, st14⟩ := X13.virtualBack hx (y := (⟨"jakarta/faces/model/CollectionDataModel", "getRowCount", "()I"⟩ : MethodName)) (z := (⟨"jakarta/faces/model/CollectionDataModel", "getRowCount", "()I"⟩ : MethodName)) hown (mvT hZ (hw _ (List.mem_of_getElem? (i := 49) rfl))) (mvT hZ (hw _ (List.mem_of_getElem? (i := 50) rfl))) (notFace_of_selects (args := #[]) (mvT hZ (hw _ (List.mem_of_getElem? (i := 52) rfl)))) (mvT hZ (hw _ (List.mem_of_getElem? (i := 52) rfl))) (mvT hZ (hw _ (List.mem_of_getElem? (i := 51) rfl))) (by decide) (backOf (W := 0) (rmRC1 l Z a0 hw [] b10 la c13 (.ref wL) (0 : Int32) nx kc13 us13 T13.heap n0 (Nat.le_trans Z0 KK13.1) MS13 V13) hZ (hw _ (List.mem_of_getElem? (i := 53) rfl)) (hw _ (List.mem_of_getElem? (i := 29) rfl)) (by decide) (by decide)) q14a q14c (g := (mkF m 135 #[.val (.int p1), .val (.int p2), .val (.int p3), .val (.int p4), .val (.int p5), .val (.int nx), .val (.ref la), .val (.ref b10), .val (.int (1 : Int32)), .unset] [(.ref b10)])) rfl (by rw [hml]; rfl) (Steps.refl _) (argsL := []) (rest := []) (lenOf own_pd___I rfl) rfl (by show 2 * 0 + _ ≤ _; exact Nat.le_of_eq rfl) (hb hby at_135) (fun _ _ => ⟨rfl, rfl, (by decide : 8 + 0 ≤ _), (by decide : 31 + 0 ≤ _)⟩)
    dsimp only [Pt.U, Pt.locs, Pt.cells, Pt.slots] at X14 l14 y14 z14 st14 hQ14
    subst l14 y14 z14
    obtain ⟨rfl, N14q, e14⟩ := hQ14
    have N14 := Fr.app N13 N14q
    refine own_adv (B := T14.setTop (mkF m 138 #[.val (.int p1), .val (.int p2), .val (.int p3), .val (.int p4), .val (.int p5), .val (.int nx), .val (.ref la), .val (.ref b10), .val (.int (1 : Int32)), .unset] [(.int nx)])) (fun t k => st14.trans k) ?_
    refine own_adv (B := T14.setTop (mkF m 140 #[.val (.int p1), .val (.int p2), .val (.int p3), .val (.int p4), .val (.int p5), .val (.int nx), .val (.ref la), .val (.ref b10), .val (.int (1 : Int32)), .unset] [(.int nx), (.int nx)])) (fun t k => XS.iload X14.here hx rfl (hb hby at_138) rfl k) ?_
    refine own_adv (B := T14.setTop (mkF m 143 #[.val (.int p1), .val (.int p2), .val (.int p3), .val (.int p4), .val (.int p5), .val (.int nx), .val (.ref la), .val (.ref b10), .val (.int (1 : Int32)), .unset] [])) (fun t k => XS.icmpNo X14.here hx rfl (hb hby at_140) rfl (teq (rfl : nx = nx)).2 k) ?_
    refine own_adv (B := T14.setTop (mkF m 144 #[.val (.int p1), .val (.int p2), .val (.int p3), .val (.int p4), .val (.int p5), .val (.int nx), .val (.ref la), .val (.ref b10), .val (.int (1 : Int32)), .unset] [(.int (1 : Int32))])) (fun t k => XS.iconst X14.here hx rfl (hb hby at_143) k) ?_
    refine own_adv (B := T14.setTop (mkF m 148 #[.val (.int p1), .val (.int p2), .val (.int p3), .val (.int p4), .val (.int p5), .val (.int nx), .val (.ref la), .val (.ref b10), .val (.int (1 : Int32)), .unset] [(.int (1 : Int32))])) (fun t k => XS.goto X14.here hx rfl (pc0 := 144) (pc' := 148) rfl (hb hby at_144) (by decide) (by decide) k) ?_
    refine own_adv (B := T14.setTop (mkF m 150 #[.val (.int p1), .val (.int p2), .val (.int p3), .val (.int p4), .val (.int p5), .val (.int nx), .val (.ref la), .val (.ref b10), .val (.int (1 : Int32)), .unset] [])) (fun t k => XS.istore X14.here hx rfl (hb hby at_148) rfl (l' := #[.val (.int p1), .val (.int p2), .val (.int p3), .val (.int p4), .val (.int p5), .val (.int nx), .val (.ref la), .val (.ref b10), .val (.int (1 : Int32)), .unset]) rfl k) ?_
    refine own_adv (B := T14.setTop (mkF m 151 #[.val (.int p1), .val (.int p2), .val (.int p3), .val (.int p4), .val (.int p5), .val (.int nx), .val (.ref la), .val (.ref b10), .val (.int (1 : Int32)), .unset] [(.int p4)])) (fun t k => XS.iloadN X14.here hx rfl (hb hby at_150) rfl k) ?_
    refine own_adv (B := T14.setTop (mkF m 153 #[.val (.int p1), .val (.int p2), .val (.int p3), .val (.int p4), .val (.int p5), .val (.int nx), .val (.ref la), .val (.ref b10), .val (.int (1 : Int32)), .unset] [(.int (15 : Int32)), (.int p4)])) (fun t k => XS.bipush X14.here hx rfl (hb hby at_151) k) ?_
    refine own_adv (B := T14.setTop (mkF m 154 #[.val (.int p1), .val (.int p2), .val (.int p3), .val (.int p4), .val (.int p5), .val (.int nx), .val (.ref la), .val (.ref b10), .val (.int (1 : Int32)), .unset] [(.int (p4 &&& (15 : Int32)))])) (fun t k => XS.iand X14.here hx rfl (hb hby at_153) rfl k) ?_
    refine own_adv (B := T14.setTop (mkF m 155 #[.val (.int p1), .val (.int p2), .val (.int p3), .val (.int p4), .val (.int p5), .val (.int nx), .val (.ref la), .val (.ref b10), .val (.int (1 : Int32)), .unset] [(.int (1 : Int32)), (.int (p4 &&& (15 : Int32)))])) (fun t k => XS.iconst X14.here hx rfl (hb hby at_154) k) ?_
    refine own_adv (B := T14.setTop (mkF m 156 #[.val (.int p1), .val (.int p2), .val (.int p3), .val (.int p4), .val (.int p5), .val (.int nx), .val (.ref la), .val (.ref b10), .val (.int (1 : Int32)), .unset] [(.int ((p4 &&& (15 : Int32)) - (1 : Int32)))])) (fun t k => XS.isub X14.here hx rfl (hb hby at_155) rfl k) ?_
    refine own_adv (B := T14.setTop (mkF m 158 #[.val (.int p1), .val (.int p2), .val (.int p3), .val (.int p4), .val (.int p5), .val (.int nx), .val (.ref la), .val (.ref b10), .val (.int (1 : Int32)), .val (.int ((p4 &&& (15 : Int32)) - (1 : Int32)))] [])) (fun t k => XS.istore X14.here hx rfl (hb hby at_156) rfl (l' := #[.val (.int p1), .val (.int p2), .val (.int p3), .val (.int p4), .val (.int p5), .val (.int nx), .val (.ref la), .val (.ref b10), .val (.int (1 : Int32)), .val (.int ((p4 &&& (15 : Int32)) - (1 : Int32)))]) rfl k) ?_
    refine own_adv (B := T14.setTop (mkF m 160 #[.val (.int p1), .val (.int p2), .val (.int p3), .val (.int p4), .val (.int p5), .val (.int nx), .val (.ref la), .val (.ref b10), .val (.int (1 : Int32)), .val (.int ((p4 &&& (15 : Int32)) - (1 : Int32)))] [(.ref b10)])) (fun t k => XS.aload X14.here hx rfl (hb hby at_158) rfl rfl k) ?_
    refine own_adv (B := T14.setTop (mkF m 162 #[.val (.int p1), .val (.int p2), .val (.int p3), .val (.int p4), .val (.int p5), .val (.int nx), .val (.ref la), .val (.ref b10), .val (.int (1 : Int32)), .val (.int ((p4 &&& (15 : Int32)) - (1 : Int32)))] [(.int ((p4 &&& (15 : Int32)) - (1 : Int32))), (.ref b10)])) (fun t k => XS.iload X14.here hx rfl (hb hby at_160) rfl k) ?_
    obtain ⟨cq15, kq15, q15a, q15b, q15c⟩ := isOf hZ e14 MS13.1
    obtain ⟨_, _, ⟨T15, L15, k15, n15⟩, -, X15, ⟨Lc15, hQ15, l15, y15, z15⟩, st15⟩ := X14.virtualBack hx (y := (⟨"jakarta/faces/model/CollectionDataModel", "setRowIndex", "(I)V"⟩ : MethodName)) (z := (⟨"jakarta/faces/model/CollectionDataModel", "setRowIndex", "(I)V"⟩ : MethodName)) hown (mvT hZ (hw _ (List.mem_of_getElem? (i := 123) rfl))) (mvT hZ (hw _ (List.mem_of_getElem? (i := 124) rfl))) (notFace_of_selects (args := #[]) (mvT hZ (hw _ (List.mem_of_getElem? (i := 126) rfl)))) (mvT hZ (hw _ (List.mem_of_getElem? (i := 126) rfl))) (mvT hZ (hw _ (List.mem_of_getElem? (i := 125) rfl))) (by decide) (backOf (W := 0) (rmSI l Z a0 hw [] b10 la wL wE kE ((p4 &&& (15 : Int32)) - (1 : Int32)) (0 : Int32) (.ref c13) T13.heap n0 (Nat.le_trans Z0 KK13.1) OL_13 EL FL VL MS13 g_b10 (own_row p4)) hZ (hw _ (List.mem_of_getElem? (i := 127) rfl)) (hw _ (List.mem_of_getElem? (i := 29) rfl)) (by decide) (by decide)) q15a q15c (g := (mkF m 162 #[.val (.int p1), .val (.int p2), .val (.int p3), .val (.int p4), .val (.int p5), .val (.int nx), .val (.ref la), .val (.ref b10), .val (.int (1 : Int32)), .val (.int ((p4 &&& (15 : Int32)) - (1 : Int32)))] [(.int ((p4 &&& (15 : Int32)) - (1 : Int32))), (.ref b10)])) rfl (by rw [hml]; rfl) (Steps.refl _) (argsL := [(.int ((p4 &&& (15 : Int32)) - (1 : Int32)))]) (rest := []) (lenOf own_pd__I_V rfl) rfl (by show 2 * 0 + _ ≤ _; exact Nat.le_of_eq rfl) (hb hby at_162) (fun _ _ => ⟨rfl, e14, (by decide : 8 + 0 ≤ _), (by decide : 31 + 0 ≤ _)⟩)
    dsimp only [Pt.U, Pt.locs, Pt.cells, Pt.slots] at X15 l15 y15 z15 st15 hQ15
    subst l15 y15 z15
    obtain ⟨rfl, N15q, K15, MS15⟩ := hQ15
    have N15 := Fr.app N14 N15q
    have OL_15 : Old Z n0 T15.heap := Old.keep OL_13 K15 (allS g_b10 all0)
    have LS_15 : own_LS Z T15.heap la lb lk lz nx lvs := own_LS_keep LS_13 K15 (ninS ne_la_b10 nin0) (ninS ne_lb_b10 nin0)
    have E_b10_15 : Exa Z T15.heap b10 "jakarta/faces/model/CollectionDataModel" := Exa.keep E_b10_13 K15
    have V_c13_15 : Arv Z T15.heap c13 kc13 (.object "java/lang/Object") nx us13 .null := Arv.keep V13 K15 (ninS (Ne.symm ne_b10_c13) nin0)
    have KK15 : Keep h0 T15.heap [] := KK13.trans K15 (allS (Or.inr sz_b10) all0)
    refine own_adv (B := T15.setTop (mkF m 165 #[.val (.int p1), .val (.int p2), .val (.int p3), .val (.int p4), .val (.int p5), .val (.int nx), .val (.ref la), .val (.ref b10), .val (.int (1 : Int32)), .val (.int ((p4 &&& (15 : Int32)) - (1 : Int32)))] [])) (fun t k => st15.trans k) ?_
    refine own_adv (B := T15.setTop (mkF m 167 #[.val (.int p1), .val (.int p2), .val (.int p3), .val (.int p4), .val (.int p5), .val (.int nx), .val (.ref la), .val (.ref b10), .val (.int (1 : Int32)), .val (.int ((p4 &&& (15 : Int32)) - (1 : Int32)))] [(.int (1 : Int32))])) (fun t k => XS.iload X15.here hx rfl (hb hby at_165) rfl k) ?_
    refine own_adv (B := T15.setTop (mkF m 170 #[.val (.int p1), .val (.int p2), .val (.int p3), .val (.int p4), .val (.int p5), .val (.int nx), .val (.ref la), .val (.ref b10), .val (.int (1 : Int32)), .val (.int ((p4 &&& (15 : Int32)) - (1 : Int32)))] [])) (fun t k => XS.ifNo X15.here hx rfl (hb hby at_167) rfl ((if0 _ _).trans (feq (by decide)).1) k) ?_
    refine own_adv (B := T15.setTop (mkF m 172 #[.val (.int p1), .val (.int p2), .val (.int p3), .val (.int p4), .val (.int p5), .val (.int nx), .val (.ref la), .val (.ref b10), .val (.int (1 : Int32)), .val (.int ((p4 &&& (15 : Int32)) - (1 : Int32)))] [(.ref b10)])) (fun t k => XS.aload X15.here hx rfl (hb hby at_170) rfl rfl k) ?_
    obtain ⟨cq16, kq16, q16a, q16b, q16c⟩ := isOf hZ rfl MS15.1
    obtain ⟨_, _, ⟨T16, L16, k16, n16⟩, -, X16, ⟨Lc16, hQ16, l16, y16, z16⟩, st16⟩ := X15.virtualBack hx (y := (⟨"jakarta/faces/model/CollectionDataModel", "getRowCount", "()I"⟩ : MethodName)) (z := (⟨"jakarta/faces/model/CollectionDataModel", "getRowCount", "()I"⟩ : MethodName)) hown (mvT hZ (hw _ (List.mem_of_getElem? (i := 49) rfl))) (mvT hZ (hw _ (List.mem_of_getElem? (i := 50) rfl))) (notFace_of_selects (args := #[]) (mvT hZ (hw _ (List.mem_of_getElem? (i := 52) rfl)))) (mvT hZ (hw _ (List.mem_of_getElem? (i := 52) rfl))) (mvT hZ (hw _ (List.mem_of_getElem? (i := 51) rfl))) (by decide) (backOf (W := 0) (rmRC1 l Z a0 hw [] b10 la c13 (.ref wL) ((p4 &&& (15 : Int32)) - (1 : Int32)) nx kc13 us13 T15.heap n0 (Nat.le_trans Z0 KK15.1) MS15 V_c13_15) hZ (hw _ (List.mem_of_getElem? (i := 53) rfl)) (hw _ (List.mem_of_getElem? (i := 29) rfl)) (by decide) (by decide)) q16a q16c (g := (mkF m 172 #[.val (.int p1), .val (.int p2), .val (.int p3), .val (.int p4), .val (.int p5), .val (.int nx), .val (.ref la), .val (.ref b10), .val (.int (1 : Int32)), .val (.int ((p4 &&& (15 : Int32)) - (1 : Int32)))] [(.ref b10)])) rfl (by rw [hml]; rfl) (Steps.refl _) (argsL := []) (rest := []) (lenOf own_pd___I rfl) rfl (by show 2 * 0 + _ ≤ _; exact Nat.le_of_eq rfl) (hb hby at_172) (fun _ _ => ⟨rfl, rfl, (by decide : 8 + 0 ≤ _), (by decide : 31 + 0 ≤ _)⟩)
    dsimp only [Pt.U, Pt.locs, Pt.cells, Pt.slots] at X16 l16 y16 z16 st16 hQ16
    subst l16 y16 z16
    obtain ⟨rfl, N16q, e16⟩ := hQ16
    have N16 := Fr.app N15 N16q
    refine own_adv (B := T16.setTop (mkF m 175 #[.val (.int p1), .val (.int p2), .val (.int p3), .val (.int p4), .val (.int p5), .val (.int nx), .val (.ref la), .val (.ref b10), .val (.int (1 : Int32)), .val (.int ((p4 &&& (15 : Int32)) - (1 : Int32)))] [(.int nx)])) (fun t k => st16.trans k) ?_
    refine own_adv (B := T16.setTop (mkF m 177 #[.val (.int p1), .val (.int p2), .val (.int p3), .val (.int p4), .val (.int p5), .val (.int nx), .val (.ref la), .val (.ref b10), .val (.int (1 : Int32)), .val (.int ((p4 &&& (15 : Int32)) - (1 : Int32)))] [(.int nx), (.int nx)])) (fun t k => XS.iload X16.here hx rfl (hb hby at_175) rfl k) ?_
    refine own_adv (B := T16.setTop (mkF m 180 #[.val (.int p1), .val (.int p2), .val (.int p3), .val (.int p4), .val (.int p5), .val (.int nx), .val (.ref la), .val (.ref b10), .val (.int (1 : Int32)), .val (.int ((p4 &&& (15 : Int32)) - (1 : Int32)))] [])) (fun t k => XS.icmpNo X16.here hx rfl (hb hby at_177) rfl (teq (rfl : nx = nx)).2 k) ?_
    refine own_adv (B := T16.setTop (mkF m 181 #[.val (.int p1), .val (.int p2), .val (.int p3), .val (.int p4), .val (.int p5), .val (.int nx), .val (.ref la), .val (.ref b10), .val (.int (1 : Int32)), .val (.int ((p4 &&& (15 : Int32)) - (1 : Int32)))] [(.int (1 : Int32))])) (fun t k => XS.iconst X16.here hx rfl (hb hby at_180) k) ?_
    refine own_adv (B := T16.setTop (mkF m 185 #[.val (.int p1), .val (.int p2), .val (.int p3), .val (.int p4), .val (.int p5), .val (.int nx), .val (.ref la), .val (.ref b10), .val (.int (1 : Int32)), .val (.int ((p4 &&& (15 : Int32)) - (1 : Int32)))] [(.int (1 : Int32))])) (fun t k => XS.goto X16.here hx rfl (pc0 := 181) (pc' := 185) rfl (hb hby at_181) (by decide) (by decide) k) ?_
    refine own_adv (B := T16.setTop (mkF m 187 #[.val (.int p1), .val (.int p2), .val (.int p3), .val (.int p4), .val (.int p5), .val (.int nx), .val (.ref la), .val (.ref b10), .val (.int (1 : Int32)), .val (.int ((p4 &&& (15 : Int32)) - (1 : Int32)))] [])) (fun t k => XS.istore X16.here hx rfl (hb hby at_185) rfl (l' := #[.val (.int p1), .val (.int p2), .val (.int p3), .val (.int p4), .val (.int p5), .val (.int nx), .val (.ref la), .val (.ref b10), .val (.int (1 : Int32)), .val (.int ((p4 &&& (15 : Int32)) - (1 : Int32)))]) rfl k) ?_
    refine own_adv (B := T16.setTop (mkF m 189 #[.val (.int p1), .val (.int p2), .val (.int p3), .val (.int p4), .val (.int p5), .val (.int nx), .val (.ref la), .val (.ref b10), .val (.int (1 : Int32)), .val (.int ((p4 &&& (15 : Int32)) - (1 : Int32)))] [(.int p5)])) (fun t k => XS.iload X16.here hx rfl (hb hby at_187) rfl k) ?_
    refine own_adv (B := T16.setTop (mkF m 190 #[.val (.int p1), .val (.int p2), .val (.int p3), .val (.int p4), .val (.int p5), .val (.int nx), .val (.ref la), .val (.ref b10), .val (.int (1 : Int32)), .val (.int ((p4 &&& (15 : Int32)) - (1 : Int32)))] [(.int (1 : Int32)), (.int p5)])) (fun t k => XS.iconst X16.here hx rfl (hb hby at_189) k) ?_
    refine own_adv (B := T16.setTop (mkF m 191 #[.val (.int p1), .val (.int p2), .val (.int p3), .val (.int p4), .val (.int p5), .val (.int nx), .val (.ref la), .val (.ref b10), .val (.int (1 : Int32)), .val (.int ((p4 &&& (15 : Int32)) - (1 : Int32)))] [(.int (p5 &&& (1 : Int32)))])) (fun t k => XS.iand X16.here hx rfl (hb hby at_190) rfl k) ?_
    by_cases hf1 : (p5 &&& (1 : Int32)) = (0 : Int32)
    · skip
      refine own_adv (B := T16.setTop (mkF m 226 #[.val (.int p1), .val (.int p2), .val (.int p3), .val (.int p4), .val (.int p5), .val (.int nx), .val (.ref la), .val (.ref b10), .val (.int (1 : Int32)), .val (.int ((p4 &&& (15 : Int32)) - (1 : Int32)))] [])) (fun t k => XS.ifYes X16.here hx rfl (pc0 := 191) (pc' := 226) rfl (hb hby at_191) rfl ((if0 _ _).trans (teq hf1).1) (by decide) (by decide) k) ?_
      refine own_adv (B := T16.setTop (mkF m 228 #[.val (.int p1), .val (.int p2), .val (.int p3), .val (.int p4), .val (.int p5), .val (.int nx), .val (.ref la), .val (.ref b10), .val (.int (1 : Int32)), .val (.int ((p4 &&& (15 : Int32)) - (1 : Int32)))] [(.int p5)])) (fun t k => XS.iload X16.here hx rfl (hb hby at_226) rfl k) ?_
      refine own_adv (B := T16.setTop (mkF m 229 #[.val (.int p1), .val (.int p2), .val (.int p3), .val (.int p4), .val (.int p5), .val (.int nx), .val (.ref la), .val (.ref b10), .val (.int (1 : Int32)), .val (.int ((p4 &&& (15 : Int32)) - (1 : Int32)))] [(.int (2 : Int32)), (.int p5)])) (fun t k => XS.iconst X16.here hx rfl (hb hby at_228) k) ?_
      refine own_adv (B := T16.setTop (mkF m 230 #[.val (.int p1), .val (.int p2), .val (.int p3), .val (.int p4), .val (.int p5), .val (.int nx), .val (.ref la), .val (.ref b10), .val (.int (1 : Int32)), .val (.int ((p4 &&& (15 : Int32)) - (1 : Int32)))] [(.int (p5 &&& (2 : Int32)))])) (fun t k => XS.iand X16.here hx rfl (hb hby at_229) rfl k) ?_
      by_cases hf2 : (p5 &&& (2 : Int32)) = (0 : Int32)
      · skip
        refine own_adv (B := T16.setTop (mkF m 260 #[.val (.int p1), .val (.int p2), .val (.int p3), .val (.int p4), .val (.int p5), .val (.int nx), .val (.ref la), .val (.ref b10), .val (.int (1 : Int32)), .val (.int ((p4 &&& (15 : Int32)) - (1 : Int32)))] [])) (fun t k => XS.ifYes X16.here hx rfl (pc0 := 230) (pc' := 260) rfl (hb hby at_230) rfl ((if0 _ _).trans (teq hf2).1) (by decide) (by decide) k) ?_
        refine own_adv (B := T16.setTop (mkF m 262 #[.val (.int p1), .val (.int p2), .val (.int p3), .val (.int p4), .val (.int p5), .val (.int nx), .val (.ref la), .val (.ref b10), .val (.int (1 : Int32)), .val (.int ((p4 &&& (15 : Int32)) - (1 : Int32)))] [(.int (1 : Int32))])) (fun t k => XS.iload X16.here hx rfl (hb hby at_260) rfl k) ?_
        obtain ⟨fs, hr, hrun, hended, hW, hsame⟩ := X16.leave (v := some (.int (1 : Int32))) (fun h => by rw [Bd.returns] at h; cases h)
        refine ⟨_, _, retN X16 hx (t := .boolean) Bd.returns (by simp) (hb hby at_262) hr, hrun, hended, _, _, rfl, ?_, ⟨_, rfl⟩, hW, hsame.mono (by decide) (by decide)⟩
        exact ⟨rfl, N16⟩
      refine own_adv (B := T16.setTop (mkF m 233 #[.val (.int p1), .val (.int p2), .val (.int p3), .val (.int p4), .val (.int p5), .val (.int nx), .val (.ref la), .val (.ref b10), .val (.int (1 : Int32)), .val (.int ((p4 &&& (15 : Int32)) - (1 : Int32)))] [])) (fun t k => XS.ifNo X16.here hx rfl (hb hby at_230) rfl ((if0 _ _).trans (feq hf2).1) k) ?_
      refine own_adv (B := T16.setTop (mkF m 235 #[.val (.int p1), .val (.int p2), .val (.int p3), .val (.int p4), .val (.int p5), .val (.int nx), .val (.ref la), .val (.ref b10), .val (.int (1 : Int32)), .val (.int ((p4 &&& (15 : Int32)) - (1 : Int32)))] [(.ref b10)])) (fun t k => XS.aload X16.here hx rfl (hb hby at_233) rfl rfl k) ?_
      refine own_adv (B := T16.setTop (mkF m 236 #[.val (.int p1), .val (.int p2), .val (.int p3), .val (.int p4), .val (.int p5), .val (.int nx), .val (.ref la), .val (.ref b10), .val (.int (1 : Int32)), .val (.int ((p4 &&& (15 : Int32)) - (1 : Int32)))] [.null, (.ref b10)])) (fun t k => XS.aconstNull X16.here hx rfl (hb hby at_235) k) ?_
      obtain ⟨cq17, kq17, q17a, q17b, q17c⟩ := isOf hZ e16 MS15.1
      obtain ⟨_, _, ⟨T17, L17, k17, n17⟩, -, X17, ⟨Lc17, hQ17, l17, y17, z17⟩, st17⟩ := X16.virtualBack hx (y := (⟨"jakarta/faces/model/CollectionDataModel", "setWrappedData", "(Ljava/lang/Object;)V"⟩ : MethodName)) (z := (⟨"jakarta/faces/model/CollectionDataModel", "setWrappedData", "(Ljava/lang/Object;)V"⟩ : MethodName)) hown (mvT hZ (hw _ (List.mem_of_getElem? (i := 56) rfl))) (mvT hZ (hw _ (List.mem_of_getElem? (i := 57) rfl))) (notFace_of_selects (args := #[]) (mvT hZ (hw _ (List.mem_of_getElem? (i := 59) rfl)))) (mvT hZ (hw _ (List.mem_of_getElem? (i := 59) rfl))) (mvT hZ (hw _ (List.mem_of_getElem? (i := 58) rfl))) (by decide) (backOf (W := 0) (rmSW0 l Z a0 hw [] b10 wL wE kE ((p4 &&& (15 : Int32)) - (1 : Int32)) (.ref la) (.ref c13) T15.heap n0 (Nat.le_trans Z0 KK15.1) OL_15 EL FL VL MS15 g_b10) hZ (hw _ (List.mem_of_getElem? (i := 60) rfl)) (hw _ (List.mem_of_getElem? (i := 29) rfl)) (by decide) (by decide)) q17a q17c (g := (mkF m 236 #[.val (.int p1), .val (.int p2), .val (.int p3), .val (.int p4), .val (.int p5), .val (.int nx), .val (.ref la), .val (.ref b10), .val (.int (1 : Int32)), .val (.int ((p4 &&& (15 : Int32)) - (1 : Int32)))] [.null, (.ref b10)])) rfl (by rw [hml]; rfl) (Steps.refl _) (argsL := [.null]) (rest := []) (lenOf own_pd__Ljava_lang_Object__V rfl) rfl (by show 2 * 0 + _ ≤ _; exact Nat.le_of_eq rfl) (hb hby at_236) (fun _ _ => ⟨rfl, e16, (by decide : 8 + 0 ≤ _), (by decide : 31 + 0 ≤ _)⟩)
      dsimp only [Pt.U, Pt.locs, Pt.cells, Pt.slots] at X17 l17 y17 z17 st17 hQ17
      subst l17 y17 z17
      obtain ⟨rfl, N17q, K17, MS17⟩ := hQ17
      have N17 := Fr.app N16 N17q
      have OL_17 : Old Z n0 T17.heap := Old.keep OL_15 K17 (allS g_b10 all0)
      have LS_17 : own_LS Z T17.heap la lb lk lz nx lvs := own_LS_keep LS_15 K17 (ninS ne_la_b10 nin0) (ninS ne_lb_b10 nin0)
      have E_b10_17 : Exa Z T17.heap b10 "jakarta/faces/model/CollectionDataModel" := Exa.keep E_b10_15 K17
      have V_c13_17 : Arv Z T17.heap c13 kc13 (.object "java/lang/Object") nx us13 .null := Arv.keep V_c13_15 K17 (ninS (Ne.symm ne_b10_c13) nin0)
      have KK17 : Keep h0 T17.heap [] := KK15.trans K17 (allS (Or.inr sz_b10) all0)
      refine own_adv (B := T17.setTop (mkF m 239 #[.val (.int p1), .val (.int p2), .val (.int p3), .val (.int p4), .val (.int p5), .val (.int nx), .val (.ref la), .val (.ref b10), .val (.int (1 : Int32)), .val (.int ((p4 &&& (15 : Int32)) - (1 : Int32)))] [])) (fun t k => st17.trans k) ?_
      refine own_adv (B := T17.setTop (mkF m 241 #[.val (.int p1), .val (.int p2), .val (.int p3), .val (.int p4), .val (.int p5), .val (.int nx), .val (.ref la), .val (.ref b10), .val (.int (1 : Int32)), .val (.int ((p4 &&& (15 : Int32)) - (1 : Int32)))] [(.int (1 : Int32))])) (fun t k => XS.iload X17.here hx rfl (hb hby at_239) rfl k) ?_
      refine own_adv (B := T17.setTop (mkF m 244 #[.val (.int p1), .val (.int p2), .val (.int p3), .val (.int p4), .val (.int p5), .val (.int nx), .val (.ref la), .val (.ref b10), .val (.int (1 : Int32)), .val (.int ((p4 &&& (15 : Int32)) - (1 : Int32)))] [])) (fun t k => XS.ifNo X17.here hx rfl (hb hby at_241) rfl ((if0 _ _).trans (feq (by decide)).1) k) ?_
      refine own_adv (B := T17.setTop (mkF m 246 #[.val (.int p1), .val (.int p2), .val (.int p3), .val (.int p4), .val (.int p5), .val (.int nx), .val (.ref la), .val (.ref b10), .val (.int (1 : Int32)), .val (.int ((p4 &&& (15 : Int32)) - (1 : Int32)))] [(.ref b10)])) (fun t k => XS.aload X17.here hx rfl (hb hby at_244) rfl rfl k) ?_
      obtain ⟨cq18, kq18, q18a, q18b, q18c⟩ := isOf hZ rfl MS17.1
      obtain ⟨_, _, ⟨T18, L18, k18, n18⟩, -, X18, ⟨Lc18, hQ18, l18, y18, z18⟩, st18⟩ := X17.virtualBack hx (y := (⟨"jakarta/faces/model/CollectionDataModel", "getRowCount", "()I"⟩ : MethodName)) (z := (⟨"jakarta/faces/model/CollectionDataModel", "getRowCount", "()I"⟩ : MethodName)) hown (mvT hZ (hw _ (List.mem_of_getElem? (i := 49) rfl))) (mvT hZ (hw _ (List.mem_of_getElem? (i := 50) rfl))) (notFace_of_selects (args := #[]) (mvT hZ (hw _ (List.mem_of_getElem? (i := 52) rfl)))) (mvT hZ (hw _ (List.mem_of_getElem? (i := 52) rfl))) (mvT hZ (hw _ (List.mem_of_getElem? (i := 51) rfl))) (by decide) (backOf (W := 0) (rmRC0 l Z a0 hw [] b10 (.ref wL) .null (-1 : Int32) T17.heap n0 (Nat.le_trans Z0 KK17.1) MS17) hZ (hw _ (List.mem_of_getElem? (i := 53) rfl)) (hw _ (List.mem_of_getElem? (i := 29) rfl)) (by decide) (by decide)) q18a q18c (g := (mkF m 246 #[.val (.int p1), .val (.int p2), .val (.int p3), .val (.int p4), .val (.int p5), .val (.int nx), .val (.ref la), .val (.ref b10), .val (.int (1 : Int32)), .val (.int ((p4 &&& (15 : Int32)) - (1 : Int32)))] [(.ref b10)])) rfl (by rw [hml]; rfl) (Steps.refl _) (argsL := []) (rest := []) (lenOf own_pd___I rfl) rfl (by show 2 * 0 + _ ≤ _; exact Nat.le_of_eq rfl) (hb hby at_246) (fun _ _ => ⟨rfl, rfl, (by decide : 8 + 0 ≤ _), (by decide : 31 + 0 ≤ _)⟩)
      dsimp only [Pt.U, Pt.locs, Pt.cells, Pt.slots] at X18 l18 y18 z18 st18 hQ18
      subst l18 y18 z18
      obtain ⟨rfl, N18q, e18⟩ := hQ18
      have N18 := Fr.app N17 N18q
      refine own_adv (B := T18.setTop (mkF m 249 #[.val (.int p1), .val (.int p2), .val (.int p3), .val (.int p4), .val (.int p5), .val (.int nx), .val (.ref la), .val (.ref b10), .val (.int (1 : Int32)), .val (.int ((p4 &&& (15 : Int32)) - (1 : Int32)))] [(.int (-1 : Int32))])) (fun t k => st18.trans k) ?_
      refine own_adv (B := T18.setTop (mkF m 250 #[.val (.int p1), .val (.int p2), .val (.int p3), .val (.int p4), .val (.int p5), .val (.int nx), .val (.ref la), .val (.ref b10), .val (.int (1 : Int32)), .val (.int ((p4 &&& (15 : Int32)) - (1 : Int32)))] [(.int (-1 : Int32)), (.int (-1 : Int32))])) (fun t k => XS.iconst X18.here hx rfl (hb hby at_249) k) ?_
      refine own_adv (B := T18.setTop (mkF m 253 #[.val (.int p1), .val (.int p2), .val (.int p3), .val (.int p4), .val (.int p5), .val (.int nx), .val (.ref la), .val (.ref b10), .val (.int (1 : Int32)), .val (.int ((p4 &&& (15 : Int32)) - (1 : Int32)))] [])) (fun t k => XS.icmpNo X18.here hx rfl (hb hby at_250) rfl (teq (rfl : (-1 : Int32) = (-1 : Int32))).2 k) ?_
      refine own_adv (B := T18.setTop (mkF m 254 #[.val (.int p1), .val (.int p2), .val (.int p3), .val (.int p4), .val (.int p5), .val (.int nx), .val (.ref la), .val (.ref b10), .val (.int (1 : Int32)), .val (.int ((p4 &&& (15 : Int32)) - (1 : Int32)))] [(.int (1 : Int32))])) (fun t k => XS.iconst X18.here hx rfl (hb hby at_253) k) ?_
      refine own_adv (B := T18.setTop (mkF m 258 #[.val (.int p1), .val (.int p2), .val (.int p3), .val (.int p4), .val (.int p5), .val (.int nx), .val (.ref la), .val (.ref b10), .val (.int (1 : Int32)), .val (.int ((p4 &&& (15 : Int32)) - (1 : Int32)))] [(.int (1 : Int32))])) (fun t k => XS.goto X18.here hx rfl (pc0 := 254) (pc' := 258) rfl (hb hby at_254) (by decide) (by decide) k) ?_
      refine own_adv (B := T18.setTop (mkF m 260 #[.val (.int p1), .val (.int p2), .val (.int p3), .val (.int p4), .val (.int p5), .val (.int nx), .val (.ref la), .val (.ref b10), .val (.int (1 : Int32)), .val (.int ((p4 &&& (15 : Int32)) - (1 : Int32)))] [])) (fun t k => XS.istore X18.here hx rfl (hb hby at_258) rfl (l' := #[.val (.int p1), .val (.int p2), .val (.int p3), .val (.int p4), .val (.int p5), .val (.int nx), .val (.ref la), .val (.ref b10), .val (.int (1 : Int32)), .val (.int ((p4 &&& (15 : Int32)) - (1 : Int32)))]) rfl k) ?_
      refine own_adv (B := T18.setTop (mkF m 262 #[.val (.int p1), .val (.int p2), .val (.int p3), .val (.int p4), .val (.int p5), .val (.int nx), .val (.ref la), .val (.ref b10), .val (.int (1 : Int32)), .val (.int ((p4 &&& (15 : Int32)) - (1 : Int32)))] [(.int (1 : Int32))])) (fun t k => XS.iload X18.here hx rfl (hb hby at_260) rfl k) ?_
      obtain ⟨fs, hr, hrun, hended, hW, hsame⟩ := X18.leave (v := some (.int (1 : Int32))) (fun h => by rw [Bd.returns] at h; cases h)
      refine ⟨_, _, retN X18 hx (t := .boolean) Bd.returns (by simp) (hb hby at_262) hr, hrun, hended, _, _, rfl, ?_, ⟨_, rfl⟩, hW, hsame.mono (by decide) (by decide)⟩
      exact ⟨rfl, N18⟩
    refine own_adv (B := T16.setTop (mkF m 194 #[.val (.int p1), .val (.int p2), .val (.int p3), .val (.int p4), .val (.int p5), .val (.int nx), .val (.ref la), .val (.ref b10), .val (.int (1 : Int32)), .val (.int ((p4 &&& (15 : Int32)) - (1 : Int32)))] [])) (fun t k => XS.ifNo X16.here hx rfl (hb hby at_191) rfl ((if0 _ _).trans (feq hf1).1) k) ?_
    refine own_adv (B := T16.setTop (mkF m 196 #[.val (.int p1), .val (.int p2), .val (.int p3), .val (.int p4), .val (.int p5), .val (.int nx), .val (.ref la), .val (.ref b10), .val (.int (1 : Int32)), .val (.int ((p4 &&& (15 : Int32)) - (1 : Int32)))] [(.ref la)])) (fun t k => XS.aload X16.here hx rfl (hb hby at_194) rfl rfl k) ?_
    refine own_adv (B := T16.setTop (mkF m 197 #[.val (.int p1), .val (.int p2), .val (.int p3), .val (.int p4), .val (.int p5), .val (.int nx), .val (.ref la), .val (.ref b10), .val (.int (1 : Int32)), .val (.int ((p4 &&& (15 : Int32)) - (1 : Int32)))] [(.int p3), (.ref la)])) (fun t k => XS.iloadN X16.here hx rfl (hb hby at_196) rfl k) ?_
    obtain ⟨_, _, ⟨T19, L19, k19, n19⟩, -, X19, ⟨Lc19, hQ19, l19, y19, z19⟩, st19⟩ := Jvm.LawKit.callS X16 hx (y := (⟨"java/lang/Integer", "valueOf", "(I)Ljava/lang/Integer;"⟩ : MethodName)) hown (mvT hZ (hw _ (List.mem_of_getElem? (i := 128) rfl))) (mvT hZ (hw _ (List.mem_of_getElem? (i := 129) rfl))) (mvT hZ (hw _ (List.mem_of_getElem? (i := 130) rfl))) (mvT hZ (hw _ (List.mem_of_getElem? (i := 131) rfl))) (by decide) (backOf (W := 1) (rmVO l Z a0 hw [] p3 wC cC T15.heap n0 (Nat.le_trans Z0 KK15.1) OL_15 S_h S_c AC szC elC) hZ (hw _ (List.mem_of_getElem? (i := 131) rfl)) (hw _ (List.mem_of_getElem? (i := 130) rfl)) (by decide) (by decide)) (g := (mkF m 197 #[.val (.int p1), .val (.int p2), .val (.int p3), .val (.int p4), .val (.int p5), .val (.int nx), .val (.ref la), .val (.ref b10), .val (.int (1 : Int32)), .val (.int ((p4 &&& (15 : Int32)) - (1 : Int32)))] [(.int p3), (.ref la)])) rfl (by rw [hml]; rfl) (argsL := [(.int p3)]) (rest := [(.ref la)]) (lenOf own_pd__I_Ljava_lang_Integer_ rfl) rfl (by show 2 * 0 + _ ≤ _; exact Nat.le_of_eq rfl) (hb hby at_197) (fun _ _ => ⟨rfl, e16, (by decide : 8 + 1 ≤ _), (by decide : 31 + 1 ≤ _)⟩)
    dsimp only [Pt.U, Pt.locs, Pt.cells, Pt.slots] at X19 l19 y19 z19 st19 hQ19
    subst l19 y19 z19
    obtain ⟨y19, rfl, N19q, K19, EX19⟩ := hQ19
    have N19 := Fr.app N16 N19q
    have OL_19 : Old Z n0 T19.heap := Old.keep OL_15 K19 all0
    have LS_19 : own_LS Z T19.heap la lb lk lz nx lvs := own_LS_keep LS_15 K19 nin0 nin0
    have E_b10_19 : Exa Z T19.heap b10 "jakarta/faces/model/CollectionDataModel" := Exa.keep E_b10_15 K19
    have V_c13_19 : Arv Z T19.heap c13 kc13 (.object "java/lang/Object") nx us13 .null := Arv.keep V_c13_15 K19 nin0
    have MS_19 : own_MS Z T19.heap b10 (.ref wL) ((p4 &&& (15 : Int32)) - (1 : Int32)) (.ref la) (.ref c13) := own_MS_keep MS15 K19 nin0
    have KK19 : Keep h0 T19.heap [] := KK15.trans K19 all0
    refine own_adv (B := T19.setTop (mkF m 200 #[.val (.int p1), .val (.int p2), .val (.int p3), .val (.int p4), .val (.int p5), .val (.int nx), .val (.ref la), .val (.ref b10), .val (.int (1 : Int32)), .val (.int ((p4 &&& (15 : Int32)) - (1 : Int32)))] [(.ref y19), (.ref la)])) (fun t k => st19 t k) ?_
    rcases hk with ⟨e1, e2, e3, e4, e5⟩ | ⟨slb, ez, hlt, nab, OB⟩
    · skip
      have LSA : own_LS Z T19.heap la wD kD (0 : Int32) (0 : Int32) [] := by
        have q := LS_19
        rw [e1, e2, e3, e4, e5] at q
        exact q
      obtain ⟨cq20, kq20, q20a, q20b, q20c⟩ := isOf hZ rfl LSA.1
      obtain ⟨_, _, ⟨T20, L20, k20, n20⟩, -, X20, ⟨Lc20, hQ20, l20, y20, z20⟩, st20⟩ := X19.virtualBack hx (y := (⟨"java/util/ArrayList", "add", "(Ljava/lang/Object;)Z"⟩ : MethodName)) (z := (⟨"java/util/ArrayList", "add", "(Ljava/lang/Object;)Z"⟩ : MethodName)) hown (mvT hZ (hw _ (List.mem_of_getElem? (i := 135) rfl))) (mvT hZ (hw _ (List.mem_of_getElem? (i := 136) rfl))) (notFace_of_selects (args := #[]) (mvT hZ (hw _ (List.mem_of_getElem? (i := 138) rfl)))) (mvT hZ (hw _ (List.mem_of_getElem? (i := 138) rfl))) (mvT hZ (hw _ (List.mem_of_getElem? (i := 137) rfl))) (by decide) (backOf (W := 0) (rmAF l Z a0 hw [] la y19 wD kD T19.heap n0 (Nat.le_trans Z0 KK19.1) OL_19 S_D VD LSA ga EX19) hZ (hw _ (List.mem_of_getElem? (i := 139) rfl)) (hw _ (List.mem_of_getElem? (i := 3) rfl)) (by decide) (by decide)) q20a q20c (g := (mkF m 200 #[.val (.int p1), .val (.int p2), .val (.int p3), .val (.int p4), .val (.int p5), .val (.int nx), .val (.ref la), .val (.ref b10), .val (.int (1 : Int32)), .val (.int ((p4 &&& (15 : Int32)) - (1 : Int32)))] [(.ref y19), (.ref la)])) rfl (by rw [hml]; rfl) (Steps.refl _) (argsL := [(.ref y19)]) (rest := []) (lenOf own_pd__Ljava_lang_Object__Z rfl) rfl (by show 2 * 0 + _ ≤ _; exact Nat.le_of_eq rfl) (hb hby at_200) (fun _ _ => ⟨rfl, rfl, (by decide : 9 + 1 ≤ _), (by decide : 32 + 10 ≤ _)⟩)
      dsimp only [Pt.U, Pt.locs, Pt.cells, Pt.slots] at X20 l20 y20 z20 st20 hQ20
      subst l20 y20 z20
      obtain ⟨b20, kb20, rfl, N20q, K20, hb20, LS20, O20⟩ := hQ20
      have N20 := Fr.app N19 N20q
      have ne_la_b20 : la ≠ b20 := Nat.ne_of_lt (Nat.lt_of_lt_of_le LS_19.1.lt hb20)
      have ne_lb_b20 : lb ≠ b20 := Nat.ne_of_lt (Nat.lt_of_lt_of_le LS_19.2.2.2.2.1.lt hb20)
      have ne_b10_b20 : b10 ≠ b20 := Nat.ne_of_lt (Nat.lt_of_lt_of_le E_b10_19.lt hb20)
      have ne_c13_b20 : c13 ≠ b20 := Nat.ne_of_lt (Nat.lt_of_lt_of_le V_c13_19.lt hb20)
      have ne_y19_b20 : y19 ≠ b20 := Nat.ne_of_lt (Nat.lt_of_lt_of_le EX19.lt hb20)
      have sz_b20 : h0.size ≤ b20 := Nat.le_trans KK19.1 hb20
      have g_b20 : n0 ≤ b20 := Nat.le_trans Z0 sz_b20
      have OL_20 : Old Z n0 T20.heap := Old.keep OL_19 K20 (allS ga all0)
      have E_b10_20 : Exa Z T20.heap b10 "jakarta/faces/model/CollectionDataModel" := Exa.keep E_b10_19 K20
      have V_c13_20 : Arv Z T20.heap c13 kc13 (.object "java/lang/Object") nx us13 .null := Arv.keep V_c13_19 K20 (ninS (Ne.symm ne_la_c13) nin0)
      have MS_20 : own_MS Z T20.heap b10 (.ref wL) ((p4 &&& (15 : Int32)) - (1 : Int32)) (.ref la) (.ref c13) := own_MS_keep MS_19 K20 (ninS (Ne.symm ne_la_b10) nin0)
      have E_y19_20 : Exa Z T20.heap y19 "java/lang/Integer" := Exa.keep EX19 K20
      have KK20 : Keep h0 T20.heap [] := KK19.trans K20 (allS (Or.inr sla) all0)
      refine own_adv (B := T20.setTop (mkF m 203 #[.val (.int p1), .val (.int p2), .val (.int p3), .val (.int p4), .val (.int p5), .val (.int nx), .val (.ref la), .val (.ref b10), .val (.int (1 : Int32)), .val (.int ((p4 &&& (15 : Int32)) - (1 : Int32)))] [(.int (1 : Int32))])) (fun t k => st20.trans k) ?_
      refine own_adv (B := T20.setTop (mkF m 204 #[.val (.int p1), .val (.int p2), .val (.int p3), .val (.int p4), .val (.int p5), .val (.int nx), .val (.ref la), .val (.ref b10), .val (.int (1 : Int32)), .val (.int ((p4 &&& (15 : Int32)) - (1 : Int32)))] [])) (fun t k => XS.pop X20.here hx rfl (hb hby at_203) rfl rfl k) ?_
      refine own_adv (B := T20.setTop (mkF m 206 #[.val (.int p1), .val (.int p2), .val (.int p3), .val (.int p4), .val (.int p5), .val (.int nx), .val (.ref la), .val (.ref b10), .val (.int (1 : Int32)), .val (.int ((p4 &&& (15 : Int32)) - (1 : Int32)))] [(.int (1 : Int32))])) (fun t k => XS.iload X20.here hx rfl (hb hby at_204) rfl k) ?_
      refine own_adv (B := T20.setTop (mkF m 209 #[.val (.int p1), .val (.int p2), .val (.int p3), .val (.int p4), .val (.int p5), .val (.int nx), .val (.ref la), .val (.ref b10), .val (.int (1 : Int32)), .val (.int ((p4 &&& (15 : Int32)) - (1 : Int32)))] [])) (fun t k => XS.ifNo X20.here hx rfl (hb hby at_206) rfl ((if0 _ _).trans (feq (by decide)).1) k) ?_
      refine own_adv (B := T20.setTop (mkF m 211 #[.val (.int p1), .val (.int p2), .val (.int p3), .val (.int p4), .val (.int p5), .val (.int nx), .val (.ref la), .val (.ref b10), .val (.int (1 : Int32)), .val (.int ((p4 &&& (15 : Int32)) - (1 : Int32)))] [(.ref b10)])) (fun t k => XS.aload X20.here hx rfl (hb hby at_209) rfl rfl k) ?_
      obtain ⟨cq21, kq21, q21a, q21b, q21c⟩ := isOf hZ rfl MS_20.1
      obtain ⟨_, _, ⟨T21, L21, k21, n21⟩, -, X21, ⟨Lc21, hQ21, l21, y21, z21⟩, st21⟩ := X20.virtualBack hx (y := (⟨"jakarta/faces/model/CollectionDataModel", "getRowCount", "()I"⟩ : MethodName)) (z := (⟨"jakarta/faces/model/CollectionDataModel", "getRowCount", "()I"⟩ : MethodName)) hown (mvT hZ (hw _ (List.mem_of_getElem? (i := 49) rfl))) (mvT hZ (hw _ (List.mem_of_getElem? (i := 50) rfl))) (notFace_of_selects (args := #[]) (mvT hZ (hw _ (List.mem_of_getElem? (i := 52) rfl)))) (mvT hZ (hw _ (List.mem_of_getElem? (i := 52) rfl))) (mvT hZ (hw _ (List.mem_of_getElem? (i := 51) rfl))) (by decide) (backOf (W := 0) (rmRC1 l Z a0 hw [] b10 la c13 (.ref wL) ((p4 &&& (15 : Int32)) - (1 : Int32)) nx kc13 us13 T20.heap n0 (Nat.le_trans Z0 KK20.1) MS_20 V_c13_20) hZ (hw _ (List.mem_of_getElem? (i := 53) rfl)) (hw _ (List.mem_of_getElem? (i := 29) rfl)) (by decide) (by decide)) q21a q21c (g := (mkF m 211 #[.val (.int p1), .val (.int p2), .val (.int p3), .val (.int p4), .val (.int p5), .val (.int nx), .val (.ref la), .val (.ref b10), .val (.int (1 : Int32)), .val (.int ((p4 &&& (15 : Int32)) - (1 : Int32)))] [(.ref b10)])) rfl (by rw [hml]; rfl) (Steps.refl _) (argsL := []) (rest := []) (lenOf own_pd___I rfl) rfl (by show 2 * 0 + _ ≤ _; exact Nat.le_of_eq rfl) (hb hby at_211) (fun _ _ => ⟨rfl, rfl, (by decide : 10 + 0 ≤ _), (by decide : 42 + 0 ≤ _)⟩)
      dsimp only [Pt.U, Pt.locs, Pt.cells, Pt.slots] at X21 l21 y21 z21 st21 hQ21
      subst l21 y21 z21
      obtain ⟨rfl, N21q, e21⟩ := hQ21
      have N21 := Fr.app N20 N21q
      refine own_adv (B := T21.setTop (mkF m 214 #[.val (.int p1), .val (.int p2), .val (.int p3), .val (.int p4), .val (.int p5), .val (.int nx), .val (.ref la), .val (.ref b10), .val (.int (1 : Int32)), .val (.int ((p4 &&& (15 : Int32)) - (1 : Int32)))] [(.int nx)])) (fun t k => st21.trans k) ?_
      refine own_adv (B := T21.setTop (mkF m 216 #[.val (.int p1), .val (.int p2), .val (.int p3), .val (.int p4), .val (.int p5), .val (.int nx), .val (.ref la), .val (.ref b10), .val (.int (1 : Int32)), .val (.int ((p4 &&& (15 : Int32)) - (1 : Int32)))] [(.int nx), (.int nx)])) (fun t k => XS.iload X21.here hx rfl (hb hby at_214) rfl k) ?_
      refine own_adv (B := T21.setTop (mkF m 219 #[.val (.int p1), .val (.int p2), .val (.int p3), .val (.int p4), .val (.int p5), .val (.int nx), .val (.ref la), .val (.ref b10), .val (.int (1 : Int32)), .val (.int ((p4 &&& (15 : Int32)) - (1 : Int32)))] [])) (fun t k => XS.icmpNo X21.here hx rfl (hb hby at_216) rfl (teq (rfl : nx = nx)).2 k) ?_
      refine own_adv (B := T21.setTop (mkF m 220 #[.val (.int p1), .val (.int p2), .val (.int p3), .val (.int p4), .val (.int p5), .val (.int nx), .val (.ref la), .val (.ref b10), .val (.int (1 : Int32)), .val (.int ((p4 &&& (15 : Int32)) - (1 : Int32)))] [(.int (1 : Int32))])) (fun t k => XS.iconst X21.here hx rfl (hb hby at_219) k) ?_
      refine own_adv (B := T21.setTop (mkF m 224 #[.val (.int p1), .val (.int p2), .val (.int p3), .val (.int p4), .val (.int p5), .val (.int nx), .val (.ref la), .val (.ref b10), .val (.int (1 : Int32)), .val (.int ((p4 &&& (15 : Int32)) - (1 : Int32)))] [(.int (1 : Int32))])) (fun t k => XS.goto X21.here hx rfl (pc0 := 220) (pc' := 224) rfl (hb hby at_220) (by decide) (by decide) k) ?_
      refine own_adv (B := T21.setTop (mkF m 226 #[.val (.int p1), .val (.int p2), .val (.int p3), .val (.int p4), .val (.int p5), .val (.int nx), .val (.ref la), .val (.ref b10), .val (.int (1 : Int32)), .val (.int ((p4 &&& (15 : Int32)) - (1 : Int32)))] [])) (fun t k => XS.istore X21.here hx rfl (hb hby at_224) rfl (l' := #[.val (.int p1), .val (.int p2), .val (.int p3), .val (.int p4), .val (.int p5), .val (.int nx), .val (.ref la), .val (.ref b10), .val (.int (1 : Int32)), .val (.int ((p4 &&& (15 : Int32)) - (1 : Int32)))]) rfl k) ?_
      refine own_adv (B := T21.setTop (mkF m 228 #[.val (.int p1), .val (.int p2), .val (.int p3), .val (.int p4), .val (.int p5), .val (.int nx), .val (.ref la), .val (.ref b10), .val (.int (1 : Int32)), .val (.int ((p4 &&& (15 : Int32)) - (1 : Int32)))] [(.int p5)])) (fun t k => XS.iload X21.here hx rfl (hb hby at_226) rfl k) ?_
      refine own_adv (B := T21.setTop (mkF m 229 #[.val (.int p1), .val (.int p2), .val (.int p3), .val (.int p4), .val (.int p5), .val (.int nx), .val (.ref la), .val (.ref b10), .val (.int (1 : Int32)), .val (.int ((p4 &&& (15 : Int32)) - (1 : Int32)))] [(.int (2 : Int32)), (.int p5)])) (fun t k => XS.iconst X21.here hx rfl (hb hby at_228) k) ?_
      refine own_adv (B := T21.setTop (mkF m 230 #[.val (.int p1), .val (.int p2), .val (.int p3), .val (.int p4), .val (.int p5), .val (.int nx), .val (.ref la), .val (.ref b10), .val (.int (1 : Int32)), .val (.int ((p4 &&& (15 : Int32)) - (1 : Int32)))] [(.int (p5 &&& (2 : Int32)))])) (fun t k => XS.iand X21.here hx rfl (hb hby at_229) rfl k) ?_
      by_cases hf2 : (p5 &&& (2 : Int32)) = (0 : Int32)
      · skip
        refine own_adv (B := T21.setTop (mkF m 260 #[.val (.int p1), .val (.int p2), .val (.int p3), .val (.int p4), .val (.int p5), .val (.int nx), .val (.ref la), .val (.ref b10), .val (.int (1 : Int32)), .val (.int ((p4 &&& (15 : Int32)) - (1 : Int32)))] [])) (fun t k => XS.ifYes X21.here hx rfl (pc0 := 230) (pc' := 260) rfl (hb hby at_230) rfl ((if0 _ _).trans (teq hf2).1) (by decide) (by decide) k) ?_
        refine own_adv (B := T21.setTop (mkF m 262 #[.val (.int p1), .val (.int p2), .val (.int p3), .val (.int p4), .val (.int p5), .val (.int nx), .val (.ref la), .val (.ref b10), .val (.int (1 : Int32)), .val (.int ((p4 &&& (15 : Int32)) - (1 : Int32)))] [(.int (1 : Int32))])) (fun t k => XS.iload X21.here hx rfl (hb hby at_260) rfl k) ?_
        obtain ⟨fs, hr, hrun, hended, hW, hsame⟩ := X21.leave (v := some (.int (1 : Int32))) (fun h => by rw [Bd.returns] at h; cases h)
        refine ⟨_, _, retN X21 hx (t := .boolean) Bd.returns (by simp) (hb hby at_262) hr, hrun, hended, _, _, rfl, ?_, ⟨_, rfl⟩, hW, hsame.mono (by decide) (by decide)⟩
        exact ⟨rfl, N21⟩
      refine own_adv (B := T21.setTop (mkF m 233 #[.val (.int p1), .val (.int p2), .val (.int p3), .val (.int p4), .val (.int p5), .val (.int nx), .val (.ref la), .val (.ref b10), .val (.int (1 : Int32)), .val (.int ((p4 &&& (15 : Int32)) - (1 : Int32)))] [])) (fun t k => XS.ifNo X21.here hx rfl (hb hby at_230) rfl ((if0 _ _).trans (feq hf2).1) k) ?_
      refine own_adv (B := T21.setTop (mkF m 235 #[.val (.int p1), .val (.int p2), .val (.int p3), .val (.int p4), .val (.int p5), .val (.int nx), .val (.ref la), .val (.ref b10), .val (.int (1 : Int32)), .val (.int ((p4 &&& (15 : Int32)) - (1 : Int32)))] [(.ref b10)])) (fun t k => XS.aload X21.here hx rfl (hb hby at_233) rfl rfl k) ?_
      refine own_adv (B := T21.setTop (mkF m 236 #[.val (.int p1), .val (.int p2), .val (.int p3), .val (.int p4), .val (.int p5), .val (.int nx), .val (.ref la), .val (.ref b10), .val (.int (1 : Int32)), .val (.int ((p4 &&& (15 : Int32)) - (1 : Int32)))] [.null, (.ref b10)])) (fun t k => XS.aconstNull X21.here hx rfl (hb hby at_235) k) ?_
      obtain ⟨cq22, kq22, q22a, q22b, q22c⟩ := isOf hZ e21 MS_20.1
      obtain ⟨_, _, ⟨T22, L22, k22, n22⟩, -, X22, ⟨Lc22, hQ22, l22, y22, z22⟩, st22⟩ := X21.virtualBack hx (y := (⟨"jakarta/faces/model/CollectionDataModel", "setWrappedData", "(Ljava/lang/Object;)V"⟩ : MethodName)) (z := (⟨"jakarta/faces/model/CollectionDataModel", "setWrappedData", "(Ljava/lang/Object;)V"⟩ : MethodName)) hown (mvT hZ (hw _ (List.mem_of_getElem? (i := 56) rfl))) (mvT hZ (hw _ (List.mem_of_getElem? (i := 57) rfl))) (notFace_of_selects (args := #[]) (mvT hZ (hw _ (List.mem_of_getElem? (i := 59) rfl)))) (mvT hZ (hw _ (List.mem_of_getElem? (i := 59) rfl))) (mvT hZ (hw _ (List.mem_of_getElem? (i := 58) rfl))) (by decide) (backOf (W := 0) (rmSW0 l Z a0 hw [] b10 wL wE kE ((p4 &&& (15 : Int32)) - (1 : Int32)) (.ref la) (.ref c13) T20.heap n0 (Nat.le_trans Z0 KK20.1) OL_20 EL FL VL MS_20 g_b10) hZ (hw _ (List.mem_of_getElem? (i := 60) rfl)) (hw _ (List.mem_of_getElem? (i := 29) rfl)) (by decide) (by decide)) q22a q22c (g := (mkF m 236 #[.val (.int p1), .val (.int p2), .val (.int p3), .val (.int p4), .val (.int p5), .val (.int nx), .val (.ref la), .val (.ref b10), .val (.int (1 : Int32)), .val (.int ((p4 &&& (15 : Int32)) - (1 : Int32)))] [.null, (.ref b10)])) rfl (by rw [hml]; rfl) (Steps.refl _) (argsL := [.null]) (rest := []) (lenOf own_pd__Ljava_lang_Object__V rfl) rfl (by show 2 * 0 + _ ≤ _; exact Nat.le_of_eq rfl) (hb hby at_236) (fun _ _ => ⟨rfl, e21, (by decide : 10 + 0 ≤ _), (by decide : 42 + 0 ≤ _)⟩)
      dsimp only [Pt.U, Pt.locs, Pt.cells, Pt.slots] at X22 l22 y22 z22 st22 hQ22
      subst l22 y22 z22
      obtain ⟨rfl, N22q, K22, MS22⟩ := hQ22
      have N22 := Fr.app N21 N22q
      have OL_22 : Old Z n0 T22.heap := Old.keep OL_20 K22 (allS g_b10 all0)
      have E_b10_22 : Exa Z T22.heap b10 "jakarta/faces/model/CollectionDataModel" := Exa.keep E_b10_20 K22
      have V_c13_22 : Arv Z T22.heap c13 kc13 (.object "java/lang/Object") nx us13 .null := Arv.keep V_c13_20 K22 (ninS (Ne.symm ne_b10_c13) nin0)
      have E_y19_22 : Exa Z T22.heap y19 "java/lang/Integer" := Exa.keep E_y19_20 K22
      have KK22 : Keep h0 T22.heap [] := KK20.trans K22 (allS (Or.inr sz_b10) all0)
      refine own_adv (B := T22.setTop (mkF m 239 #[.val (.int p1), .val (.int p2), .val (.int p3), .val (.int p4), .val (.int p5), .val (.int nx), .val (.ref la), .val (.ref b10), .val (.int (1 : Int32)), .val (.int ((p4 &&& (15 : Int32)) - (1 : Int32)))] [])) (fun t k => st22.trans k) ?_
      refine own_adv (B := T22.setTop (mkF m 241 #[.val (.int p1), .val (.int p2), .val (.int p3), .val (.int p4), .val (.int p5), .val (.int nx), .val (.ref la), .val (.ref b10), .val (.int (1 : Int32)), .val (.int ((p4 &&& (15 : Int32)) - (1 : Int32)))] [(.int (1 : Int32))])) (fun t k => XS.iload X22.here hx rfl (hb hby at_239) rfl k) ?_
      refine own_adv (B := T22.setTop (mkF m 244 #[.val (.int p1), .val (.int p2), .val (.int p3), .val (.int p4), .val (.int p5), .val (.int nx), .val (.ref la), .val (.ref b10), .val (.int (1 : Int32)), .val (.int ((p4 &&& (15 : Int32)) - (1 : Int32)))] [])) (fun t k => XS.ifNo X22.here hx rfl (hb hby at_241) rfl ((if0 _ _).trans (feq (by decide)).1) k) ?_
      refine own_adv (B := T22.setTop (mkF m 246 #[.val (.int p1), .val (.int p2), .val (.int p3), .val (.int p4), .val (.int p5), .val (.int nx), .val (.ref la), .val (.ref b10), .val (.int (1 : Int32)), .val (.int ((p4 &&& (15 : Int32)) - (1 : Int32)))] [(.ref b10)])) (fun t k => XS.aload X22.here hx rfl (hb hby at_244) rfl rfl k) ?_
      obtain ⟨cq23, kq23, q23a, q23b, q23c⟩ := isOf hZ rfl MS22.1
      obtain ⟨_, _, ⟨T23, L23, k23, n23⟩, -, X23, ⟨Lc23, hQ23, l23, y23, z23⟩, st23⟩ := X22.virtualBack hx (y := (⟨"jakarta/faces/model/CollectionDataModel", "getRowCount", "()I"⟩ : MethodName)) (z := (⟨"jakarta/faces/model/CollectionDataModel", "getRowCount", "()I"⟩ : MethodName)) hown (mvT hZ (hw _ (List.mem_of_getElem? (i := 49) rfl))) (mvT hZ (hw _ (List.mem_of_getElem? (i := 50) rfl))) (notFace_of_selects (args := #[]) (mvT hZ (hw _ (List.mem_of_getElem? (i := 52) rfl)))) (mvT hZ (hw _ (List.mem_of_getElem? (i := 52) rfl))) (mvT hZ (hw _ (List.mem_of_getElem? (i := 51) rfl))) (by decide) (backOf (W := 0) (rmRC0 l Z a0 hw [] b10 (.ref wL) .null (-1 : Int32) T22.heap n0 (Nat.le_trans Z0 KK22.1) MS22) hZ (hw _ (List.mem_of_getElem? (i := 53) rfl)) (hw _ (List.mem_of_getElem? (i := 29) rfl)) (by decide) (by decide)) q23a q23c (g := (mkF m 246 #[.val (.int p1), .val (.int p2), .val (.int p3), .val (.int p4), .val (.int p5), .val (.int nx), .val (.ref la), .val (.ref b10), .val (.int (1 : Int32)), .val (.int ((p4 &&& (15 : Int32)) - (1 : Int32)))] [(.ref b10)])) rfl (by rw [hml]; rfl) (Steps.refl _) (argsL := []) (rest := []) (lenOf own_pd___I rfl) rfl (by show 2 * 0 + _ ≤ _; exact Nat.le_of_eq rfl) (hb hby at_246) (fun _ _ => ⟨rfl, rfl, (by decide : 10 + 0 ≤ _), (by decide : 42 + 0 ≤ _)⟩)
      dsimp only [Pt.U, Pt.locs, Pt.cells, Pt.slots] at X23 l23 y23 z23 st23 hQ23
      subst l23 y23 z23
      obtain ⟨rfl, N23q, e23⟩ := hQ23
      have N23 := Fr.app N22 N23q
      refine own_adv (B := T23.setTop (mkF m 249 #[.val (.int p1), .val (.int p2), .val (.int p3), .val (.int p4), .val (.int p5), .val (.int nx), .val (.ref la), .val (.ref b10), .val (.int (1 : Int32)), .val (.int ((p4 &&& (15 : Int32)) - (1 : Int32)))] [(.int (-1 : Int32))])) (fun t k => st23.trans k) ?_
      refine own_adv (B := T23.setTop (mkF m 250 #[.val (.int p1), .val (.int p2), .val (.int p3), .val (.int p4), .val (.int p5), .val (.int nx), .val (.ref la), .val (.ref b10), .val (.int (1 : Int32)), .val (.int ((p4 &&& (15 : Int32)) - (1 : Int32)))] [(.int (-1 : Int32)), (.int (-1 : Int32))])) (fun t k => XS.iconst X23.here hx rfl (hb hby at_249) k) ?_
      refine own_adv (B := T23.setTop (mkF m 253 #[.val (.int p1), .val (.int p2), .val (.int p3), .val (.int p4), .val (.int p5), .val (.int nx), .val (.ref la), .val (.ref b10), .val (.int (1 : Int32)), .val (.int ((p4 &&& (15 : Int32)) - (1 : Int32)))] [])) (fun t k => XS.icmpNo X23.here hx rfl (hb hby at_250) rfl (teq (rfl : (-1 : Int32) = (-1 : Int32))).2 k) ?_
      refine own_adv (B := T23.setTop (mkF m 254 #[.val (.int p1), .val (.int p2), .val (.int p3), .val (.int p4), .val (.int p5), .val (.int nx), .val (.ref la), .val (.ref b10), .val (.int (1 : Int32)), .val (.int ((p4 &&& (15 : Int32)) - (1 : Int32)))] [(.int (1 : Int32))])) (fun t k => XS.iconst X23.here hx rfl (hb hby at_253) k) ?_
      refine own_adv (B := T23.setTop (mkF m 258 #[.val (.int p1), .val (.int p2), .val (.int p3), .val (.int p4), .val (.int p5), .val (.int nx), .val (.ref la), .val (.ref b10), .val (.int (1 : Int32)), .val (.int ((p4 &&& (15 : Int32)) - (1 : Int32)))] [(.int (1 : Int32))])) (fun t k => XS.goto X23.here hx rfl (pc0 := 254) (pc' := 258) rfl (hb hby at_254) (by decide) (by decide) k) ?_
      refine own_adv (B := T23.setTop (mkF m 260 #[.val (.int p1), .val (.int p2), .val (.int p3), .val (.int p4), .val (.int p5), .val (.int nx), .val (.ref la), .val (.ref b10), .val (.int (1 : Int32)), .val (.int ((p4 &&& (15 : Int32)) - (1 : Int32)))] [])) (fun t k => XS.istore X23.here hx rfl (hb hby at_258) rfl (l' := #[.val (.int p1), .val (.int p2), .val (.int p3), .val (.int p4), .val (.int p5), .val (.int nx), .val (.ref la), .val (.ref b10), .val (.int (1 : Int32)), .val (.int ((p4 &&& (15 : Int32)) - (1 : Int32)))]) rfl k) ?_
      refine own_adv (B := T23.setTop (mkF m 262 #[.val (.int p1), .val (.int p2), .val (.int p3), .val (.int p4), .val (.int p5), .val (.int nx), .val (.ref la), .val (.ref b10), .val (.int (1 : Int32)), .val (.int ((p4 &&& (15 : Int32)) - (1 : Int32)))] [(.int (1 : Int32))])) (fun t k => XS.iload X23.here hx rfl (hb hby at_260) rfl k) ?_
      obtain ⟨fs, hr, hrun, hended, hW, hsame⟩ := X23.leave (v := some (.int (1 : Int32))) (fun h => by rw [Bd.returns] at h; cases h)
      refine ⟨_, _, retN X23 hx (t := .boolean) Bd.returns (by simp) (hb hby at_262) hr, hrun, hended, _, _, rfl, ?_, ⟨_, rfl⟩, hW, hsame.mono (by decide) (by decide)⟩
      exact ⟨rfl, N23⟩
    · skip
      have gb := Nat.le_trans Z0 slb
      have LSB : own_LS Z T19.heap la lb lk (10 : Int32) nx lvs := by
        have q := LS_19
        rw [ez] at q
        exact q
      obtain ⟨cq24, kq24, q24a, q24b, q24c⟩ := isOf hZ rfl LSB.1
      obtain ⟨_, _, ⟨T24, L24, k24, n24⟩, -, X24, ⟨Lc24, hQ24, l24, y24, z24⟩, st24⟩ := X19.virtualBack hx (y := (⟨"java/util/ArrayList", "add", "(Ljava/lang/Object;)Z"⟩ : MethodName)) (z := (⟨"java/util/ArrayList", "add", "(Ljava/lang/Object;)Z"⟩ : MethodName)) hown (mvT hZ (hw _ (List.mem_of_getElem? (i := 135) rfl))) (mvT hZ (hw _ (List.mem_of_getElem? (i := 136) rfl))) (notFace_of_selects (args := #[]) (mvT hZ (hw _ (List.mem_of_getElem? (i := 138) rfl)))) (mvT hZ (hw _ (List.mem_of_getElem? (i := 138) rfl))) (mvT hZ (hw _ (List.mem_of_getElem? (i := 137) rfl))) (by decide) (backOf (W := 0) (rmAN l Z a0 hw [] la y19 lb lk nx lvs T19.heap n0 (Nat.le_trans Z0 KK19.1) LSB OB hlt ga gb nab EX19) hZ (hw _ (List.mem_of_getElem? (i := 139) rfl)) (hw _ (List.mem_of_getElem? (i := 3) rfl)) (by decide) (by decide)) q24a q24c (g := (mkF m 200 #[.val (.int p1), .val (.int p2), .val (.int p3), .val (.int p4), .val (.int p5), .val (.int nx), .val (.ref la), .val (.ref b10), .val (.int (1 : Int32)), .val (.int ((p4 &&& (15 : Int32)) - (1 : Int32)))] [(.ref y19), (.ref la)])) rfl (by rw [hml]; rfl) (Steps.refl _) (argsL := [(.ref y19)]) (rest := []) (lenOf own_pd__Ljava_lang_Object__Z rfl) rfl (by show 2 * 0 + _ ≤ _; exact Nat.le_of_eq rfl) (hb hby at_200) (fun _ _ => ⟨rfl, rfl, (by decide : 9 + 0 ≤ _), (by decide : 32 + 0 ≤ _)⟩)
      dsimp only [Pt.U, Pt.locs, Pt.cells, Pt.slots] at X24 l24 y24 z24 st24 hQ24
      subst l24 y24 z24
      obtain ⟨rfl, N24q, K24, LS24⟩ := hQ24
      have N24 := Fr.app N19 N24q
      have OL_24 : Old Z n0 T24.heap := Old.keep OL_19 K24 (allS ga (allS gb all0))
      have E_b10_24 : Exa Z T24.heap b10 "jakarta/faces/model/CollectionDataModel" := Exa.keep E_b10_19 K24
      have V_c13_24 : Arv Z T24.heap c13 kc13 (.object "java/lang/Object") nx us13 .null := Arv.keep V_c13_19 K24 (ninS (Ne.symm ne_la_c13) (ninS (Ne.symm ne_lb_c13) nin0))
      have MS_24 : own_MS Z T24.heap b10 (.ref wL) ((p4 &&& (15 : Int32)) - (1 : Int32)) (.ref la) (.ref c13) := own_MS_keep MS_19 K24 (ninS (Ne.symm ne_la_b10) (ninS (Ne.symm ne_lb_b10) nin0))
      have E_y19_24 : Exa Z T24.heap y19 "java/lang/Integer" := Exa.keep EX19 K24
      have KK24 : Keep h0 T24.heap [] := KK19.trans K24 (allS (Or.inr sla) (allS (Or.inr slb) all0))
      refine own_adv (B := T24.setTop (mkF m 203 #[.val (.int p1), .val (.int p2), .val (.int p3), .val (.int p4), .val (.int p5), .val (.int nx), .val (.ref la), .val (.ref b10), .val (.int (1 : Int32)), .val (.int ((p4 &&& (15 : Int32)) - (1 : Int32)))] [(.int (1 : Int32))])) (fun t k => st24.trans k) ?_
      refine own_adv (B := T24.setTop (mkF m 204 #[.val (.int p1), .val (.int p2), .val (.int p3), .val (.int p4), .val (.int p5), .val (.int nx), .val (.ref la), .val (.ref b10), .val (.int (1 : Int32)), .val (.int ((p4 &&& (15 : Int32)) - (1 : Int32)))] [])) (fun t k => XS.pop X24.here hx rfl (hb hby at_203) rfl rfl k) ?_
      refine own_adv (B := T24.setTop (mkF m 206 #[.val (.int p1), .val (.int p2), .val (.int p3), .val (.int p4), .val (.int p5), .val (.int nx), .val (.ref la), .val (.ref b10), .val (.int (1 : Int32)), .val (.int ((p4 &&& (15 : Int32)) - (1 : Int32)))] [(.int (1 : Int32))])) (fun t k => XS.iload X24.here hx rfl (hb hby at_204) rfl k) ?_
      refine own_adv (B := T24.setTop (mkF m 209 #[.val (.int p1), .val (.int p2), .val (.int p3), .val (.int p4), .val (.int p5), .val (.int nx), .val (.ref la), .val (.ref b10), .val (.int (1 : Int32)), .val (.int ((p4 &&& (15 : Int32)) - (1 : Int32)))] [])) (fun t k => XS.ifNo X24.here hx rfl (hb hby at_206) rfl ((if0 _ _).trans (feq (by decide)).1) k) ?_
      refine own_adv (B := T24.setTop (mkF m 211 #[.val (.int p1), .val (.int p2), .val (.int p3), .val (.int p4), .val (.int p5), .val (.int nx), .val (.ref la), .val (.ref b10), .val (.int (1 : Int32)), .val (.int ((p4 &&& (15 : Int32)) - (1 : Int32)))] [(.ref b10)])) (fun t k => XS.aload X24.here hx rfl (hb hby at_209) rfl rfl k) ?_
      obtain ⟨cq25, kq25, q25a, q25b, q25c⟩ := isOf hZ rfl MS_24.1
      obtain ⟨_, _, ⟨T25, L25, k25, n25⟩, -, X25, ⟨Lc25, hQ25, l25, y25, z25⟩, st25⟩ := X24.virtualBack hx (y := (⟨"jakarta/faces/model/CollectionDataModel", "getRowCount", "()I"⟩ : MethodName)) (z := (⟨"jakarta/faces/model/CollectionDataModel", "getRowCount", "()I"⟩ : MethodName)) hown (mvT hZ (hw _ (List.mem_of_getElem? (i := 49) rfl))) (mvT hZ (hw _ (List.mem_of_getElem? (i := 50) rfl))) (notFace_of_selects (args := #[]) (mvT hZ (hw _ (List.mem_of_getElem? (i := 52) rfl)))) (mvT hZ (hw _ (List.mem_of_getElem? (i := 52) rfl))) (mvT hZ (hw _ (List.mem_of_getElem? (i := 51) rfl))) (by decide) (backOf (W := 0) (rmRC1 l Z a0 hw [] b10 la c13 (.ref wL) ((p4 &&& (15 : Int32)) - (1 : Int32)) nx kc13 us13 T24.heap n0 (Nat.le_trans Z0 KK24.1) MS_24 V_c13_24) hZ (hw _ (List.mem_of_getElem? (i := 53) rfl)) (hw _ (List.mem_of_getElem? (i := 29) rfl)) (by decide) (by decide)) q25a q25c (g := (mkF m 211 #[.val (.int p1), .val (.int p2), .val (.int p3), .val (.int p4), .val (.int p5), .val (.int nx), .val (.ref la), .val (.ref b10), .val (.int (1 : Int32)), .val (.int ((p4 &&& (15 : Int32)) - (1 : Int32)))] [(.ref b10)])) rfl (by rw [hml]; rfl) (Steps.refl _) (argsL := []) (rest := []) (lenOf own_pd___I rfl) rfl (by show 2 * 0 + _ ≤ _; exact Nat.le_of_eq rfl) (hb hby at_211) (fun _ _ => ⟨rfl, rfl, (by decide : 9 + 0 ≤ _), (by decide : 32 + 0 ≤ _)⟩)
      dsimp only [Pt.U, Pt.locs, Pt.cells, Pt.slots] at X25 l25 y25 z25 st25 hQ25
      subst l25 y25 z25
      obtain ⟨rfl, N25q, e25⟩ := hQ25
      have N25 := Fr.app N24 N25q
      refine own_adv (B := T25.setTop (mkF m 214 #[.val (.int p1), .val (.int p2), .val (.int p3), .val (.int p4), .val (.int p5), .val (.int nx), .val (.ref la), .val (.ref b10), .val (.int (1 : Int32)), .val (.int ((p4 &&& (15 : Int32)) - (1 : Int32)))] [(.int nx)])) (fun t k => st25.trans k) ?_
      refine own_adv (B := T25.setTop (mkF m 216 #[.val (.int p1), .val (.int p2), .val (.int p3), .val (.int p4), .val (.int p5), .val (.int nx), .val (.ref la), .val (.ref b10), .val (.int (1 : Int32)), .val (.int ((p4 &&& (15 : Int32)) - (1 : Int32)))] [(.int nx), (.int nx)])) (fun t k => XS.iload X25.here hx rfl (hb hby at_214) rfl k) ?_
      refine own_adv (B := T25.setTop (mkF m 219 #[.val (.int p1), .val (.int p2), .val (.int p3), .val (.int p4), .val (.int p5), .val (.int nx), .val (.ref la), .val (.ref b10), .val (.int (1 : Int32)), .val (.int ((p4 &&& (15 : Int32)) - (1 : Int32)))] [])) (fun t k => XS.icmpNo X25.here hx rfl (hb hby at_216) rfl (teq (rfl : nx = nx)).2 k) ?_
      refine own_adv (B := T25.setTop (mkF m 220 #[.val (.int p1), .val (.int p2), .val (.int p3), .val (.int p4), .val (.int p5), .val (.int nx), .val (.ref la), .val (.ref b10), .val (.int (1 : Int32)), .val (.int ((p4 &&& (15 : Int32)) - (1 : Int32)))] [(.int (1 : Int32))])) (fun t k => XS.iconst X25.here hx rfl (hb hby at_219) k) ?_
      refine own_adv (B := T25.setTop (mkF m 224 #[.val (.int p1), .val (.int p2), .val (.int p3), .val (.int p4), .val (.int p5), .val (.int nx), .val (.ref la), .val (.ref b10), .val (.int (1 : Int32)), .val (.int ((p4 &&& (15 : Int32)) - (1 : Int32)))] [(.int (1 : Int32))])) (fun t k => XS.goto X25.here hx rfl (pc0 := 220) (pc' := 224) rfl (hb hby at_220) (by decide) (by decide) k) ?_
      refine own_adv (B := T25.setTop (mkF m 226 #[.val (.int p1), .val (.int p2), .val (.int p3), .val (.int p4), .val (.int p5), .val (.int nx), .val (.ref la), .val (.ref b10), .val (.int (1 : Int32)), .val (.int ((p4 &&& (15 : Int32)) - (1 : Int32)))] [])) (fun t k => XS.istore X25.here hx rfl (hb hby at_224) rfl (l' := #[.val (.int p1), .val (.int p2), .val (.int p3), .val (.int p4), .val (.int p5), .val (.int nx), .val (.ref la), .val (.ref b10), .val (.int (1 : Int32)), .val (.int ((p4 &&& (15 : Int32)) - (1 : Int32)))]) rfl k) ?_
      refine own_adv (B := T25.setTop (mkF m 228 #[.val (.int p1), .val (.int p2), .val (.int p3), .val (.int p4), .val (.int p5), .val (.int nx), .val (.ref la), .val (.ref b10), .val (.int (1 : Int32)), .val (.int ((p4 &&& (15 : Int32)) - (1 : Int32)))] [(.int p5)])) (fun t k => XS.iload X25.here hx rfl (hb hby at_226) rfl k) ?_
      refine own_adv (B := T25.setTop (mkF m 229 #[.val (.int p1), .val (.int p2), .val (.int p3), .val (.int p4), .val (.int p5), .val (.int nx), .val (.ref la), .val (.ref b10), .val (.int (1 : Int32)), .val (.int ((p4 &&& (15 : Int32)) - (1 : Int32)))] [(.int (2 : Int32)), (.int p5)])) (fun t k => XS.iconst X25.here hx rfl (hb hby at_228) k) ?_
      refine own_adv (B := T25.setTop (mkF m 230 #[.val (.int p1), .val (.int p2), .val (.int p3), .val (.int p4), .val (.int p5), .val (.int nx), .val (.ref la), .val (.ref b10), .val (.int (1 : Int32)), .val (.int ((p4 &&& (15 : Int32)) - (1 : Int32)))] [(.int (p5 &&& (2 : Int32)))])) (fun t k => XS.iand X25.here hx rfl (hb hby at_229) rfl k) ?_
      by_cases hf2 : (p5 &&& (2 : Int32)) = (0 : Int32)
      · skip
        refine own_adv (B := T25.setTop (mkF m 260 #[.val (.int p1), .val (.int p2), .val (.int p3), .val (.int p4), .val (.int p5), .val (.int nx), .val (.ref la), .val (.ref b10), .val (.int (1 : Int32)), .val (.int ((p4 &&& (15 : Int32)) - (1 : Int32)))] [])) (fun t k => XS.ifYes X25.here hx rfl (pc0 := 230) (pc' := 260) rfl (hb hby at_230) rfl ((if0 _ _).trans (teq hf2).1) (by decide) (by decide) k) ?_
        refine own_adv (B := T25.setTop (mkF m 262 #[.val (.int p1), .val (.int p2), .val (.int p3), .val (.int p4), .val (.int p5), .val (.int nx), .val (.ref la), .val (.ref b10), .val (.int (1 : Int32)), .val (.int ((p4 &&& (15 : Int32)) - (1 : Int32)))] [(.int (1 : Int32))])) (fun t k => XS.iload X25.here hx rfl (hb hby at_260) rfl k) ?_
        obtain ⟨fs, hr, hrun, hended, hW, hsame⟩ := X25.leave (v := some (.int (1 : Int32))) (fun h => by rw [Bd.returns] at h; cases h)
        refine ⟨_, _, retN X25 hx (t := .boolean) Bd.returns (by simp) (hb hby at_262) hr, hrun, hended, _, _, rfl, ?_, ⟨_, rfl⟩, hW, hsame.mono (by decide) (by decide)⟩
        exact ⟨rfl, N25⟩
      refine own_adv (B := T25.setTop (mkF m 233 #[.val (.int p1), .val (.int p2), .val (.int p3), .val (.int p4), .val (.int p5), .val (.int nx), .val (.ref la), .val (.ref b10), .val (.int (1 : Int32)), .val (.int ((p4 &&& (15 : Int32)) - (1 : Int32)))] [])) (fun t k => XS.ifNo X25.here hx rfl (hb hby at_230) rfl ((if0 _ _).trans (feq hf2).1) k) ?_
      refine own_adv (B := T25.setTop (mkF m 235 #[.val (.int p1), .val (.int p2), .val (.int p3), .val (.int p4), .val (.int p5), .val (.int nx), .val (.ref la), .val (.ref b10), .val (.int (1 : Int32)), .val (.int ((p4 &&& (15 : Int32)) - (1 : Int32)))] [(.ref b10)])) (fun t k => XS.aload X25.here hx rfl (hb hby at_233) rfl rfl k) ?_
      refine own_adv (B := T25.setTop (mkF m 236 #[.val (.int p1), .val (.int p2), .val (.int p3), .val (.int p4), .val (.int p5), .val (.int nx), .val (.ref la), .val (.ref b10), .val (.int (1 : Int32)), .val (.int ((p4 &&& (15 : Int32)) - (1 : Int32)))] [.null, (.ref b10)])) (fun t k => XS.aconstNull X25.here hx rfl (hb hby at_235) k) ?_
      obtain ⟨cq26, kq26, q26a, q26b, q26c⟩ := isOf hZ e25 MS_24.1
      obtain ⟨_, _, ⟨T26, L26, k26, n26⟩, -, X26, ⟨Lc26, hQ26, l26, y26, z26⟩, st26⟩ := X25.virtualBack hx (y := (⟨"jakarta/faces/model/CollectionDataModel", "setWrappedData", "(Ljava/lang/Object;)V"⟩ : MethodName)) (z := (⟨"jakarta/faces/model/CollectionDataModel", "setWrappedData", "(Ljava/lang/Object;)V"⟩ : MethodName)) hown (mvT hZ (hw _ (List.mem_of_getElem? (i := 56) rfl))) (mvT hZ (hw _ (List.mem_of_getElem? (i := 57) rfl))) (notFace_of_selects (args := #[]) (mvT hZ (hw _ (List.mem_of_getElem? (i := 59) rfl)))) (mvT hZ (hw _ (List.mem_of_getElem? (i := 59) rfl))) (mvT hZ (hw _ (List.mem_of_getElem? (i := 58) rfl))) (by decide) (backOf (W := 0) (rmSW0 l Z a0 hw [] b10 wL wE kE ((p4 &&& (15 : Int32)) - (1 : Int32)) (.ref la) (.ref c13) T24.heap n0 (Nat.le_trans Z0 KK24.1) OL_24 EL FL VL MS_24 g_b10) hZ (hw _ (List.mem_of_getElem? (i := 60) rfl)) (hw _ (List.mem_of_getElem? (i := 29) rfl)) (by decide) (by decide)) q26a q26c (g := (mkF m 236 #[.val (.int p1), .val (.int p2), .val (.int p3), .val (.int p4), .val (.int p5), .val (.int nx), .val (.ref la), .val (.ref b10), .val (.int (1 : Int32)), .val (.int ((p4 &&& (15 : Int32)) - (1 : Int32)))] [.null, (.ref b10)])) rfl (by rw [hml]; rfl) (Steps.refl _) (argsL := [.null]) (rest := []) (lenOf own_pd__Ljava_lang_Object__V rfl) rfl (by show 2 * 0 + _ ≤ _; exact Nat.le_of_eq rfl) (hb hby at_236) (fun _ _ => ⟨rfl, e25, (by decide : 9 + 0 ≤ _), (by decide : 32 + 0 ≤ _)⟩)
      dsimp only [Pt.U, Pt.locs, Pt.cells, Pt.slots] at X26 l26 y26 z26 st26 hQ26
      subst l26 y26 z26
      obtain ⟨rfl, N26q, K26, MS26⟩ := hQ26
      have N26 := Fr.app N25 N26q
      have OL_26 : Old Z n0 T26.heap := Old.keep OL_24 K26 (allS g_b10 all0)
      have E_b10_26 : Exa Z T26.heap b10 "jakarta/faces/model/CollectionDataModel" := Exa.keep E_b10_24 K26
      have V_c13_26 : Arv Z T26.heap c13 kc13 (.object "java/lang/Object") nx us13 .null := Arv.keep V_c13_24 K26 (ninS (Ne.symm ne_b10_c13) nin0)
      have E_y19_26 : Exa Z T26.heap y19 "java/lang/Integer" := Exa.keep E_y19_24 K26
      have KK26 : Keep h0 T26.heap [] := KK24.trans K26 (allS (Or.inr sz_b10) all0)
      refine own_adv (B := T26.setTop (mkF m 239 #[.val (.int p1), .val (.int p2), .val (.int p3), .val (.int p4), .val (.int p5), .val (.int nx), .val (.ref la), .val (.ref b10), .val (.int (1 : Int32)), .val (.int ((p4 &&& (15 : Int32)) - (1 : Int32)))] [])) (fun t k => st26.trans k) ?_
      refine own_adv (B := T26.setTop (mkF m 241 #[.val (.int p1), .val (.int p2), .val (.int p3), .val (.int p4), .val (.int p5), .val (.int nx), .val (.ref la), .val (.ref b10), .val (.int (1 : Int32)), .val (.int ((p4 &&& (15 : Int32)) - (1 : Int32)))] [(.int (1 : Int32))])) (fun t k => XS.iload X26.here hx rfl (hb hby at_239) rfl k) ?_
      refine own_adv (B := T26.setTop (mkF m 244 #[.val (.int p1), .val (.int p2), .val (.int p3), .val (.int p4), .val (.int p5), .val (.int nx), .val (.ref la), .val (.ref b10), .val (.int (1 : Int32)), .val (.int ((p4 &&& (15 : Int32)) - (1 : Int32)))] [])) (fun t k => XS.ifNo X26.here hx rfl (hb hby at_241) rfl ((if0 _ _).trans (feq (by decide)).1) k) ?_
      refine own_adv (B := T26.setTop (mkF m 246 #[.val (.int p1), .val (.int p2), .val (.int p3), .val (.int p4), .val (.int p5), .val (.int nx), .val (.ref la), .val (.ref b10), .val (.int (1 : Int32)), .val (.int ((p4 &&& (15 : Int32)) - (1 : Int32)))] [(.ref b10)])) (fun t k => XS.aload X26.here hx rfl (hb hby at_244) rfl rfl k) ?_
      obtain ⟨cq27, kq27, q27a, q27b, q27c⟩ := isOf hZ rfl MS26.1
      obtain ⟨_, _, ⟨T27, L27, k27, n27⟩, -, X27, ⟨Lc27, hQ27, l27, y27, z27⟩, st27⟩ := X26.virtualBack hx (y := (⟨"jakarta/faces/model/CollectionDataModel", "getRowCount", "()I"⟩ : MethodName)) (z := (⟨"jakarta/faces/model/CollectionDataModel", "getRowCount", "()I"⟩ : MethodName)) hown (mvT hZ (hw _ (List.mem_of_getElem? (i := 49) rfl))) (mvT hZ (hw _ (List.mem_of_getElem? (i := 50) rfl))) (notFace_of_selects (args := #[]) (mvT hZ (hw _ (List.mem_of_getElem? (i := 52) rfl)))) (mvT hZ (hw _ (List.mem_of_getElem? (i := 52) rfl))) (mvT hZ (hw _ (List.mem_of_getElem? (i := 51) rfl))) (by decide) (backOf (W := 0) (rmRC0 l Z a0 hw [] b10 (.ref wL) .null (-1 : Int32) T26.heap n0 (Nat.le_trans Z0 KK26.1) MS26) hZ (hw _ (List.mem_of_getElem? (i := 53) rfl)) (hw _ (List.mem_of_getElem? (i := 29) rfl)) (by decide) (by decide)) q27a q27c (g := (mkF m 246 #[.val (.int p1), .val (.int p2), .val (.int p3), .val (.int p4), .val (.int p5), .val (.int nx), .val (.ref la), .val (.ref b10), .val (.int (1 : Int32)), .val (.int ((p4 &&& (15 : Int32)) - (1 : Int32)))] [(.ref b10)])) rfl (by rw [hml]; rfl) (Steps.refl _) (argsL := []) (rest := []) (lenOf own_pd___I rfl) rfl (by show 2 * 0 + _ ≤ _; exact Nat.le_of_eq rfl) (hb hby at_246) (fun _ _ => ⟨rfl, rfl, (by decide : 9 + 0 ≤ _), (by decide : 32 + 0 ≤ _)⟩)
      dsimp only [Pt.U, Pt.locs, Pt.cells, Pt.slots] at X27 l27 y27 z27 st27 hQ27
      subst l27 y27 z27
      obtain ⟨rfl, N27q, e27⟩ := hQ27
      have N27 := Fr.app N26 N27q
      refine own_adv (B := T27.setTop (mkF m 249 #[.val (.int p1), .val (.int p2), .val (.int p3), .val (.int p4), .val (.int p5), .val (.int nx), .val (.ref la), .val (.ref b10), .val (.int (1 : Int32)), .val (.int ((p4 &&& (15 : Int32)) - (1 : Int32)))] [(.int (-1 : Int32))])) (fun t k => st27.trans k) ?_
      refine own_adv (B := T27.setTop (mkF m 250 #[.val (.int p1), .val (.int p2), .val (.int p3), .val (.int p4), .val (.int p5), .val (.int nx), .val (.ref la), .val (.ref b10), .val (.int (1 : Int32)), .val (.int ((p4 &&& (15 : Int32)) - (1 : Int32)))] [(.int (-1 : Int32)), (.int (-1 : Int32))])) (fun t k => XS.iconst X27.here hx rfl (hb hby at_249) k) ?_
      refine own_adv (B := T27.setTop (mkF m 253 #[.val (.int p1), .val (.int p2), .val (.int p3), .val (.int p4), .val (.int p5), .val (.int nx), .val (.ref la), .val (.ref b10), .val (.int (1 : Int32)), .val (.int ((p4 &&& (15 : Int32)) - (1 : Int32)))] [])) (fun t k => XS.icmpNo X27.here hx rfl (hb hby at_250) rfl (teq (rfl : (-1 : Int32) = (-1 : Int32))).2 k) ?_
      refine own_adv (B := T27.setTop (mkF m 254 #[.val (.int p1), .val (.int p2), .val (.int p3), .val (.int p4), .val (.int p5), .val (.int nx), .val (.ref la), .val (.ref b10), .val (.int (1 : Int32)), .val (.int ((p4 &&& (15 : Int32)) - (1 : Int32)))] [(.int (1 : Int32))])) (fun t k => XS.iconst X27.here hx rfl (hb hby at_253) k) ?_
      refine own_adv (B := T27.setTop (mkF m 258 #[.val (.int p1), .val (.int p2), .val (.int p3), .val (.int p4), .val (.int p5), .val (.int nx), .val (.ref la), .val (.ref b10), .val (.int (1 : Int32)), .val (.int ((p4 &&& (15 : Int32)) - (1 : Int32)))] [(.int (1 : Int32))])) (fun t k => XS.goto X27.here hx rfl (pc0 := 254) (pc' := 258) rfl (hb hby at_254) (by decide) (by decide) k) ?_
      refine own_adv (B := T27.setTop (mkF m 260 #[.val (.int p1), .val (.int p2), .val (.int p3), .val (.int p4), .val (.int p5), .val (.int nx), .val (.ref la), .val (.ref b10), .val (.int (1 : Int32)), .val (.int ((p4 &&& (15 : Int32)) - (1 : Int32)))] [])) (fun t k => XS.istore X27.here hx rfl (hb hby at_258) rfl (l' := #[.val (.int p1), .val (.int p2), .val (.int p3), .val (.int p4), .val (.int p5), .val (.int nx), .val (.ref la), .val (.ref b10), .val (.int (1 : Int32)), .val (.int ((p4 &&& (15 : Int32)) - (1 : Int32)))]) rfl k) ?_
      refine own_adv (B := T27.setTop (mkF m 262 #[.val (.int p1), .val (.int p2), .val (.int p3), .val (.int p4), .val (.int p5), .val (.int nx), .val (.ref la), .val (.ref b10), .val (.int (1 : Int32)), .val (.int ((p4 &&& (15 : Int32)) - (1 : Int32)))] [(.int (1 : Int32))])) (fun t k => XS.iload X27.here hx rfl (hb hby at_260) rfl k) ?_
      obtain ⟨fs, hr, hrun, hended, hW, hsame⟩ := X27.leave (v := some (.int (1 : Int32))) (fun h => by rw [Bd.returns] at h; cases h)
      refine ⟨_, _, retN X27 hx (t := .boolean) Bd.returns (by simp) (hb hby at_262) hr, hrun, hended, _, _, rfl, ?_, ⟨_, rfl⟩, hW, hsame.mono (by decide) (by decide)⟩
      exact ⟨rfl, N27⟩
  refine own_adv (B := s₁.setTop (mkF m 1 #[.val (.int p1), .val (.int p2), .val (.int p3), .val (.int p4), .val (.int p5), .unset, .unset, .unset, .unset, .unset] [(.int p1)])) (fun t k => XS.iloadN X0.here hx rfl (hb hby at_0) rfl k) ?_
  refine own_adv (B := s₁.setTop (mkF m 3 #[.val (.int p1), .val (.int p2), .val (.int p3), .val (.int p4), .val (.int p5), .unset, .unset, .unset, .unset, .unset] [(.int (2147483647 : Int32)), (.int p1)])) (fun t k => X0.ldcI hx hown (mvT hZ (hw _ (List.mem_of_getElem? (i := 0) rfl))) (g := (mkF m 1 #[.val (.int p1), .val (.int p2), .val (.int p3), .val (.int p4), .val (.int p5), .unset, .unset, .unset, .unset, .unset] [(.int p1)])) rfl (hb hby at_1) k) ?_
  refine own_adv (B := s₁.setTop (mkF m 4 #[.val (.int p1), .val (.int p2), .val (.int p3), .val (.int p4), .val (.int p5), .unset, .unset, .unset, .unset, .unset] [(.int (p1 &&& (2147483647 : Int32)))])) (fun t k => XS.iand X0.here hx rfl (hb hby at_3) rfl k) ?_
  refine own_adv (B := s₁.setTop (mkF m 6 #[.val (.int p1), .val (.int p2), .val (.int p3), .val (.int p4), .val (.int p5), .unset, .unset, .unset, .unset, .unset] [(.int (6 : Int32)), (.int (p1 &&& (2147483647 : Int32)))])) (fun t k => XS.bipush X0.here hx rfl (hb hby at_4) k) ?_
  refine own_adv (B := s₁.setTop (mkF m 7 #[.val (.int p1), .val (.int p2), .val (.int p3), .val (.int p4), .val (.int p5), .unset, .unset, .unset, .unset, .unset] [(.int ((p1 &&& (2147483647 : Int32)) % (6 : Int32)))])) (fun t k => iremM X0 hx (g := (mkF m 6 #[.val (.int p1), .val (.int p2), .val (.int p3), .val (.int p4), .val (.int p5), .unset, .unset, .unset, .unset, .unset] [(.int (6 : Int32)), (.int (p1 &&& (2147483647 : Int32)))])) rfl (hb hby at_6) rfl (by decide) k) ?_
  refine own_adv (B := s₁.setTop (mkF m 9 #[.val (.int p1), .val (.int p2), .val (.int p3), .val (.int p4), .val (.int p5), .val (.int ((p1 &&& (2147483647 : Int32)) % (6 : Int32))), .unset, .unset, .unset, .unset] [])) (fun t k => XS.istore X0.here hx rfl (hb hby at_7) rfl (l' := #[.val (.int p1), .val (.int p2), .val (.int p3), .val (.int p4), .val (.int p5), .val (.int ((p1 &&& (2147483647 : Int32)) % (6 : Int32))), .unset, .unset, .unset, .unset]) rfl k) ?_
  obtain ⟨T28, h28, X28, e28, E28, A28, D28, -, st28⟩ := newO X0 hx hZ hown (hw _ (List.mem_of_getElem? (i := 1) rfl)) (hw _ (List.mem_of_getElem? (i := 2) rfl)) (hw _ (List.mem_of_getElem? (i := 3) rfl)) e0 (g := (mkF m 9 #[.val (.int p1), .val (.int p2), .val (.int p3), .val (.int p4), .val (.int p5), .val (.int ((p1 &&& (2147483647 : Int32)) % (6 : Int32))), .unset, .unset, .unset, .unset] [])) rfl (hb hby at_9) (by decide) (by decide)
  obtain ⟨b28, g28⟩ : ∃ z, z = h0.size := ⟨_, rfl⟩
  rw [← g28] at A28 D28 st28
  subst e28
  have sz_b28 : h0.size ≤ b28 := Nat.le_trans KK0.1 (Nat.le_of_eq g28.symm)
  have g_b28 : n0 ≤ b28 := Nat.le_trans Z0 sz_b28
  have OL_28 : Old Z n0 T28.heap := Old.keep OL ((Keep.refl _ []).ext E28) all0
  have KK28 : Keep h0 T28.heap [] := KK0.ext E28
  have F_modCount_b28 : Fld Z T28.heap b28 "java/util/AbstractList" "modCount" "I" (.int (0 : Int32)) := D28 (Or.inl (hw _ (List.mem_of_getElem? (i := 23) rfl))) (ty := .int) (by decide)
  have F_elementData_b28 : Fld Z T28.heap b28 "java/util/ArrayList" "elementData" "[Ljava/lang/Object;" .null := D28 (Or.inl (hw _ (List.mem_of_getElem? (i := 26) rfl))) (ty := (.array (.object "java/lang/Object"))) (by decide)
  have F_size_b28 : Fld Z T28.heap b28 "java/util/ArrayList" "size" "I" (.int (0 : Int32)) := D28 (Or.inl (hw _ (List.mem_of_getElem? (i := 72) rfl))) (ty := .int) (by decide)
  refine own_adv (B := T28.setTop (mkF m 12 #[.val (.int p1), .val (.int p2), .val (.int p3), .val (.int p4), .val (.int p5), .val (.int ((p1 &&& (2147483647 : Int32)) % (6 : Int32))), .unset, .unset, .unset, .unset] [(.ref b28)])) st28 ?_
  refine own_adv (B := T28.setTop (mkF m 13 #[.val (.int p1), .val (.int p2), .val (.int p3), .val (.int p4), .val (.int p5), .val (.int ((p1 &&& (2147483647 : Int32)) % (6 : Int32))), .unset, .unset, .unset, .unset] [(.ref b28), (.ref b28)])) (fun t k => XS.dup X28.here hx rfl (hb hby at_12) rfl rfl k) ?_
  obtain ⟨_, _, ⟨T29, L29, k29, n29⟩, -, X29, ⟨Lc29, hQ29, l29, y29, z29⟩, st29⟩ := X28.specialBack hx (y := (⟨"java/util/ArrayList", "<init>", "()V"⟩ : MethodName)) rfl hown (mvT hZ (hw _ (List.mem_of_getElem? (i := 4) rfl))) (mvT hZ (hw _ (List.mem_of_getElem? (i := 5) rfl))) (mvT hZ (hw _ (List.mem_of_getElem? (i := 6) rfl))) (by decide) (backOf (W := 1) (rmAL l Z a0 hw [] b28 wD kD T28.heap n0 (Nat.le_trans Z0 KK28.1) OL_28 S_D ED VD A28 F_modCount_b28 F_size_b28 F_elementData_b28 g_b28) hZ (hw _ (List.mem_of_getElem? (i := 6) rfl)) (hw _ (List.mem_of_getElem? (i := 3) rfl)) (by decide) (by decide)) (g := (mkF m 13 #[.val (.int p1), .val (.int p2), .val (.int p3), .val (.int p4), .val (.int p5), .val (.int ((p1 &&& (2147483647 : Int32)) % (6 : Int32))), .unset, .unset, .unset, .unset] [(.ref b28), (.ref b28)])) rfl (by rw [hml]; rfl) (Steps.refl _) (a := b28) (argsL := []) (rest := [(.ref b28)]) (lenOf own_pd___V rfl) rfl (by show 2 * 0 + _ ≤ _; exact Nat.le_of_eq rfl) (hb hby at_13) (fun _ _ => ⟨rfl, rfl, (by decide : 1 + 0 ≤ _), (by decide : 3 + 0 ≤ _)⟩)
  dsimp only [Pt.U, Pt.locs, Pt.cells, Pt.slots] at X29 l29 y29 z29 st29 hQ29
  subst l29 y29 z29
  obtain ⟨rfl, N29q, K29, LS29⟩ := hQ29
  have N29 := Fr.app N0 N29q
  have OL_29 : Old Z n0 T29.heap := Old.keep OL_28 K29 (allS g_b28 all0)
  have E_b28_29 : Exa Z T29.heap b28 "java/util/ArrayList" := Exa.keep A28 K29
  have KK29 : Keep h0 T29.heap [] := KK28.trans K29 (allS (Or.inr sz_b28) all0)
  refine own_adv (B := T29.setTop (mkF m 16 #[.val (.int p1), .val (.int p2), .val (.int p3), .val (.int p4), .val (.int p5), .val (.int ((p1 &&& (2147483647 : Int32)) % (6 : Int32))), .unset, .unset, .unset, .unset] [(.ref b28)])) (fun t k => st29.trans k) ?_
  have ne_wD_la : wD ≠ b28 := Old.ne OL_29 ED.lt g_b28
  refine own_adv (B := T29.setTop (mkF m 18 #[.val (.int p1), .val (.int p2), .val (.int p3), .val (.int p4), .val (.int p5), .val (.int ((p1 &&& (2147483647 : Int32)) % (6 : Int32))), .val (.ref b28), .unset, .unset, .unset] [])) (fun t k => XS.astore X29.here hx rfl (hb hby at_16) rfl rfl (l' := #[.val (.int p1), .val (.int p2), .val (.int p3), .val (.int p4), .val (.int p5), .val (.int ((p1 &&& (2147483647 : Int32)) % (6 : Int32))), .val (.ref b28), .unset, .unset, .unset]) rfl k) ?_
  refine own_adv (B := T29.setTop (mkF m 20 #[.val (.int p1), .val (.int p2), .val (.int p3), .val (.int p4), .val (.int p5), .val (.int ((p1 &&& (2147483647 : Int32)) % (6 : Int32))), .val (.ref b28), .unset, .unset, .unset] [(.int ((p1 &&& (2147483647 : Int32)) % (6 : Int32)))])) (fun t k => XS.iload X29.here hx rfl (hb hby at_18) rfl k) ?_
  rcases own_mod6 p1 with c0 | c1 | c2 | c3 | c4 | c5
  · skip
    refine own_adv (B := T29.setTop (mkF m 33 #[.val (.int p1), .val (.int p2), .val (.int p3), .val (.int p4), .val (.int p5), .val (.int ((p1 &&& (2147483647 : Int32)) % (6 : Int32))), .val (.ref b28), .unset, .unset, .unset] [])) (fun t k => XS.ifYes X29.here hx rfl (pc0 := 20) (pc' := 33) rfl (hb hby at_20) rfl ((if0 _ _).trans (flt (by rw [c0]; decide)).2.2.2) (by decide) (by decide) k) ?_
    refine own_adv (B := T29.setTop (mkF m 35 #[.val (.int p1), .val (.int p2), .val (.int p3), .val (.int p4), .val (.int p5), .val (.int ((p1 &&& (2147483647 : Int32)) % (6 : Int32))), .val (.ref b28), .unset, .unset, .unset] [(.int ((p1 &&& (2147483647 : Int32)) % (6 : Int32)))])) (fun t k => XS.iload X29.here hx rfl (hb hby at_33) rfl k) ?_
    refine own_adv (B := T29.setTop (mkF m 36 #[.val (.int p1), .val (.int p2), .val (.int p3), .val (.int p4), .val (.int p5), .val (.int ((p1 &&& (2147483647 : Int32)) % (6 : Int32))), .val (.ref b28), .unset, .unset, .unset] [(.int (1 : Int32)), (.int ((p1 &&& (2147483647 : Int32)) % (6 : Int32)))])) (fun t k => XS.iconst X29.here hx rfl (hb hby at_35) k) ?_
    refine own_adv (B := T29.setTop (mkF m 49 #[.val (.int p1), .val (.int p2), .val (.int p3), .val (.int p4), .val (.int p5), .val (.int ((p1 &&& (2147483647 : Int32)) % (6 : Int32))), .val (.ref b28), .unset, .unset, .unset] [])) (fun t k => XS.icmpYes X29.here hx rfl (pc0 := 36) (pc' := 49) rfl (hb hby at_36) rfl (flt (by rw [c0]; decide)).2.2.2 (by decide) (by decide) k) ?_
    refine own_adv (B := T29.setTop (mkF m 51 #[.val (.int p1), .val (.int p2), .val (.int p3), .val (.int p4), .val (.int p5), .val (.int ((p1 &&& (2147483647 : Int32)) % (6 : Int32))), .val (.ref b28), .unset, .unset, .unset] [(.int ((p1 &&& (2147483647 : Int32)) % (6 : Int32)))])) (fun t k => XS.iload X29.here hx rfl (hb hby at_49) rfl k) ?_
    refine own_adv (B := T29.setTop (mkF m 52 #[.val (.int p1), .val (.int p2), .val (.int p3), .val (.int p4), .val (.int p5), .val (.int ((p1 &&& (2147483647 : Int32)) % (6 : Int32))), .val (.ref b28), .unset, .unset, .unset] [(.int (2 : Int32)), (.int ((p1 &&& (2147483647 : Int32)) % (6 : Int32)))])) (fun t k => XS.iconst X29.here hx rfl (hb hby at_51) k) ?_
    refine own_adv (B := T29.setTop (mkF m 67 #[.val (.int p1), .val (.int p2), .val (.int p3), .val (.int p4), .val (.int p5), .val (.int ((p1 &&& (2147483647 : Int32)) % (6 : Int32))), .val (.ref b28), .unset, .unset, .unset] [])) (fun t k => XS.icmpYes X29.here hx rfl (pc0 := 52) (pc' := 67) rfl (hb hby at_52) rfl (flt (by rw [c0]; decide)).2.2.2 (by decide) (by decide) k) ?_
    refine own_adv (B := T29.setTop (mkF m 69 #[.val (.int p1), .val (.int p2), .val (.int p3), .val (.int p4), .val (.int p5), .val (.int ((p1 &&& (2147483647 : Int32)) % (6 : Int32))), .val (.ref b28), .unset, .unset, .unset] [(.int ((p1 &&& (2147483647 : Int32)) % (6 : Int32)))])) (fun t k => XS.iload X29.here hx rfl (hb hby at_67) rfl k) ?_
    refine own_adv (B := T29.setTop (mkF m 70 #[.val (.int p1), .val (.int p2), .val (.int p3), .val (.int p4), .val (.int p5), .val (.int ((p1 &&& (2147483647 : Int32)) % (6 : Int32))), .val (.ref b28), .unset, .unset, .unset] [(.int (3 : Int32)), (.int ((p1 &&& (2147483647 : Int32)) % (6 : Int32)))])) (fun t k => XS.iconst X29.here hx rfl (hb hby at_69) k) ?_
    refine own_adv (B := T29.setTop (mkF m 83 #[.val (.int p1), .val (.int p2), .val (.int p3), .val (.int p4), .val (.int p5), .val (.int ((p1 &&& (2147483647 : Int32)) % (6 : Int32))), .val (.ref b28), .unset, .unset, .unset] [])) (fun t k => XS.icmpYes X29.here hx rfl (pc0 := 70) (pc' := 83) rfl (hb hby at_70) rfl (flt (by rw [c0]; decide)).2.2.2 (by decide) (by decide) k) ?_
    refine own_adv (B := T29.setTop (mkF m 85 #[.val (.int p1), .val (.int p2), .val (.int p3), .val (.int p4), .val (.int p5), .val (.int ((p1 &&& (2147483647 : Int32)) % (6 : Int32))), .val (.ref b28), .unset, .unset, .unset] [(.int ((p1 &&& (2147483647 : Int32)) % (6 : Int32)))])) (fun t k => XS.iload X29.here hx rfl (hb hby at_83) rfl k) ?_
    refine own_adv (B := T29.setTop (mkF m 86 #[.val (.int p1), .val (.int p2), .val (.int p3), .val (.int p4), .val (.int p5), .val (.int ((p1 &&& (2147483647 : Int32)) % (6 : Int32))), .val (.ref b28), .unset, .unset, .unset] [(.int (4 : Int32)), (.int ((p1 &&& (2147483647 : Int32)) % (6 : Int32)))])) (fun t k => XS.iconst X29.here hx rfl (hb hby at_85) k) ?_
    refine own_adv (B := T29.setTop (mkF m 96 #[.val (.int p1), .val (.int p2), .val (.int p3), .val (.int p4), .val (.int p5), .val (.int ((p1 &&& (2147483647 : Int32)) % (6 : Int32))), .val (.ref b28), .unset, .unset, .unset] [])) (fun t k => XS.icmpYes X29.here hx rfl (pc0 := 86) (pc' := 96) rfl (hb hby at_86) rfl (flt (by rw [c0]; decide)).2.2.2 (by decide) (by decide) k) ?_
    have hn : ((p1 &&& (2147483647 : Int32)) % (6 : Int32)) = (0 : Int32) := c0.trans (by decide)
    have LSn : own_LS Z T29.heap b28 wD kD (0 : Int32) ((p1 &&& (2147483647 : Int32)) % (6 : Int32)) [] := by rw [hn]; exact LS29
    exact tail _ _ _ _ _ _ _ _ (X29.more (by decide) (by decide)) N29 OL_29 KK29 LSn sz_b28 (Or.inl ⟨rfl, rfl, rfl, c0, rfl⟩) (by rw [c0]; decide)
  · skip
    refine own_adv (B := T29.setTop (mkF m 23 #[.val (.int p1), .val (.int p2), .val (.int p3), .val (.int p4), .val (.int p5), .val (.int ((p1 &&& (2147483647 : Int32)) % (6 : Int32))), .val (.ref b28), .unset, .unset, .unset] [])) (fun t k => XS.ifNo X29.here hx rfl (hb hby at_20) rfl ((if0 _ _).trans (tlt (by rw [c1]; decide)).2.2.2) k) ?_
    refine own_adv (B := T29.setTop (mkF m 25 #[.val (.int p1), .val (.int p2), .val (.int p3), .val (.int p4), .val (.int p5), .val (.int ((p1 &&& (2147483647 : Int32)) % (6 : Int32))), .val (.ref b28), .unset, .unset, .unset] [(.ref b28)])) (fun t k => XS.aload X29.here hx rfl (hb hby at_23) rfl rfl k) ?_
    refine own_adv (B := T29.setTop (mkF m 26 #[.val (.int p1), .val (.int p2), .val (.int p3), .val (.int p4), .val (.int p5), .val (.int ((p1 &&& (2147483647 : Int32)) % (6 : Int32))), .val (.ref b28), .unset, .unset, .unset] [(.int p2), (.ref b28)])) (fun t k => XS.iloadN X29.here hx rfl (hb hby at_25) rfl k) ?_
    obtain ⟨_, _, ⟨T30, L30, k30, n30⟩, -, X30, ⟨Lc30, hQ30, l30, y30, z30⟩, st30⟩ := Jvm.LawKit.callS X29 hx (y := (⟨"java/lang/Integer", "valueOf", "(I)Ljava/lang/Integer;"⟩ : MethodName)) hown (mvT hZ (hw _ (List.mem_of_getElem? (i := 128) rfl))) (mvT hZ (hw _ (List.mem_of_getElem? (i := 129) rfl))) (mvT hZ (hw _ (List.mem_of_getElem? (i := 130) rfl))) (mvT hZ (hw _ (List.mem_of_getElem? (i := 131) rfl))) (by decide) (backOf (W := 1) (rmVO l Z a0 hw [] p2 wC cC T29.heap n0 (Nat.le_trans Z0 KK29.1) OL_29 S_h S_c AC szC elC) hZ (hw _ (List.mem_of_getElem? (i := 131) rfl)) (hw _ (List.mem_of_getElem? (i := 130) rfl)) (by decide) (by decide)) (g := (mkF m 26 #[.val (.int p1), .val (.int p2), .val (.int p3), .val (.int p4), .val (.int p5), .val (.int ((p1 &&& (2147483647 : Int32)) % (6 : Int32))), .val (.ref b28), .unset, .unset, .unset] [(.int p2), (.ref b28)])) rfl (by rw [hml]; rfl) (argsL := [(.int p2)]) (rest := [(.ref b28)]) (lenOf own_pd__I_Ljava_lang_Integer_ rfl) rfl (by show 2 * 0 + _ ≤ _; exact Nat.le_of_eq rfl) (hb hby at_26) (fun _ _ => ⟨rfl, rfl, (by decide : 1 + 1 ≤ _), (by decide : 3 + 1 ≤ _)⟩)
    dsimp only [Pt.U, Pt.locs, Pt.cells, Pt.slots] at X30 l30 y30 z30 st30 hQ30
    subst l30 y30 z30
    obtain ⟨y30, rfl, N30q, K30, EX30⟩ := hQ30
    have N30 := Fr.app N29 N30q
    have OL_30 : Old Z n0 T30.heap := Old.keep OL_29 K30 all0
    have E_b28_30 : Exa Z T30.heap b28 "java/util/ArrayList" := Exa.keep E_b28_29 K30
    have LS_30 : own_LS Z T30.heap b28 wD kD (0 : Int32) (0 : Int32) [] := own_LS_keep LS29 K30 nin0 nin0
    have KK30 : Keep h0 T30.heap [] := KK29.trans K30 all0
    refine own_adv (B := T30.setTop (mkF m 29 #[.val (.int p1), .val (.int p2), .val (.int p3), .val (.int p4), .val (.int p5), .val (.int ((p1 &&& (2147483647 : Int32)) % (6 : Int32))), .val (.ref b28), .unset, .unset, .unset] [(.ref y30), (.ref b28)])) (fun t k => st30 t k) ?_
    obtain ⟨cq31, kq31, q31a, q31b, q31c⟩ := isOf hZ rfl LS_30.1
    obtain ⟨_, _, ⟨T31, L31, k31, n31⟩, -, X31, ⟨Lc31, hQ31, l31, y31, z31⟩, st31⟩ := X30.virtualBack hx (y := (⟨"java/util/ArrayList", "add", "(Ljava/lang/Object;)Z"⟩ : MethodName)) (z := (⟨"java/util/ArrayList", "add", "(Ljava/lang/Object;)Z"⟩ : MethodName)) hown (mvT hZ (hw _ (List.mem_of_getElem? (i := 135) rfl))) (mvT hZ (hw _ (List.mem_of_getElem? (i := 136) rfl))) (notFace_of_selects (args := #[]) (mvT hZ (hw _ (List.mem_of_getElem? (i := 138) rfl)))) (mvT hZ (hw _ (List.mem_of_getElem? (i := 138) rfl))) (mvT hZ (hw _ (List.mem_of_getElem? (i := 137) rfl))) (by decide) (backOf (W := 0) (rmAF l Z a0 hw [] b28 y30 wD kD T30.heap n0 (Nat.le_trans Z0 KK30.1) OL_30 S_D VD LS_30 g_b28 EX30) hZ (hw _ (List.mem_of_getElem? (i := 139) rfl)) (hw _ (List.mem_of_getElem? (i := 3) rfl)) (by decide) (by decide)) q31a q31c (g := (mkF m 29 #[.val (.int p1), .val (.int p2), .val (.int p3), .val (.int p4), .val (.int p5), .val (.int ((p1 &&& (2147483647 : Int32)) % (6 : Int32))), .val (.ref b28), .unset, .unset, .unset] [(.ref y30), (.ref b28)])) rfl (by rw [hml]; rfl) (Steps.refl _) (argsL := [(.ref y30)]) (rest := []) (lenOf own_pd__Ljava_lang_Object__Z rfl) rfl (by show 2 * 0 + _ ≤ _; exact Nat.le_of_eq rfl) (hb hby at_29) (fun _ _ => ⟨rfl, rfl, (by decide : 2 + 1 ≤ _), (by decide : 4 + 10 ≤ _)⟩)
    dsimp only [Pt.U, Pt.locs, Pt.cells, Pt.slots] at X31 l31 y31 z31 st31 hQ31
    subst l31 y31 z31
    obtain ⟨b31, kb31, rfl, N31q, K31, hb31, LS31, O31⟩ := hQ31
    have N31 := Fr.app N30 N31q
    have ne_b28_b31 : b28 ≠ b31 := Nat.ne_of_lt (Nat.lt_of_lt_of_le E_b28_30.lt hb31)
    have ne_wD_b31 : wD ≠ b31 := Nat.ne_of_lt (Nat.lt_of_lt_of_le LS_30.2.2.2.2.1.lt hb31)
    have ne_y30_b31 : y30 ≠ b31 := Nat.ne_of_lt (Nat.lt_of_lt_of_le EX30.lt hb31)
    have sz_b31 : h0.size ≤ b31 := Nat.le_trans KK30.1 hb31
    have g_b31 : n0 ≤ b31 := Nat.le_trans Z0 sz_b31
    have OL_31 : Old Z n0 T31.heap := Old.keep OL_30 K31 (allS g_b28 all0)
    have E_b28_31 : Exa Z T31.heap b28 "java/util/ArrayList" := Exa.keep E_b28_30 K31
    have E_y30_31 : Exa Z T31.heap y30 "java/lang/Integer" := Exa.keep EX30 K31
    have KK31 : Keep h0 T31.heap [] := KK30.trans K31 (allS (Or.inr sz_b28) all0)
    refine own_adv (B := T31.setTop (mkF m 32 #[.val (.int p1), .val (.int p2), .val (.int p3), .val (.int p4), .val (.int p5), .val (.int ((p1 &&& (2147483647 : Int32)) % (6 : Int32))), .val (.ref b28), .unset, .unset, .unset] [(.int (1 : Int32))])) (fun t k => st31.trans k) ?_
    refine own_adv (B := T31.setTop (mkF m 33 #[.val (.int p1), .val (.int p2), .val (.int p3), .val (.int p4), .val (.int p5), .val (.int ((p1 &&& (2147483647 : Int32)) % (6 : Int32))), .val (.ref b28), .unset, .unset, .unset] [])) (fun t k => XS.pop X31.here hx rfl (hb hby at_32) rfl rfl k) ?_
    refine own_adv (B := T31.setTop (mkF m 35 #[.val (.int p1), .val (.int p2), .val (.int p3), .val (.int p4), .val (.int p5), .val (.int ((p1 &&& (2147483647 : Int32)) % (6 : Int32))), .val (.ref b28), .unset, .unset, .unset] [(.int ((p1 &&& (2147483647 : Int32)) % (6 : Int32)))])) (fun t k => XS.iload X31.here hx rfl (hb hby at_33) rfl k) ?_
    refine own_adv (B := T31.setTop (mkF m 36 #[.val (.int p1), .val (.int p2), .val (.int p3), .val (.int p4), .val (.int p5), .val (.int ((p1 &&& (2147483647 : Int32)) % (6 : Int32))), .val (.ref b28), .unset, .unset, .unset] [(.int (1 : Int32)), (.int ((p1 &&& (2147483647 : Int32)) % (6 : Int32)))])) (fun t k => XS.iconst X31.here hx rfl (hb hby at_35) k) ?_
    refine own_adv (B := T31.setTop (mkF m 49 #[.val (.int p1), .val (.int p2), .val (.int p3), .val (.int p4), .val (.int p5), .val (.int ((p1 &&& (2147483647 : Int32)) % (6 : Int32))), .val (.ref b28), .unset, .unset, .unset] [])) (fun t k => XS.icmpYes X31.here hx rfl (pc0 := 36) (pc' := 49) rfl (hb hby at_36) rfl (flt (by rw [c1]; decide)).2.2.2 (by decide) (by decide) k) ?_
    refine own_adv (B := T31.setTop (mkF m 51 #[.val (.int p1), .val (.int p2), .val (.int p3), .val (.int p4), .val (.int p5), .val (.int ((p1 &&& (2147483647 : Int32)) % (6 : Int32))), .val (.ref b28), .unset, .unset, .unset] [(.int ((p1 &&& (2147483647 : Int32)) % (6 : Int32)))])) (fun t k => XS.iload X31.here hx rfl (hb hby at_49) rfl k) ?_
    refine own_adv (B := T31.setTop (mkF m 52 #[.val (.int p1), .val (.int p2), .val (.int p3), .val (.int p4), .val (.int p5), .val (.int ((p1 &&& (2147483647 : Int32)) % (6 : Int32))), .val (.ref b28), .unset, .unset, .unset] [(.int (2 : Int32)), (.int ((p1 &&& (2147483647 : Int32)) % (6 : Int32)))])) (fun t k => XS.iconst X31.here hx rfl (hb hby at_51) k) ?_
    refine own_adv (B := T31.setTop (mkF m 67 #[.val (.int p1), .val (.int p2), .val (.int p3), .val (.int p4), .val (.int p5), .val (.int ((p1 &&& (2147483647 : Int32)) % (6 : Int32))), .val (.ref b28), .unset, .unset, .unset] [])) (fun t k => XS.icmpYes X31.here hx rfl (pc0 := 52) (pc' := 67) rfl (hb hby at_52) rfl (flt (by rw [c1]; decide)).2.2.2 (by decide) (by decide) k) ?_
    refine own_adv (B := T31.setTop (mkF m 69 #[.val (.int p1), .val (.int p2), .val (.int p3), .val (.int p4), .val (.int p5), .val (.int ((p1 &&& (2147483647 : Int32)) % (6 : Int32))), .val (.ref b28), .unset, .unset, .unset] [(.int ((p1 &&& (2147483647 : Int32)) % (6 : Int32)))])) (fun t k => XS.iload X31.here hx rfl (hb hby at_67) rfl k) ?_
    refine own_adv (B := T31.setTop (mkF m 70 #[.val (.int p1), .val (.int p2), .val (.int p3), .val (.int p4), .val (.int p5), .val (.int ((p1 &&& (2147483647 : Int32)) % (6 : Int32))), .val (.ref b28), .unset, .unset, .unset] [(.int (3 : Int32)), (.int ((p1 &&& (2147483647 : Int32)) % (6 : Int32)))])) (fun t k => XS.iconst X31.here hx rfl (hb hby at_69) k) ?_
    refine own_adv (B := T31.setTop (mkF m 83 #[.val (.int p1), .val (.int p2), .val (.int p3), .val (.int p4), .val (.int p5), .val (.int ((p1 &&& (2147483647 : Int32)) % (6 : Int32))), .val (.ref b28), .unset, .unset, .unset] [])) (fun t k => XS.icmpYes X31.here hx rfl (pc0 := 70) (pc' := 83) rfl (hb hby at_70) rfl (flt (by rw [c1]; decide)).2.2.2 (by decide) (by decide) k) ?_
    refine own_adv (B := T31.setTop (mkF m 85 #[.val (.int p1), .val (.int p2), .val (.int p3), .val (.int p4), .val (.int p5), .val (.int ((p1 &&& (2147483647 : Int32)) % (6 : Int32))), .val (.ref b28), .unset, .unset, .unset] [(.int ((p1 &&& (2147483647 : Int32)) % (6 : Int32)))])) (fun t k => XS.iload X31.here hx rfl (hb hby at_83) rfl k) ?_
    refine own_adv (B := T31.setTop (mkF m 86 #[.val (.int p1), .val (.int p2), .val (.int p3), .val (.int p4), .val (.int p5), .val (.int ((p1 &&& (2147483647 : Int32)) % (6 : Int32))), .val (.ref b28), .unset, .unset, .unset] [(.int (4 : Int32)), (.int ((p1 &&& (2147483647 : Int32)) % (6 : Int32)))])) (fun t k => XS.iconst X31.here hx rfl (hb hby at_85) k) ?_
    refine own_adv (B := T31.setTop (mkF m 96 #[.val (.int p1), .val (.int p2), .val (.int p3), .val (.int p4), .val (.int p5), .val (.int ((p1 &&& (2147483647 : Int32)) % (6 : Int32))), .val (.ref b28), .unset, .unset, .unset] [])) (fun t k => XS.icmpYes X31.here hx rfl (pc0 := 86) (pc' := 96) rfl (hb hby at_86) rfl (flt (by rw [c1]; decide)).2.2.2 (by decide) (by decide) k) ?_
    have hn : ((p1 &&& (2147483647 : Int32)) % (6 : Int32)) = (1 : Int32) := c1.trans (by decide)
    have LSn : own_LS Z T31.heap b28 b31 kb31 (10 : Int32) ((p1 &&& (2147483647 : Int32)) % (6 : Int32)) [(.ref y30)] := by rw [hn]; exact LS31
    exact tail _ _ _ _ _ _ _ _ (X31.more (by decide) (by decide)) N31 OL_31 KK31 LSn sz_b28 (Or.inr ⟨sz_b31, rfl, by rw [c1]; decide, ne_b28_b31, O31⟩) (by rw [c1]; decide)
  · skip
    refine own_adv (B := T29.setTop (mkF m 23 #[.val (.int p1), .val (.int p2), .val (.int p3), .val (.int p4), .val (.int p5), .val (.int ((p1 &&& (2147483647 : Int32)) % (6 : Int32))), .val (.ref b28), .unset, .unset, .unset] [])) (fun t k => XS.ifNo X29.here hx rfl (hb hby at_20) rfl ((if0 _ _).trans (tlt (by rw [c2]; decide)).2.2.2) k) ?_
    refine own_adv (B := T29.setTop (mkF m 25 #[.val (.int p1), .val (.int p2), .val (.int p3), .val (.int p4), .val (.int p5), .val (.int ((p1 &&& (2147483647 : Int32)) % (6 : Int32))), .val (.ref b28), .unset, .unset, .unset] [(.ref b28)])) (fun t k => XS.aload X29.here hx rfl (hb hby at_23) rfl rfl k) ?_
    refine own_adv (B := T29.setTop (mkF m 26 #[.val (.int p1), .val (.int p2), .val (.int p3), .val (.int p4), .val (.int p5), .val (.int ((p1 &&& (2147483647 : Int32)) % (6 : Int32))), .val (.ref b28), .unset, .unset, .unset] [(.int p2), (.ref b28)])) (fun t k => XS.iloadN X29.here hx rfl (hb hby at_25) rfl k) ?_
    obtain ⟨_, _, ⟨T32, L32, k32, n32⟩, -, X32, ⟨Lc32, hQ32, l32, y32, z32⟩, st32⟩ := Jvm.LawKit.callS X29 hx (y := (⟨"java/lang/Integer", "valueOf", "(I)Ljava/lang/Integer;"⟩ : MethodName)) hown (mvT hZ (hw _ (List.mem_of_getElem? (i := 128) rfl))) (mvT hZ (hw _ (List.mem_of_getElem? (i := 129) rfl))) (mvT hZ (hw _ (List.mem_of_getElem? (i := 130) rfl))) (mvT hZ (hw _ (List.mem_of_getElem? (i := 131) rfl))) (by decide) (backOf (W := 1) (rmVO l Z a0 hw [] p2 wC cC T29.heap n0 (Nat.le_trans Z0 KK29.1) OL_29 S_h S_c AC szC elC) hZ (hw _ (List.mem_of_getElem? (i := 131) rfl)) (hw _ (List.mem_of_getElem? (i := 130) rfl)) (by decide) (by decide)) (g := (mkF m 26 #[.val (.int p1), .val (.int p2), .val (.int p3), .val (.int p4), .val (.int p5), .val (.int ((p1 &&& (2147483647 : Int32)) % (6 : Int32))), .val (.ref b28), .unset, .unset, .unset] [(.int p2), (.ref b28)])) rfl (by rw [hml]; rfl) (argsL := [(.int p2)]) (rest := [(.ref b28)]) (lenOf own_pd__I_Ljava_lang_Integer_ rfl) rfl (by show 2 * 0 + _ ≤ _; exact Nat.le_of_eq rfl) (hb hby at_26) (fun _ _ => ⟨rfl, rfl, (by decide : 1 + 1 ≤ _), (by decide : 3 + 1 ≤ _)⟩)
    dsimp only [Pt.U, Pt.locs, Pt.cells, Pt.slots] at X32 l32 y32 z32 st32 hQ32
    subst l32 y32 z32
    obtain ⟨y32, rfl, N32q, K32, EX32⟩ := hQ32
    have N32 := Fr.app N29 N32q
    have OL_32 : Old Z n0 T32.heap := Old.keep OL_29 K32 all0
    have E_b28_32 : Exa Z T32.heap b28 "java/util/ArrayList" := Exa.keep E_b28_29 K32
    have LS_32 : own_LS Z T32.heap b28 wD kD (0 : Int32) (0 : Int32) [] := own_LS_keep LS29 K32 nin0 nin0
    have KK32 : Keep h0 T32.heap [] := KK29.trans K32 all0
    refine own_adv (B := T32.setTop (mkF m 29 #[.val (.int p1), .val (.int p2), .val (.int p3), .val (.int p4), .val (.int p5), .val (.int ((p1 &&& (2147483647 : Int32)) % (6 : Int32))), .val (.ref b28), .unset, .unset, .unset] [(.ref y32), (.ref b28)])) (fun t k => st32 t k) ?_
    obtain ⟨cq33, kq33, q33a, q33b, q33c⟩ := isOf hZ rfl LS_32.1
    obtain ⟨_, _, ⟨T33, L33, k33, n33⟩, -, X33, ⟨Lc33, hQ33, l33, y33, z33⟩, st33⟩ := X32.virtualBack hx (y := (⟨"java/util/ArrayList", "add", "(Ljava/lang/Object;)Z"⟩ : MethodName)) (z := (⟨"java/util/ArrayList", "add", "(Ljava/lang/Object;)Z"⟩ : MethodName)) hown (mvT hZ (hw _ (List.mem_of_getElem? (i := 135) rfl))) (mvT hZ (hw _ (List.mem_of_getElem? (i := 136) rfl))) (notFace_of_selects (args := #[]) (mvT hZ (hw _ (List.mem_of_getElem? (i := 138) rfl)))) (mvT hZ (hw _ (List.mem_of_getElem? (i := 138) rfl))) (mvT hZ (hw _ (List.mem_of_getElem? (i := 137) rfl))) (by decide) (backOf (W := 0) (rmAF l Z a0 hw [] b28 y32 wD kD T32.heap n0 (Nat.le_trans Z0 KK32.1) OL_32 S_D VD LS_32 g_b28 EX32) hZ (hw _ (List.mem_of_getElem? (i := 139) rfl)) (hw _ (List.mem_of_getElem? (i := 3) rfl)) (by decide) (by decide)) q33a q33c (g := (mkF m 29 #[.val (.int p1), .val (.int p2), .val (.int p3), .val (.int p4), .val (.int p5), .val (.int ((p1 &&& (2147483647 : Int32)) % (6 : Int32))), .val (.ref b28), .unset, .unset, .unset] [(.ref y32), (.ref b28)])) rfl (by rw [hml]; rfl) (Steps.refl _) (argsL := [(.ref y32)]) (rest := []) (lenOf own_pd__Ljava_lang_Object__Z rfl) rfl (by show 2 * 0 + _ ≤ _; exact Nat.le_of_eq rfl) (hb hby at_29) (fun _ _ => ⟨rfl, rfl, (by decide : 2 + 1 ≤ _), (by decide : 4 + 10 ≤ _)⟩)
    dsimp only [Pt.U, Pt.locs, Pt.cells, Pt.slots] at X33 l33 y33 z33 st33 hQ33
    subst l33 y33 z33
    obtain ⟨b33, kb33, rfl, N33q, K33, hb33, LS33, O33⟩ := hQ33
    have N33 := Fr.app N32 N33q
    have ne_b28_b33 : b28 ≠ b33 := Nat.ne_of_lt (Nat.lt_of_lt_of_le E_b28_32.lt hb33)
    have ne_wD_b33 : wD ≠ b33 := Nat.ne_of_lt (Nat.lt_of_lt_of_le LS_32.2.2.2.2.1.lt hb33)
    have ne_y32_b33 : y32 ≠ b33 := Nat.ne_of_lt (Nat.lt_of_lt_of_le EX32.lt hb33)
    have sz_b33 : h0.size ≤ b33 := Nat.le_trans KK32.1 hb33
    have g_b33 : n0 ≤ b33 := Nat.le_trans Z0 sz_b33
    have OL_33 : Old Z n0 T33.heap := Old.keep OL_32 K33 (allS g_b28 all0)
    have E_b28_33 : Exa Z T33.heap b28 "java/util/ArrayList" := Exa.keep E_b28_32 K33
    have E_y32_33 : Exa Z T33.heap y32 "java/lang/Integer" := Exa.keep EX32 K33
    have KK33 : Keep h0 T33.heap [] := KK32.trans K33 (allS (Or.inr sz_b28) all0)
    refine own_adv (B := T33.setTop (mkF m 32 #[.val (.int p1), .val (.int p2), .val (.int p3), .val (.int p4), .val (.int p5), .val (.int ((p1 &&& (2147483647 : Int32)) % (6 : Int32))), .val (.ref b28), .unset, .unset, .unset] [(.int (1 : Int32))])) (fun t k => st33.trans k) ?_
    refine own_adv (B := T33.setTop (mkF m 33 #[.val (.int p1), .val (.int p2), .val (.int p3), .val (.int p4), .val (.int p5), .val (.int ((p1 &&& (2147483647 : Int32)) % (6 : Int32))), .val (.ref b28), .unset, .unset, .unset] [])) (fun t k => XS.pop X33.here hx rfl (hb hby at_32) rfl rfl k) ?_
    refine own_adv (B := T33.setTop (mkF m 35 #[.val (.int p1), .val (.int p2), .val (.int p3), .val (.int p4), .val (.int p5), .val (.int ((p1 &&& (2147483647 : Int32)) % (6 : Int32))), .val (.ref b28), .unset, .unset, .unset] [(.int ((p1 &&& (2147483647 : Int32)) % (6 : Int32)))])) (fun t k => XS.iload X33.here hx rfl (hb hby at_33) rfl k) ?_
    refine own_adv (B := T33.setTop (mkF m 36 #[.val (.int p1), .val (.int p2), .val (.int p3), .val (.int p4), .val (.int p5), .val (.int ((p1 &&& (2147483647 : Int32)) % (6 : Int32))), .val (.ref b28), .unset, .unset, .unset] [(.int (1 : Int32)), (.int ((p1 &&& (2147483647 : Int32)) % (6 : Int32)))])) (fun t k => XS.iconst X33.here hx rfl (hb hby at_35) k) ?_
    refine own_adv (B := T33.setTop (mkF m 39 #[.val (.int p1), .val (.int p2), .val (.int p3), .val (.int p4), .val (.int p5), .val (.int ((p1 &&& (2147483647 : Int32)) % (6 : Int32))), .val (.ref b28), .unset, .unset, .unset] [])) (fun t k => XS.icmpNo X33.here hx rfl (hb hby at_36) rfl (tlt (by rw [c2]; decide)).2.2.2 k) ?_
    refine own_adv (B := T33.setTop (mkF m 41 #[.val (.int p1), .val (.int p2), .val (.int p3), .val (.int p4), .val (.int p5), .val (.int ((p1 &&& (2147483647 : Int32)) % (6 : Int32))), .val (.ref b28), .unset, .unset, .unset] [(.ref b28)])) (fun t k => XS.aload X33.here hx rfl (hb hby at_39) rfl rfl k) ?_
    refine own_adv (B := T33.setTop (mkF m 42 #[.val (.int p1), .val (.int p2), .val (.int p3), .val (.int p4), .val (.int p5), .val (.int ((p1 &&& (2147483647 : Int32)) % (6 : Int32))), .val (.ref b28), .unset, .unset, .unset] [(.int p3), (.ref b28)])) (fun t k => XS.iloadN X33.here hx rfl (hb hby at_41) rfl k) ?_
    obtain ⟨_, _, ⟨T34, L34, k34, n34⟩, -, X34, ⟨Lc34, hQ34, l34, y34, z34⟩, st34⟩ := Jvm.LawKit.callS X33 hx (y := (⟨"java/lang/Integer", "valueOf", "(I)Ljava/lang/Integer;"⟩ : MethodName)) hown (mvT hZ (hw _ (List.mem_of_getElem? (i := 128) rfl))) (mvT hZ (hw _ (List.mem_of_getElem? (i := 129) rfl))) (mvT hZ (hw _ (List.mem_of_getElem? (i := 130) rfl))) (mvT hZ (hw _ (List.mem_of_getElem? (i := 131) rfl))) (by decide) (backOf (W := 1) (rmVO l Z a0 hw [] p3 wC cC T33.heap n0 (Nat.le_trans Z0 KK33.1) OL_33 S_h S_c AC szC elC) hZ (hw _ (List.mem_of_getElem? (i := 131) rfl)) (hw _ (List.mem_of_getElem? (i := 130) rfl)) (by decide) (by decide)) (g := (mkF m 42 #[.val (.int p1), .val (.int p2), .val (.int p3), .val (.int p4), .val (.int p5), .val (.int ((p1 &&& (2147483647 : Int32)) % (6 : Int32))), .val (.ref b28), .unset, .unset, .unset] [(.int p3), (.ref b28)])) rfl (by rw [hml]; rfl) (argsL := [(.int p3)]) (rest := [(.ref b28)]) (lenOf own_pd__I_Ljava_lang_Integer_ rfl) rfl (by show 2 * 0 + _ ≤ _; exact Nat.le_of_eq rfl) (hb hby at_42) (fun _ _ => ⟨rfl, rfl, (by decide : 3 + 1 ≤ _), (by decide : 14 + 1 ≤ _)⟩)
    dsimp only [Pt.U, Pt.locs, Pt.cells, Pt.slots] at X34 l34 y34 z34 st34 hQ34
    subst l34 y34 z34
    obtain ⟨y34, rfl, N34q, K34, EX34⟩ := hQ34
    have N34 := Fr.app N33 N34q
    have OL_34 : Old Z n0 T34.heap := Old.keep OL_33 K34 all0
    have E_b28_34 : Exa Z T34.heap b28 "java/util/ArrayList" := Exa.keep E_b28_33 K34
    have E_y32_34 : Exa Z T34.heap y32 "java/lang/Integer" := Exa.keep E_y32_33 K34
    have LS_34 : own_LS Z T34.heap b28 b33 kb33 (10 : Int32) (1 : Int32) [(.ref y32)] := own_LS_keep LS33 K34 nin0 nin0
    have KK34 : Keep h0 T34.heap [] := KK33.trans K34 all0
    refine own_adv (B := T34.setTop (mkF m 45 #[.val (.int p1), .val (.int p2), .val (.int p3), .val (.int p4), .val (.int p5), .val (.int ((p1 &&& (2147483647 : Int32)) % (6 : Int32))), .val (.ref b28), .unset, .unset, .unset] [(.ref y34), (.ref b28)])) (fun t k => st34 t k) ?_
    obtain ⟨cq35, kq35, q35a, q35b, q35c⟩ := isOf hZ rfl LS_34.1
    obtain ⟨_, _, ⟨T35, L35, k35, n35⟩, -, X35, ⟨Lc35, hQ35, l35, y35, z35⟩, st35⟩ := X34.virtualBack hx (y := (⟨"java/util/ArrayList", "add", "(Ljava/lang/Object;)Z"⟩ : MethodName)) (z := (⟨"java/util/ArrayList", "add", "(Ljava/lang/Object;)Z"⟩ : MethodName)) hown (mvT hZ (hw _ (List.mem_of_getElem? (i := 135) rfl))) (mvT hZ (hw _ (List.mem_of_getElem? (i := 136) rfl))) (notFace_of_selects (args := #[]) (mvT hZ (hw _ (List.mem_of_getElem? (i := 138) rfl)))) (mvT hZ (hw _ (List.mem_of_getElem? (i := 138) rfl))) (mvT hZ (hw _ (List.mem_of_getElem? (i := 137) rfl))) (by decide) (backOf (W := 0) (rmAN l Z a0 hw [] b28 y34 b33 kb33 (1 : Int32) [(.ref y32)] T34.heap n0 (Nat.le_trans Z0 KK34.1) LS_34 O33 (by decide) g_b28 g_b33 ne_b28_b33 EX34) hZ (hw _ (List.mem_of_getElem? (i := 139) rfl)) (hw _ (List.mem_of_getElem? (i := 3) rfl)) (by decide) (by decide)) q35a q35c (g := (mkF m 45 #[.val (.int p1), .val (.int p2), .val (.int p3), .val (.int p4), .val (.int p5), .val (.int ((p1 &&& (2147483647 : Int32)) % (6 : Int32))), .val (.ref b28), .unset, .unset, .unset] [(.ref y34), (.ref b28)])) rfl (by rw [hml]; rfl) (Steps.refl _) (argsL := [(.ref y34)]) (rest := []) (lenOf own_pd__Ljava_lang_Object__Z rfl) rfl (by show 2 * 0 + _ ≤ _; exact Nat.le_of_eq rfl) (hb hby at_45) (fun _ _ => ⟨rfl, rfl, (by decide : 4 + 0 ≤ _), (by decide : 15 + 0 ≤ _)⟩)
    dsimp only [Pt.U, Pt.locs, Pt.cells, Pt.slots] at X35 l35 y35 z35 st35 hQ35
    subst l35 y35 z35
    obtain ⟨rfl, N35q, K35, LS35⟩ := hQ35
    have N35 := Fr.app N34 N35q
    have OL_35 : Old Z n0 T35.heap := Old.keep OL_34 K35 (allS g_b28 (allS g_b33 all0))
    have E_b28_35 : Exa Z T35.heap b28 "java/util/ArrayList" := Exa.keep E_b28_34 K35
    have E_y32_35 : Exa Z T35.heap y32 "java/lang/Integer" := Exa.keep E_y32_34 K35
    have E_y34_35 : Exa Z T35.heap y34 "java/lang/Integer" := Exa.keep EX34 K35
    have KK35 : Keep h0 T35.heap [] := KK34.trans K35 (allS (Or.inr sz_b28) (allS (Or.inr sz_b33) all0))
    refine own_adv (B := T35.setTop (mkF m 48 #[.val (.int p1), .val (.int p2), .val (.int p3), .val (.int p4), .val (.int p5), .val (.int ((p1 &&& (2147483647 : Int32)) % (6 : Int32))), .val (.ref b28), .unset, .unset, .unset] [(.int (1 : Int32))])) (fun t k => st35.trans k) ?_
    refine own_adv (B := T35.setTop (mkF m 49 #[.val (.int p1), .val (.int p2), .val (.int p3), .val (.int p4), .val (.int p5), .val (.int ((p1 &&& (2147483647 : Int32)) % (6 : Int32))), .val (.ref b28), .unset, .unset, .unset] [])) (fun t k => XS.pop X35.here hx rfl (hb hby at_48) rfl rfl k) ?_
    refine own_adv (B := T35.setTop (mkF m 51 #[.val (.int p1), .val (.int p2), .val (.int p3), .val (.int p4), .val (.int p5), .val (.int ((p1 &&& (2147483647 : Int32)) % (6 : Int32))), .val (.ref b28), .unset, .unset, .unset] [(.int ((p1 &&& (2147483647 : Int32)) % (6 : Int32)))])) (fun t k => XS.iload X35.here hx rfl (hb hby at_49) rfl k) ?_
    refine own_adv (B := T35.setTop (mkF m 52 #[.val (.int p1), .val (.int p2), .val (.int p3), .val (.int p4), .val (.int p5), .val (.int ((p1 &&& (2147483647 : Int32)) % (6 : Int32))), .val (.ref b28), .unset, .unset, .unset] [(.int (2 : Int32)), (.int ((p1 &&& (2147483647 : Int32)) % (6 : Int32)))])) (fun t k => XS.iconst X35.here hx rfl (hb hby at_51) k) ?_
    refine own_adv (B := T35.setTop (mkF m 67 #[.val (.int p1), .val (.int p2), .val (.int p3), .val (.int p4), .val (.int p5), .val (.int ((p1 &&& (2147483647 : Int32)) % (6 : Int32))), .val (.ref b28), .unset, .unset, .unset] [])) (fun t k => XS.icmpYes X35.here hx rfl (pc0 := 52) (pc' := 67) rfl (hb hby at_52) rfl (flt (by rw [c2]; decide)).2.2.2 (by decide) (by decide) k) ?_
    refine own_adv (B := T35.setTop (mkF m 69 #[.val (.int p1), .val (.int p2), .val (.int p3), .val (.int p4), .val (.int p5), .val (.int ((p1 &&& (2147483647 : Int32)) % (6 : Int32))), .val (.ref b28), .unset, .unset, .unset] [(.int ((p1 &&& (2147483647 : Int32)) % (6 : Int32)))])) (fun t k => XS.iload X35.here hx rfl (hb hby at_67) rfl k) ?_
    refine own_adv (B := T35.setTop (mkF m 70 #[.val (.int p1), .val (.int p2), .val (.int p3), .val (.int p4), .val (.int p5), .val (.int ((p1 &&& (2147483647 : Int32)) % (6 : Int32))), .val (.ref b28), .unset, .unset, .unset] [(.int (3 : Int32)), (.int ((p1 &&& (2147483647 : Int32)) % (6 : Int32)))])) (fun t k => XS.iconst X35.here hx rfl (hb hby at_69) k) ?_
    refine own_adv (B := T35.setTop (mkF m 83 #[.val (.int p1), .val (.int p2), .val (.int p3), .val (.int p4), .val (.int p5), .val (.int ((p1 &&& (2147483647 : Int32)) % (6 : Int32))), .val (.ref b28), .unset, .unset, .unset] [])) (fun t k => XS.icmpYes X35.here hx rfl (pc0 := 70) (pc' := 83) rfl (hb hby at_70) rfl (flt (by rw [c2]; decide)).2.2.2 (by decide) (by decide) k) ?_
    refine own_adv (B := T35.setTop (mkF m 85 #[.val (.int p1), .val (.int p2), .val (.int p3), .val (.int p4), .val (.int p5), .val (.int ((p1 &&& (2147483647 : Int32)) % (6 : Int32))), .val (.ref b28), .unset, .unset, .unset] [(.int ((p1 &&& (2147483647 : Int32)) % (6 : Int32)))])) (fun t k => XS.iload X35.here hx rfl (hb hby at_83) rfl k) ?_
    refine own_adv (B := T35.setTop (mkF m 86 #[.val (.int p1), .val (.int p2), .val (.int p3), .val (.int p4), .val (.int p5), .val (.int ((p1 &&& (2147483647 : Int32)) % (6 : Int32))), .val (.ref b28), .unset, .unset, .unset] [(.int (4 : Int32)), (.int ((p1 &&& (2147483647 : Int32)) % (6 : Int32)))])) (fun t k => XS.iconst X35.here hx rfl (hb hby at_85) k) ?_
    refine own_adv (B := T35.setTop (mkF m 96 #[.val (.int p1), .val (.int p2), .val (.int p3), .val (.int p4), .val (.int p5), .val (.int ((p1 &&& (2147483647 : Int32)) % (6 : Int32))), .val (.ref b28), .unset, .unset, .unset] [])) (fun t k => XS.icmpYes X35.here hx rfl (pc0 := 86) (pc' := 96) rfl (hb hby at_86) rfl (flt (by rw [c2]; decide)).2.2.2 (by decide) (by decide) k) ?_
    have hn : ((p1 &&& (2147483647 : Int32)) % (6 : Int32)) = ((1 : Int32) + 1) := c2.trans (by decide)
    have LSn : own_LS Z T35.heap b28 b33 kb33 (10 : Int32) ((p1 &&& (2147483647 : Int32)) % (6 : Int32)) ([(.ref y32)] ++ [(.ref y34)]) := by rw [hn]; exact LS35
    exact tail _ _ _ _ _ _ _ _ (X35.more (by decide) (by decide)) N35 OL_35 KK35 LSn sz_b28 (Or.inr ⟨sz_b33, rfl, by rw [c2]; decide, ne_b28_b33, O33⟩) (by rw [c2]; decide)
  · skip
    refine own_adv (B := T29.setTop (mkF m 23 #[.val (.int p1), .val (.int p2), .val (.int p3), .val (.int p4), .val (.int p5), .val (.int ((p1 &&& (2147483647 : Int32)) % (6 : Int32))), .val (.ref b28), .unset, .unset, .unset] [])) (fun t k => XS.ifNo X29.here hx rfl (hb hby at_20) rfl ((if0 _ _).trans (tlt (by rw [c3]; decide)).2.2.2) k) ?_
    refine own_adv (B := T29.setTop (mkF m 25 #[.val (.int p1), .val (.int p2), .val (.int p3), .val (.int p4), .val (.int p5), .val (.int ((p1 &&& (2147483647 : Int32)) % (6 : Int32))), .val (.ref b28), .unset, .unset, .unset] [(.ref b28)])) (fun t k => XS.aload X29.here hx rfl (hb hby at_23) rfl rfl k) ?_
    refine own_adv (B := T29.setTop (mkF m 26 #[.val (.int p1), .val (.int p2), .val (.int p3), .val (.int p4), .val (.int p5), .val (.int ((p1 &&& (2147483647 : Int32)) % (6 : Int32))), .val (.ref b28), .unset, .unset, .unset] [(.int p2), (.ref b28)])) (fun t k => XS.iloadN X29.here hx rfl (hb hby at_25) rfl k) ?_
    obtain ⟨_, _, ⟨T36, L36, k36, n36⟩, -, X36, ⟨Lc36, hQ36, l36, y36, z36⟩, st36⟩ := Jvm.LawKit.callS X29 hx (y := (⟨"java/lang/Integer", "valueOf", "(I)Ljava/lang/Integer;"⟩ : MethodName)) hown (mvT hZ (hw _ (List.mem_of_getElem? (i := 128) rfl))) (mvT hZ (hw _ (List.mem_of_getElem? (i := 129) rfl))) (mvT hZ (hw _ (List.mem_of_getElem? (i := 130) rfl))) (mvT hZ (hw _ (List.mem_of_getElem? (i := 131) rfl))) (by decide) (backOf (W := 1) (rmVO l Z a0 hw [] p2 wC cC T29.heap n0 (Nat.le_trans Z0 KK29.1) OL_29 S_h S_c AC szC elC) hZ (hw _ (List.mem_of_getElem? (i := 131) rfl)) (hw _ (List.mem_of_getElem? (i := 130) rfl)) (by decide) (by decide)) (g := (mkF m 26 #[.val (.int p1), .val (.int p2), .val (.int p3), .val (.int p4), .val (.int p5), .val (.int ((p1 &&& (2147483647 : Int32)) % (6 : Int32))), .val (.ref b28), .unset, .unset, .unset] [(.int p2), (.ref b28)])) rfl (by rw [hml]; rfl) (argsL := [(.int p2)]) (rest := [(.ref b28)]) (lenOf own_pd__I_Ljava_lang_Integer_ rfl) rfl (by show 2 * 0 + _ ≤ _; exact Nat.le_of_eq rfl) (hb hby at_26) (fun _ _ => ⟨rfl, rfl, (by decide : 1 + 1 ≤ _), (by decide : 3 + 1 ≤ _)⟩)
    dsimp only [Pt.U, Pt.locs, Pt.cells, Pt.slots] at X36 l36 y36 z36 st36 hQ36
    subst l36 y36 z36
    obtain ⟨y36, rfl, N36q, K36, EX36⟩ := hQ36
    have N36 := Fr.app N29 N36q
    have OL_36 : Old Z n0 T36.heap := Old.keep OL_29 K36 all0
    have E_b28_36 : Exa Z T36.heap b28 "java/util/ArrayList" := Exa.keep E_b28_29 K36
    have LS_36 : own_LS Z T36.heap b28 wD kD (0 : Int32) (0 : Int32) [] := own_LS_keep LS29 K36 nin0 nin0
    have KK36 : Keep h0 T36.heap [] := KK29.trans K36 all0
    refine own_adv (B := T36.setTop (mkF m 29 #[.val (.int p1), .val (.int p2), .val (.int p3), .val (.int p4), .val (.int p5), .val (.int ((p1 &&& (2147483647 : Int32)) % (6 : Int32))), .val (.ref b28), .unset, .unset, .unset] [(.ref y36), (.ref b28)])) (fun t k => st36 t k) ?_
    obtain ⟨cq37, kq37, q37a, q37b, q37c⟩ := isOf hZ rfl LS_36.1
    obtain ⟨_, _, ⟨T37, L37, k37, n37⟩, -, X37, ⟨Lc37, hQ37, l37, y37, z37⟩, st37⟩ := X36.virtualBack hx (y := (⟨"java/util/ArrayList", "add", "(Ljava/lang/Object;)Z"⟩ : MethodName)) (z := (⟨"java/util/ArrayList", "add", "(Ljava/lang/Object;)Z"⟩ : MethodName)) hown (mvT hZ (hw _ (List.mem_of_getElem? (i := 135) rfl))) (mvT hZ (hw _ (List.mem_of_getElem? (i := 136) rfl))) (notFace_of_selects (args := #[]) (mvT hZ (hw _ (List.mem_of_getElem? (i := 138) rfl)))) (mvT hZ (hw _ (List.mem_of_getElem? (i := 138) rfl))) (mvT hZ (hw _ (List.mem_of_getElem? (i := 137) rfl))) (by decide) (backOf (W := 0) (rmAF l Z a0 hw [] b28 y36 wD kD T36.heap n0 (Nat.le_trans Z0 KK36.1) OL_36 S_D VD LS_36 g_b28 EX36) hZ (hw _ (List.mem_of_getElem? (i := 139) rfl)) (hw _ (List.mem_of_getElem? (i := 3) rfl)) (by decide) (by decide)) q37a q37c (g := (mkF m 29 #[.val (.int p1), .val (.int p2), .val (.int p3), .val (.int p4), .val (.int p5), .val (.int ((p1 &&& (2147483647 : Int32)) % (6 : Int32))), .val (.ref b28), .unset, .unset, .unset] [(.ref y36), (.ref b28)])) rfl (by rw [hml]; rfl) (Steps.refl _) (argsL := [(.ref y36)]) (rest := []) (lenOf own_pd__Ljava_lang_Object__Z rfl) rfl (by show 2 * 0 + _ ≤ _; exact Nat.le_of_eq rfl) (hb hby at_29) (fun _ _ => ⟨rfl, rfl, (by decide : 2 + 1 ≤ _), (by decide : 4 + 10 ≤ _)⟩)
    dsimp only [Pt.U, Pt.locs, Pt.cells, Pt.slots] at X37 l37 y37 z37 st37 hQ37
    subst l37 y37 z37
    obtain ⟨b37, kb37, rfl, N37q, K37, hb37, LS37, O37⟩ := hQ37
    have N37 := Fr.app N36 N37q
    have ne_b28_b37 : b28 ≠ b37 := Nat.ne_of_lt (Nat.lt_of_lt_of_le E_b28_36.lt hb37)
    have ne_wD_b37 : wD ≠ b37 := Nat.ne_of_lt (Nat.lt_of_lt_of_le LS_36.2.2.2.2.1.lt hb37)
    have ne_y36_b37 : y36 ≠ b37 := Nat.ne_of_lt (Nat.lt_of_lt_of_le EX36.lt hb37)
    have sz_b37 : h0.size ≤ b37 := Nat.le_trans KK36.1 hb37
    have g_b37 : n0 ≤ b37 := Nat.le_trans Z0 sz_b37
    have OL_37 : Old Z n0 T37.heap := Old.keep OL_36 K37 (allS g_b28 all0)
    have E_b28_37 : Exa Z T37.heap b28 "java/util/ArrayList" := Exa.keep E_b28_36 K37
    have E_y36_37 : Exa Z T37.heap y36 "java/lang/Integer" := Exa.keep EX36 K37
    have KK37 : Keep h0 T37.heap [] := KK36.trans K37 (allS (Or.inr sz_b28) all0)
    refine own_adv (B := T37.setTop (mkF m 32 #[.val (.int p1), .val (.int p2), .val (.int p3), .val (.int p4), .val (.int p5), .val (.int ((p1 &&& (2147483647 : Int32)) % (6 : Int32))), .val (.ref b28), .unset, .unset, .unset] [(.int (1 : Int32))])) (fun t k => st37.trans k) ?_
    refine own_adv (B := T37.setTop (mkF m 33 #[.val (.int p1), .val (.int p2), .val (.int p3), .val (.int p4), .val (.int p5), .val (.int ((p1 &&& (2147483647 : Int32)) % (6 : Int32))), .val (.ref b28), .unset, .unset, .unset] [])) (fun t k => XS.pop X37.here hx rfl (hb hby at_32) rfl rfl k) ?_
    refine own_adv (B := T37.setTop (mkF m 35 #[.val (.int p1), .val (.int p2), .val (.int p3), .val (.int p4), .val (.int p5), .val (.int ((p1 &&& (2147483647 : Int32)) % (6 : Int32))), .val (.ref b28), .unset, .unset, .unset] [(.int ((p1 &&& (2147483647 : Int32)) % (6 : Int32)))])) (fun t k => XS.iload X37.here hx rfl (hb hby at_33) rfl k) ?_
    refine own_adv (B := T37.setTop (mkF m 36 #[.val (.int p1), .val (.int p2), .val (.int p3), .val (.int p4), .val (.int p5), .val (.int ((p1 &&& (2147483647 : Int32)) % (6 : Int32))), .val (.ref b28), .unset, .unset, .unset] [(.int (1 : Int32)), (.int ((p1 &&& (2147483647 : Int32)) % (6 : Int32)))])) (fun t k => XS.iconst X37.here hx rfl (hb hby at_35) k) ?_
    refine own_adv (B := T37.setTop (mkF m 39 #[.val (.int p1), .val (.int p2), .val (.int p3), .val (.int p4), .val (.int p5), .val (.int ((p1 &&& (2147483647 : Int32)) % (6 : Int32))), .val (.ref b28), .unset, .unset, .unset] [])) (fun t k => XS.icmpNo X37.here hx rfl (hb hby at_36) rfl (tlt (by rw [c3]; decide)).2.2.2 k) ?_
    refine own_adv (B := T37.setTop (mkF m 41 #[.val (.int p1), .val (.int p2), .val (.int p3), .val (.int p4), .val (.int p5), .val (.int ((p1 &&& (2147483647 : Int32)) % (6 : Int32))), .val (.ref b28), .unset, .unset, .unset] [(.ref b28)])) (fun t k => XS.aload X37.here hx rfl (hb hby at_39) rfl rfl k) ?_
    refine own_adv (B := T37.setTop (mkF m 42 #[.val (.int p1), .val (.int p2), .val (.int p3), .val (.int p4), .val (.int p5), .val (.int ((p1 &&& (2147483647 : Int32)) % (6 : Int32))), .val (.ref b28), .unset, .unset, .unset] [(.int p3), (.ref b28)])) (fun t k => XS.iloadN X37.here hx rfl (hb hby at_41) rfl k) ?_
    obtain ⟨_, _, ⟨T38, L38, k38, n38⟩, -, X38, ⟨Lc38, hQ38, l38, y38, z38⟩, st38⟩ := Jvm.LawKit.callS X37 hx (y := (⟨"java/lang/Integer", "valueOf", "(I)Ljava/lang/Integer;"⟩ : MethodName)) hown (mvT hZ (hw _ (List.mem_of_getElem? (i := 128) rfl))) (mvT hZ (hw _ (List.mem_of_getElem? (i := 129) rfl))) (mvT hZ (hw _ (List.mem_of_getElem? (i := 130) rfl))) (mvT hZ (hw _ (List.mem_of_getElem? (i := 131) rfl))) (by decide) (backOf (W := 1) (rmVO l Z a0 hw [] p3 wC cC T37.heap n0 (Nat.le_trans Z0 KK37.1) OL_37 S_h S_c AC szC elC) hZ (hw _ (List.mem_of_getElem? (i := 131) rfl)) (hw _ (List.mem_of_getElem? (i := 130) rfl)) (by decide) (by decide)) (g := (mkF m 42 #[.val (.int p1), .val (.int p2), .val (.int p3), .val (.int p4), .val (.int p5), .val (.int ((p1 &&& (2147483647 : Int32)) % (6 : Int32))), .val (.ref b28), .unset, .unset, .unset] [(.int p3), (.ref b28)])) rfl (by rw [hml]; rfl) (argsL := [(.int p3)]) (rest := [(.ref b28)]) (lenOf own_pd__I_Ljava_lang_Integer_ rfl) rfl (by show 2 * 0 + _ ≤ _; exact Nat.le_of_eq rfl) (hb hby at_42) (fun _ _ => ⟨rfl, rfl, (by decide : 3 + 1 ≤ _), (by decide : 14 + 1 ≤ _)⟩)
    dsimp only [Pt.U, Pt.locs, Pt.cells, Pt.slots] at X38 l38 y38 z38 st38 hQ38
    subst l38 y38 z38
    obtain ⟨y38, rfl, N38q, K38, EX38⟩ := hQ38
    have N38 := Fr.app N37 N38q
    have OL_38 : Old Z n0 T38.heap := Old.keep OL_37 K38 all0
    have E_b28_38 : Exa Z T38.heap b28 "java/util/ArrayList" := Exa.keep E_b28_37 K38
    have E_y36_38 : Exa Z T38.heap y36 "java/lang/Integer" := Exa.keep E_y36_37 K38
    have LS_38 : own_LS Z T38.heap b28 b37 kb37 (10 : Int32) (1 : Int32) [(.ref y36)] := own_LS_keep LS37 K38 nin0 nin0
    have KK38 : Keep h0 T38.heap [] := KK37.trans K38 all0
    refine own_adv (B := T38.setTop (mkF m 45 #[.val (.int p1), .val (.int p2), .val (.int p3), .val (.int p4), .val (.int p5), .val (.int ((p1 &&& (2147483647 : Int32)) % (6 : Int32))), .val (.ref b28), .unset, .unset, .unset] [(.ref y38), (.ref b28)])) (fun t k => st38 t k) ?_
    obtain ⟨cq39, kq39, q39a, q39b, q39c⟩ := isOf hZ rfl LS_38.1
    obtain ⟨_, _, ⟨T39, L39, k39, n39⟩, -, X39, ⟨Lc39, hQ39, l39, y39, z39⟩, st39⟩ := X38.virtualBack hx (y := (⟨"java/util/ArrayList", "add", "(Ljava/lang/Object;)Z"⟩ : MethodName)) (z := (⟨"java/util/ArrayList", "add", "(Ljava/lang/Object;)Z"⟩ : MethodName)) hown (mvT hZ (hw _ (List.mem_of_getElem? (i := 135) rfl))) (mvT hZ (hw _ (List.mem_of_getElem? (i := 136) rfl))) (notFace_of_selects (args := #[]) (mvT hZ (hw _ (List.mem_of_getElem? (i := 138) rfl)))) (mvT hZ (hw _ (List.mem_of_getElem? (i := 138) rfl))) (mvT hZ (hw _ (List.mem_of_getElem? (i := 137) rfl))) (by decide) (backOf (W := 0) (rmAN l Z a0 hw [] b28 y38 b37 kb37 (1 : Int32) [(.ref y36)] T38.heap n0 (Nat.le_trans Z0 KK38.1) LS_38 O37 (by decide) g_b28 g_b37 ne_b28_b37 EX38) hZ (hw _ (List.mem_of_getElem? (i := 139) rfl)) (hw _ (List.mem_of_getElem? (i := 3) rfl)) (by decide) (by decide)) q39a q39c (g := (mkF m 45 #[.val (.int p1), .val (.int p2), .val (.int p3), .val (.int p4), .val (.int p5), .val (.int ((p1 &&& (2147483647 : Int32)) % (6 : Int32))), .val (.ref b28), .unset, .unset, .unset] [(.ref y38), (.ref b28)])) rfl (by rw [hml]; rfl) (Steps.refl _) (argsL := [(.ref y38)]) (rest := []) (lenOf own_pd__Ljava_lang_Object__Z rfl) rfl (by show 2 * 0 + _ ≤ _; exact Nat.le_of_eq rfl) (hb hby at_45) (fun _ _ => ⟨rfl, rfl, (by decide : 4 + 0 ≤ _), (by decide : 15 + 0 ≤ _)⟩)
    dsimp only [Pt.U, Pt.locs, Pt.cells, Pt.slots] at X39 l39 y39 z39 st39 hQ39
    subst l39 y39 z39
    obtain ⟨rfl, N39q, K39, LS39⟩ := hQ39
    have N39 := Fr.app N38 N39q
    have OL_39 : Old Z n0 T39.heap := Old.keep OL_38 K39 (allS g_b28 (allS g_b37 all0))
    have E_b28_39 : Exa Z T39.heap b28 "java/util/ArrayList" := Exa.keep E_b28_38 K39
    have E_y36_39 : Exa Z T39.heap y36 "java/lang/Integer" := Exa.keep E_y36_38 K39
    have E_y38_39 : Exa Z T39.heap y38 "java/lang/Integer" := Exa.keep EX38 K39
    have KK39 : Keep h0 T39.heap [] := KK38.trans K39 (allS (Or.inr sz_b28) (allS (Or.inr sz_b37) all0))
    refine own_adv (B := T39.setTop (mkF m 48 #[.val (.int p1), .val (.int p2), .val (.int p3), .val (.int p4), .val (.int p5), .val (.int ((p1 &&& (2147483647 : Int32)) % (6 : Int32))), .val (.ref b28), .unset, .unset, .unset] [(.int (1 : Int32))])) (fun t k => st39.trans k) ?_
    refine own_adv (B := T39.setTop (mkF m 49 #[.val (.int p1), .val (.int p2), .val (.int p3), .val (.int p4), .val (.int p5), .val (.int ((p1 &&& (2147483647 : Int32)) % (6 : Int32))), .val (.ref b28), .unset, .unset, .unset] [])) (fun t k => XS.pop X39.here hx rfl (hb hby at_48) rfl rfl k) ?_
    refine own_adv (B := T39.setTop (mkF m 51 #[.val (.int p1), .val (.int p2), .val (.int p3), .val (.int p4), .val (.int p5), .val (.int ((p1 &&& (2147483647 : Int32)) % (6 : Int32))), .val (.ref b28), .unset, .unset, .unset] [(.int ((p1 &&& (2147483647 : Int32)) % (6 : Int32)))])) (fun t k => XS.iload X39.here hx rfl (hb hby at_49) rfl k) ?_
    refine own_adv (B := T39.setTop (mkF m 52 #[.val (.int p1), .val (.int p2), .val (.int p3), .val (.int p4), .val (.int p5), .val (.int ((p1 &&& (2147483647 : Int32)) % (6 : Int32))), .val (.ref b28), .unset, .unset, .unset] [(.int (2 : Int32)), (.int ((p1 &&& (2147483647 : Int32)) % (6 : Int32)))])) (fun t k => XS.iconst X39.here hx rfl (hb hby at_51) k) ?_
    refine own_adv (B := T39.setTop (mkF m 55 #[.val (.int p1), .val (.int p2), .val (.int p3), .val (.int p4), .val (.int p5), .val (.int ((p1 &&& (2147483647 : Int32)) % (6 : Int32))), .val (.ref b28), .unset, .unset, .unset] [])) (fun t k => XS.icmpNo X39.here hx rfl (hb hby at_52) rfl (tlt (by rw [c3]; decide)).2.2.2 k) ?_
    refine own_adv (B := T39.setTop (mkF m 57 #[.val (.int p1), .val (.int p2), .val (.int p3), .val (.int p4), .val (.int p5), .val (.int ((p1 &&& (2147483647 : Int32)) % (6 : Int32))), .val (.ref b28), .unset, .unset, .unset] [(.ref b28)])) (fun t k => XS.aload X39.here hx rfl (hb hby at_55) rfl rfl k) ?_
    refine own_adv (B := T39.setTop (mkF m 58 #[.val (.int p1), .val (.int p2), .val (.int p3), .val (.int p4), .val (.int p5), .val (.int ((p1 &&& (2147483647 : Int32)) % (6 : Int32))), .val (.ref b28), .unset, .unset, .unset] [(.int p2), (.ref b28)])) (fun t k => XS.iloadN X39.here hx rfl (hb hby at_57) rfl k) ?_
    refine own_adv (B := T39.setTop (mkF m 59 #[.val (.int p1), .val (.int p2), .val (.int p3), .val (.int p4), .val (.int p5), .val (.int ((p1 &&& (2147483647 : Int32)) % (6 : Int32))), .val (.ref b28), .unset, .unset, .unset] [(.int p3), (.int p2), (.ref b28)])) (fun t k => XS.iloadN X39.here hx rfl (hb hby at_58) rfl k) ?_
    refine own_adv (B := T39.setTop (mkF m 60 #[.val (.int p1), .val (.int p2), .val (.int p3), .val (.int p4), .val (.int p5), .val (.int ((p1 &&& (2147483647 : Int32)) % (6 : Int32))), .val (.ref b28), .unset, .unset, .unset] [(.int (p2 ^^^ p3)), (.ref b28)])) (fun t k => XS.ixor X39.here hx rfl (hb hby at_59) rfl k) ?_
    obtain ⟨_, _, ⟨T40, L40, k40, n40⟩, -, X40, ⟨Lc40, hQ40, l40, y40, z40⟩, st40⟩ := Jvm.LawKit.callS X39 hx (y := (⟨"java/lang/Integer", "valueOf", "(I)Ljava/lang/Integer;"⟩ : MethodName)) hown (mvT hZ (hw _ (List.mem_of_getElem? (i := 128) rfl))) (mvT hZ (hw _ (List.mem_of_getElem? (i := 129) rfl))) (mvT hZ (hw _ (List.mem_of_getElem? (i := 130) rfl))) (mvT hZ (hw _ (List.mem_of_getElem? (i := 131) rfl))) (by decide) (backOf (W := 1) (rmVO l Z a0 hw [] (p2 ^^^ p3) wC cC T39.heap n0 (Nat.le_trans Z0 KK39.1) OL_39 S_h S_c AC szC elC) hZ (hw _ (List.mem_of_getElem? (i := 131) rfl)) (hw _ (List.mem_of_getElem? (i := 130) rfl)) (by decide) (by decide)) (g := (mkF m 60 #[.val (.int p1), .val (.int p2), .val (.int p3), .val (.int p4), .val (.int p5), .val (.int ((p1 &&& (2147483647 : Int32)) % (6 : Int32))), .val (.ref b28), .unset, .unset, .unset] [(.int (p2 ^^^ p3)), (.ref b28)])) rfl (by rw [hml]; rfl) (argsL := [(.int (p2 ^^^ p3))]) (rest := [(.ref b28)]) (lenOf own_pd__I_Ljava_lang_Integer_ rfl) rfl (by show 2 * 0 + _ ≤ _; exact Nat.le_of_eq rfl) (hb hby at_60) (fun _ _ => ⟨rfl, rfl, (by decide : 4 + 1 ≤ _), (by decide : 15 + 1 ≤ _)⟩)
    dsimp only [Pt.U, Pt.locs, Pt.cells, Pt.slots] at X40 l40 y40 z40 st40 hQ40
    subst l40 y40 z40
    obtain ⟨y40, rfl, N40q, K40, EX40⟩ := hQ40
    have N40 := Fr.app N39 N40q
    have OL_40 : Old Z n0 T40.heap := Old.keep OL_39 K40 all0
    have E_b28_40 : Exa Z T40.heap b28 "java/util/ArrayList" := Exa.keep E_b28_39 K40
    have E_y36_40 : Exa Z T40.heap y36 "java/lang/Integer" := Exa.keep E_y36_39 K40
    have E_y38_40 : Exa Z T40.heap y38 "java/lang/Integer" := Exa.keep E_y38_39 K40
    have LS_40 : own_LS Z T40.heap b28 b37 kb37 (10 : Int32) ((1 : Int32) + 1) ([(.ref y36)] ++ [(.ref y38)]) := own_LS_keep LS39 K40 nin0 nin0
    have KK40 : Keep h0 T40.heap [] := KK39.trans K40 all0
    refine own_adv (B := T40.setTop (mkF m 63 #[.val (.int p1), .val (.int p2), .val (.int p3), .val (.int p4), .val (.int p5), .val (.int ((p1 &&& (2147483647 : Int32)) % (6 : Int32))), .val (.ref b28), .unset, .unset, .unset] [(.ref y40), (.ref b28)])) (fun t k => st40 t k) ?_
    obtain ⟨cq41, kq41, q41a, q41b, q41c⟩ := isOf hZ rfl LS_40.1
    obtain ⟨_, _, ⟨T41, L41, k41, n41⟩, -, X41, ⟨Lc41, hQ41, l41, y41, z41⟩, st41⟩ := X40.virtualBack hx (y := (⟨"java/util/ArrayList", "add", "(Ljava/lang/Object;)Z"⟩ : MethodName)) (z := (⟨"java/util/ArrayList", "add", "(Ljava/lang/Object;)Z"⟩ : MethodName)) hown (mvT hZ (hw _ (List.mem_of_getElem? (i := 135) rfl))) (mvT hZ (hw _ (List.mem_of_getElem? (i := 136) rfl))) (notFace_of_selects (args := #[]) (mvT hZ (hw _ (List.mem_of_getElem? (i := 138) rfl)))) (mvT hZ (hw _ (List.mem_of_getElem? (i := 138) rfl))) (mvT hZ (hw _ (List.mem_of_getElem? (i := 137) rfl))) (by decide) (backOf (W := 0) (rmAN l Z a0 hw [] b28 y40 b37 kb37 ((1 : Int32) + 1) ([(.ref y36)] ++ [(.ref y38)]) T40.heap n0 (Nat.le_trans Z0 KK40.1) LS_40 O37 (by decide) g_b28 g_b37 ne_b28_b37 EX40) hZ (hw _ (List.mem_of_getElem? (i := 139) rfl)) (hw _ (List.mem_of_getElem? (i := 3) rfl)) (by decide) (by decide)) q41a q41c (g := (mkF m 63 #[.val (.int p1), .val (.int p2), .val (.int p3), .val (.int p4), .val (.int p5), .val (.int ((p1 &&& (2147483647 : Int32)) % (6 : Int32))), .val (.ref b28), .unset, .unset, .unset] [(.ref y40), (.ref b28)])) rfl (by rw [hml]; rfl) (Steps.refl _) (argsL := [(.ref y40)]) (rest := []) (lenOf own_pd__Ljava_lang_Object__Z rfl) rfl (by show 2 * 0 + _ ≤ _; exact Nat.le_of_eq rfl) (hb hby at_63) (fun _ _ => ⟨rfl, rfl, (by decide : 5 + 0 ≤ _), (by decide : 16 + 0 ≤ _)⟩)
    dsimp only [Pt.U, Pt.locs, Pt.cells, Pt.slots] at X41 l41 y41 z41 st41 hQ41
    subst l41 y41 z41
    obtain ⟨rfl, N41q, K41, LS41⟩ := hQ41
    have N41 := Fr.app N40 N41q
    have OL_41 : Old Z n0 T41.heap := Old.keep OL_40 K41 (allS g_b28 (allS g_b37 all0))
    have E_b28_41 : Exa Z T41.heap b28 "java/util/ArrayList" := Exa.keep E_b28_40 K41
    have E_y36_41 : Exa Z T41.heap y36 "java/lang/Integer" := Exa.keep E_y36_40 K41
    have E_y38_41 : Exa Z T41.heap y38 "java/lang/Integer" := Exa.keep E_y38_40 K41
    have E_y40_41 : Exa Z T41.heap y40 "java/lang/Integer" := Exa.keep EX40 K41
    have KK41 : Keep h0 T41.heap [] := KK40.trans K41 (allS (Or.inr sz_b28) (allS (Or.inr sz_b37) all0))
    refine own_adv (B := T41.setTop (mkF m 66 #[.val (.int p1), .val (.int p2), .val (.int p3), .val (.int p4), .val (.int p5), .val (.int ((p1 &&& (2147483647 : Int32)) % (6 : Int32))), .val (.ref b28), .unset, .unset, .unset] [(.int (1 : Int32))])) (fun t k => st41.trans k) ?_
    refine own_adv (B := T41.setTop (mkF m 67 #[.val (.int p1), .val (.int p2), .val (.int p3), .val (.int p4), .val (.int p5), .val (.int ((p1 &&& (2147483647 : Int32)) % (6 : Int32))), .val (.ref b28), .unset, .unset, .unset] [])) (fun t k => XS.pop X41.here hx rfl (hb hby at_66) rfl rfl k) ?_
    refine own_adv (B := T41.setTop (mkF m 69 #[.val (.int p1), .val (.int p2), .val (.int p3), .val (.int p4), .val (.int p5), .val (.int ((p1 &&& (2147483647 : Int32)) % (6 : Int32))), .val (.ref b28), .unset, .unset, .unset] [(.int ((p1 &&& (2147483647 : Int32)) % (6 : Int32)))])) (fun t k => XS.iload X41.here hx rfl (hb hby at_67) rfl k) ?_
    refine own_adv (B := T41.setTop (mkF m 70 #[.val (.int p1), .val (.int p2), .val (.int p3), .val (.int p4), .val (.int p5), .val (.int ((p1 &&& (2147483647 : Int32)) % (6 : Int32))), .val (.ref b28), .unset, .unset, .unset] [(.int (3 : Int32)), (.int ((p1 &&& (2147483647 : Int32)) % (6 : Int32)))])) (fun t k => XS.iconst X41.here hx rfl (hb hby at_69) k) ?_
    refine own_adv (B := T41.setTop (mkF m 83 #[.val (.int p1), .val (.int p2), .val (.int p3), .val (.int p4), .val (.int p5), .val (.int ((p1 &&& (2147483647 : Int32)) % (6 : Int32))), .val (.ref b28), .unset, .unset, .unset] [])) (fun t k => XS.icmpYes X41.here hx rfl (pc0 := 70) (pc' := 83) rfl (hb hby at_70) rfl (flt (by rw [c3]; decide)).2.2.2 (by decide) (by decide) k) ?_
    refine own_adv (B := T41.setTop (mkF m 85 #[.val (.int p1), .val (.int p2), .val (.int p3), .val (.int p4), .val (.int p5), .val (.int ((p1 &&& (2147483647 : Int32)) % (6 : Int32))), .val (.ref b28), .unset, .unset, .unset] [(.int ((p1 &&& (2147483647 : Int32)) % (6 : Int32)))])) (fun t k => XS.iload X41.here hx rfl (hb hby at_83) rfl k) ?_
    refine own_adv (B := T41.setTop (mkF m 86 #[.val (.int p1), .val (.int p2), .val (.int p3), .val (.int p4), .val (.int p5), .val (.int ((p1 &&& (2147483647 : Int32)) % (6 : Int32))), .val (.ref b28), .unset, .unset, .unset] [(.int (4 : Int32)), (.int ((p1 &&& (2147483647 : Int32)) % (6 : Int32)))])) (fun t k => XS.iconst X41.here hx rfl (hb hby at_85) k) ?_
    refine own_adv (B := T41.setTop (mkF m 96 #[.val (.int p1), .val (.int p2), .val (.int p3), .val (.int p4), .val (.int p5), .val (.int ((p1 &&& (2147483647 : Int32)) % (6 : Int32))), .val (.ref b28), .unset, .unset, .unset] [])) (fun t k => XS.icmpYes X41.here hx rfl (pc0 := 86) (pc' := 96) rfl (hb hby at_86) rfl (flt (by rw [c3]; decide)).2.2.2 (by decide) (by decide) k) ?_
    have hn : ((p1 &&& (2147483647 : Int32)) % (6 : Int32)) = (((1 : Int32) + 1) + 1) := c3.trans (by decide)
    have LSn : own_LS Z T41.heap b28 b37 kb37 (10 : Int32) ((p1 &&& (2147483647 : Int32)) % (6 : Int32)) (([(.ref y36)] ++ [(.ref y38)]) ++ [(.ref y40)]) := by rw [hn]; exact LS41
    exact tail _ _ _ _ _ _ _ _ (X41.more (by decide) (by decide)) N41 OL_41 KK41 LSn sz_b28 (Or.inr ⟨sz_b37, rfl, by rw [c3]; decide, ne_b28_b37, O37⟩) (by rw [c3]; decide)
  · skip
    refine own_adv (B := T29.setTop (mkF m 23 #[.val (.int p1), .val (.int p2), .val (.int p3), .val (.int p4), .val (.int p5), .val (.int ((p1 &&& (2147483647 : Int32)) % (6 : Int32))), .val (.ref b28), .unset, .unset, .unset] [])) (fun t k => XS.ifNo X29.here hx rfl (hb hby at_20) rfl ((if0 _ _).trans (tlt (by rw [c4]; decide)).2.2.2) k) ?_
    refine own_adv (B := T29.setTop (mkF m 25 #[.val (.int p1), .val (.int p2), .val (.int p3), .val (.int p4), .val (.int p5), .val (.int ((p1 &&& (2147483647 : Int32)) % (6 : Int32))), .val (.ref b28), .unset, .unset, .unset] [(.ref b28)])) (fun t k => XS.aload X29.here hx rfl (hb hby at_23) rfl rfl k) ?_
    refine own_adv (B := T29.setTop (mkF m 26 #[.val (.int p1), .val (.int p2), .val (.int p3), .val (.int p4), .val (.int p5), .val (.int ((p1 &&& (2147483647 : Int32)) % (6 : Int32))), .val (.ref b28), .unset, .unset, .unset] [(.int p2), (.ref b28)])) (fun t k => XS.iloadN X29.here hx rfl (hb hby at_25) rfl k) ?_
    obtain ⟨_, _, ⟨T42, L42, k42, n42⟩, -, X42, ⟨Lc42, hQ42, l42, y42, z42⟩, st42⟩ := Jvm.LawKit.callS X29 hx (y := (⟨"java/lang/Integer", "valueOf", "(I)Ljava/lang/Integer;"⟩ : MethodName)) hown (mvT hZ (hw _ (List.mem_of_getElem? (i := 128) rfl))) (mvT hZ (hw _ (List.mem_of_getElem? (i := 129) rfl))) (mvT hZ (hw _ (List.mem_of_getElem? (i := 130) rfl))) (mvT hZ (hw _ (List.mem_of_getElem? (i := 131) rfl))) (by decide) (backOf (W := 1) (rmVO l Z a0 hw [] p2 wC cC T29.heap n0 (Nat.le_trans Z0 KK29.1) OL_29 S_h S_c AC szC elC) hZ (hw _ (List.mem_of_getElem? (i := 131) rfl)) (hw _ (List.mem_of_getElem? (i := 130) rfl)) (by decide) (by decide)) (g := (mkF m 26 #[.val (.int p1), .val (.int p2), .val (.int p3), .val (.int p4), .val (.int p5), .val (.int ((p1 &&& (2147483647 : Int32)) % (6 : Int32))), .val (.ref b28), .unset, .unset, .unset] [(.int p2), (.ref b28)])) rfl (by rw [hml]; rfl) (argsL := [(.int p2)]) (rest := [(.ref b28)]) (lenOf own_pd__I_Ljava_lang_Integer_ rfl) rfl (by show 2 * 0 + _ ≤ _; exact Nat.le_of_eq rfl) (hb hby at_26) (fun _ _ => ⟨rfl, rfl, (by decide : 1 + 1 ≤ _), (by decide : 3 + 1 ≤ _)⟩)
    dsimp only [Pt.U, Pt.locs, Pt.cells, Pt.slots] at X42 l42 y42 z42 st42 hQ42
    subst l42 y42 z42
    obtain ⟨y42, rfl, N42q, K42, EX42⟩ := hQ42
    have N42 := Fr.app N29 N42q
    have OL_42 : Old Z n0 T42.heap := Old.keep OL_29 K42 all0
    have E_b28_42 : Exa Z T42.heap b28 "java/util/ArrayList" := Exa.keep E_b28_29 K42
    have LS_42 : own_LS Z T42.heap b28 wD kD (0 : Int32) (0 : Int32) [] := own_LS_keep LS29 K42 nin0 nin0
    have KK42 : Keep h0 T42.heap [] := KK29.trans K42 all0
    refine own_adv (B := T42.setTop (mkF m 29 #[.val (.int p1), .val (.int p2), .val (.int p3), .val (.int p4), .val (.int p5), .val (.int ((p1 &&& (2147483647 : Int32)) % (6 : Int32))), .val (.ref b28), .unset, .unset, .unset] [(.ref y42), (.ref b28)])) (fun t k => st42 t k) ?_
    obtain ⟨cq43, kq43, q43a, q43b, q43c⟩ := isOf hZ rfl LS_42.1
    obtain ⟨_, _, ⟨T43, L43, k43, n43⟩, -, X43, ⟨Lc43, hQ43, l43, y43, z43⟩, st43⟩ := X42.virtualBack hx (y := (⟨"java/util/ArrayList", "add", "(Ljava/lang/Object;)Z"⟩ : MethodName)) (z := (⟨"java/util/ArrayList", "add", "(Ljava/lang/Object;)Z"⟩ : MethodName)) hown (mvT hZ (hw _ (List.mem_of_getElem? (i := 135) rfl))) (mvT hZ (hw _ (List.mem_of_getElem? (i := 136) rfl))) (notFace_of_selects (args := #[]) (mvT hZ (hw _ (List.mem_of_getElem? (i := 138) rfl)))) (mvT hZ (hw _ (List.mem_of_getElem? (i := 138) rfl))) (mvT hZ (hw _ (List.mem_of_getElem? (i := 137) rfl))) (by decide) (backOf (W := 0) (rmAF l Z a0 hw [] b28 y42 wD kD T42.heap n0 (Nat.le_trans Z0 KK42.1) OL_42 S_D VD LS_42 g_b28 EX42) hZ (hw _ (List.mem_of_getElem? (i := 139) rfl)) (hw _ (List.mem_of_getElem? (i := 3) rfl)) (by decide) (by decide)) q43a q43c (g := (mkF m 29 #[.val (.int p1), .val (.int p2), .val (.int p3), .val (.int p4), .val (.int p5), .val (.int ((p1 &&& (2147483647 : Int32)) % (6 : Int32))), .val (.ref b28), .unset, .unset, .unset] [(.ref y42), (.ref b28)])) rfl (by rw [hml]; rfl) (Steps.refl _) (argsL := [(.ref y42)]) (rest := []) (lenOf own_pd__Ljava_lang_Object__Z rfl) rfl (by show 2 * 0 + _ ≤ _; exact Nat.le_of_eq rfl) (hb hby at_29) (fun _ _ => ⟨rfl, rfl, (by decide : 2 + 1 ≤ _), (by decide : 4 + 10 ≤ _)⟩)
    dsimp only [Pt.U, Pt.locs, Pt.cells, Pt.slots] at X43 l43 y43 z43 st43 hQ43
    subst l43 y43 z43
    obtain ⟨b43, kb43, rfl, N43q, K43, hb43, LS43, O43⟩ := hQ43
    have N43 := Fr.app N42 N43q
    have ne_b28_b43 : b28 ≠ b43 := Nat.ne_of_lt (Nat.lt_of_lt_of_le E_b28_42.lt hb43)
    have ne_wD_b43 : wD ≠ b43 := Nat.ne_of_lt (Nat.lt_of_lt_of_le LS_42.2.2.2.2.1.lt hb43)
    have ne_y42_b43 : y42 ≠ b43 := Nat.ne_of_lt (Nat.lt_of_lt_of_le EX42.lt hb43)
    have sz_b43 : h0.size ≤ b43 := Nat.le_trans KK42.1 hb43
    have g_b43 : n0 ≤ b43 := Nat.le_trans Z0 sz_b43
    have OL_43 : Old Z n0 T43.heap := Old.keep OL_42 K43 (allS g_b28 all0)
    have E_b28_43 : Exa Z T43.heap b28 "java/util/ArrayList" := Exa.keep E_b28_42 K43
    have E_y42_43 : Exa Z T43.heap y42 "java/lang/Integer" := Exa.keep EX42 K43
    have KK43 : Keep h0 T43.heap [] := KK42.trans K43 (allS (Or.inr sz_b28) all0)
    refine own_adv (B := T43.setTop (mkF m 32 #[.val (.int p1), .val (.int p2), .val (.int p3), .val (.int p4), .val (.int p5), .val (.int ((p1 &&& (2147483647 : Int32)) % (6 : Int32))), .val (.ref b28), .unset, .unset, .unset] [(.int (1 : Int32))])) (fun t k => st43.trans k) ?_
    refine own_adv (B := T43.setTop (mkF m 33 #[.val (.int p1), .val (.int p2), .val (.int p3), .val (.int p4), .val (.int p5), .val (.int ((p1 &&& (2147483647 : Int32)) % (6 : Int32))), .val (.ref b28), .unset, .unset, .unset] [])) (fun t k => XS.pop X43.here hx rfl (hb hby at_32) rfl rfl k) ?_
    refine own_adv (B := T43.setTop (mkF m 35 #[.val (.int p1), .val (.int p2), .val (.int p3), .val (.int p4), .val (.int p5), .val (.int ((p1 &&& (2147483647 : Int32)) % (6 : Int32))), .val (.ref b28), .unset, .unset, .unset] [(.int ((p1 &&& (2147483647 : Int32)) % (6 : Int32)))])) (fun t k => XS.iload X43.here hx rfl (hb hby at_33) rfl k) ?_
    refine own_adv (B := T43.setTop (mkF m 36 #[.val (.int p1), .val (.int p2), .val (.int p3), .val (.int p4), .val (.int p5), .val (.int ((p1 &&& (2147483647 : Int32)) % (6 : Int32))), .val (.ref b28), .unset, .unset, .unset] [(.int (1 : Int32)), (.int ((p1 &&& (2147483647 : Int32)) % (6 : Int32)))])) (fun t k => XS.iconst X43.here hx rfl (hb hby at_35) k) ?_
    refine own_adv (B := T43.setTop (mkF m 39 #[.val (.int p1), .val (.int p2), .val (.int p3), .val (.int p4), .val (.int p5), .val (.int ((p1 &&& (2147483647 : Int32)) % (6 : Int32))), .val (.ref b28), .unset, .unset, .unset] [])) (fun t k => XS.icmpNo X43.here hx rfl (hb hby at_36) rfl (tlt (by rw [c4]; decide)).2.2.2 k) ?_
    refine own_adv (B := T43.setTop (mkF m 41 #[.val (.int p1), .val (.int p2), .val (.int p3), .val (.int p4), .val (.int p5), .val (.int ((p1 &&& (2147483647 : Int32)) % (6 : Int32))), .val (.ref b28), .unset, .unset, .unset] [(.ref b28)])) (fun t k => XS.aload X43.here hx rfl (hb hby at_39) rfl rfl k) ?_
    refine own_adv (B := T43.setTop (mkF m 42 #[.val (.int p1), .val (.int p2), .val (.int p3), .val (.int p4), .val (.int p5), .val (.int ((p1 &&& (2147483647 : Int32)) % (6 : Int32))), .val (.ref b28), .unset, .unset, .unset] [(.int p3), (.ref b28)])) (fun t k => XS.iloadN X43.here hx rfl (hb hby at_41) rfl k) ?_
    obtain ⟨_, _, ⟨T44, L44, k44, n44⟩, -, X44, ⟨Lc44, hQ44, l44, y44, z44⟩, st44⟩ := Jvm.LawKit.callS X43 hx (y := (⟨"java/lang/Integer", "valueOf", "(I)Ljava/lang/Integer;"⟩ : MethodName)) hown (mvT hZ (hw _ (List.mem_of_getElem? (i := 128) rfl))) (mvT hZ (hw _ (List.mem_of_getElem? (i := 129) rfl))) (mvT hZ (hw _ (List.mem_of_getElem? (i := 130) rfl))) (mvT hZ (hw _ (List.mem_of_getElem? (i := 131) rfl))) (by decide) (backOf (W := 1) (rmVO l Z a0 hw [] p3 wC cC T43.heap n0 (Nat.le_trans Z0 KK43.1) OL_43 S_h S_c AC szC elC) hZ (hw _ (List.mem_of_getElem? (i := 131) rfl)) (hw _ (List.mem_of_getElem? (i := 130) rfl)) (by decide) (by decide)) (g := (mkF m 42 #[.val (.int p1), .val (.int p2), .val (.int p3), .val (.int p4), .val (.int p5), .val (.int ((p1 &&& (2147483647 : Int32)) % (6 : Int32))), .val (.ref b28), .unset, .unset, .unset] [(.int p3), (.ref b28)])) rfl (by rw [hml]; rfl) (argsL := [(.int p3)]) (rest := [(.ref b28)]) (lenOf own_pd__I_Ljava_lang_Integer_ rfl) rfl (by show 2 * 0 + _ ≤ _; exact Nat.le_of_eq rfl) (hb hby at_42) (fun _ _ => ⟨rfl, rfl, (by decide : 3 + 1 ≤ _), (by decide : 14 + 1 ≤ _)⟩)
    dsimp only [Pt.U, Pt.locs, Pt.cells, Pt.slots] at X44 l44 y44 z44 st44 hQ44
    subst l44 y44 z44
    obtain ⟨y44, rfl, N44q, K44, EX44⟩ := hQ44
    have N44 := Fr.app N43 N44q
    have OL_44 : Old Z n0 T44.heap := Old.keep OL_43 K44 all0
    have E_b28_44 : Exa Z T44.heap b28 "java/util/ArrayList" := Exa.keep E_b28_43 K44
    have E_y42_44 : Exa Z T44.heap y42 "java/lang/Integer" := Exa.keep E_y42_43 K44
    have LS_44 : own_LS Z T44.heap b28 b43 kb43 (10 : Int32) (1 : Int32) [(.ref y42)] := own_LS_keep LS43 K44 nin0 nin0
    have KK44 : Keep h0 T44.heap [] := KK43.trans K44 all0
    refine own_adv (B := T44.setTop (mkF m 45 #[.val (.int p1), .val (.int p2), .val (.int p3), .val (.int p4), .val (.int p5), .val (.int ((p1 &&& (2147483647 : Int32)) % (6 : Int32))), .val (.ref b28), .unset, .unset, .unset] [(.ref y44), (.ref b28)])) (fun t k => st44 t k) ?_
    obtain ⟨cq45, kq45, q45a, q45b, q45c⟩ := isOf hZ rfl LS_44.1
    obtain ⟨_, _, ⟨T45, L45, k45, n45⟩, -, X45, ⟨Lc45, hQ45, l45, y45, z45⟩, st45⟩ := X44.virtualBack hx (y := (⟨"java/util/ArrayList", "add", "(Ljava/lang/Object;)Z"⟩ : MethodName)) (z := (⟨"java/util/ArrayList", "add", "(Ljava/lang/Object;)Z"⟩ : MethodName)) hown (mvT hZ (hw _ (List.mem_of_getElem? (i := 135) rfl))) (mvT hZ (hw _ (List.mem_of_getElem? (i := 136) rfl))) (notFace_of_selects (args := #[]) (mvT hZ (hw _ (List.mem_of_getElem? (i := 138) rfl)))) (mvT hZ (hw _ (List.mem_of_getElem? (i := 138) rfl))) (mvT hZ (hw _ (List.mem_of_getElem? (i := 137) rfl))) (by decide) (backOf (W := 0) (rmAN l Z a0 hw [] b28 y44 b43 kb43 (1 : Int32) [(.ref y42)] T44.heap n0 (Nat.le_trans Z0 KK44.1) LS_44 O43 (by decide) g_b28 g_b43 ne_b28_b43 EX44) hZ (hw _ (List.mem_of_getElem? (i := 139) rfl)) (hw _ (List.mem_of_getElem? (i := 3) rfl)) (by decide) (by decide)) q45a q45c (g := (mkF m 45 #[.val (.int p1), .val (.int p2), .val (.int p3), .val (.int p4), .val (.int p5), .val (.int ((p1 &&& (2147483647 : Int32)) % (6 : Int32))), .val (.ref b28), .unset, .unset, .unset] [(.ref y44), (.ref b28)])) rfl (by rw [hml]; rfl) (Steps.refl _) (argsL := [(.ref y44)]) (rest := []) (lenOf own_pd__Ljava_lang_Object__Z rfl) rfl (by show 2 * 0 + _ ≤ _; exact Nat.le_of_eq rfl) (hb hby at_45) (fun _ _ => ⟨rfl, rfl, (by decide : 4 + 0 ≤ _), (by decide : 15 + 0 ≤ _)⟩)
    dsimp only [Pt.U, Pt.locs, Pt.cells, Pt.slots] at X45 l45 y45 z45 st45 hQ45
    subst l45 y45 z45
    obtain ⟨rfl, N45q, K45, LS45⟩ := hQ45
    have N45 := Fr.app N44 N45q
    have OL_45 : Old Z n0 T45.heap := Old.keep OL_44 K45 (allS g_b28 (allS g_b43 all0))
    have E_b28_45 : Exa Z T45.heap b28 "java/util/ArrayList" := Exa.keep E_b28_44 K45
    have E_y42_45 : Exa Z T45.heap y42 "java/lang/Integer" := Exa.keep E_y42_44 K45
    have E_y44_45 : Exa Z T45.heap y44 "java/lang/Integer" := Exa.keep EX44 K45
    have KK45 : Keep h0 T45.heap [] := KK44.trans K45 (allS (Or.inr sz_b28) (allS (Or.inr sz_b43) all0))
    refine own_adv (B := T45.setTop (mkF m 48 #[.val (.int p1), .val (.int p2), .val (.int p3), .val (.int p4), .val (.int p5), .val (.int ((p1 &&& (2147483647 : Int32)) % (6 : Int32))), .val (.ref b28), .unset, .unset, .unset] [(.int (1 : Int32))])) (fun t k => st45.trans k) ?_
    refine own_adv (B := T45.setTop (mkF m 49 #[.val (.int p1), .val (.int p2), .val (.int p3), .val (.int p4), .val (.int p5), .val (.int ((p1 &&& (2147483647 : Int32)) % (6 : Int32))), .val (.ref b28), .unset, .unset, .unset] [])) (fun t k => XS.pop X45.here hx rfl (hb hby at_48) rfl rfl k) ?_
    refine own_adv (B := T45.setTop (mkF m 51 #[.val (.int p1), .val (.int p2), .val (.int p3), .val (.int p4), .val (.int p5), .val (.int ((p1 &&& (2147483647 : Int32)) % (6 : Int32))), .val (.ref b28), .unset, .unset, .unset] [(.int ((p1 &&& (2147483647 : Int32)) % (6 : Int32)))])) (fun t k => XS.iload X45.here hx rfl (hb hby at_49) rfl k) ?_
    refine own_adv (B := T45.setTop (mkF m 52 #[.val (.int p1), .val (.int p2), .val (.int p3), .val (.int p4), .val (.int p5), .val (.int ((p1 &&& (2147483647 : Int32)) % (6 : Int32))), .val (.ref b28), .unset, .unset, .unset] [(.int (2 : Int32)), (.int ((p1 &&& (2147483647 : Int32)) % (6 : Int32)))])) (fun t k => XS.iconst X45.here hx rfl (hb hby at_51) k) ?_
    refine own_adv (B := T45.setTop (mkF m 55 #[.val (.int p1), .val (.int p2), .val (.int p3), .val (.int p4), .val (.int p5), .val (.int ((p1 &&& (2147483647 : Int32)) % (6 : Int32))), .val (.ref b28), .unset, .unset, .unset] [])) (fun t k => XS.icmpNo X45.here hx rfl (hb hby at_52) rfl (tlt (by rw [c4]; decide)).2.2.2 k) ?_
    refine own_adv (B := T45.setTop (mkF m 57 #[.val (.int p1), .val (.int p2), .val (.int p3), .val (.int p4), .val (.int p5), .val (.int ((p1 &&& (2147483647 : Int32)) % (6 : Int32))), .val (.ref b28), .unset, .unset, .unset] [(.ref b28)])) (fun t k => XS.aload X45.here hx rfl (hb hby at_55) rfl rfl k) ?_
    refine own_adv (B := T45.setTop (mkF m 58 #[.val (.int p1), .val (.int p2), .val (.int p3), .val (.int p4), .val (.int p5), .val (.int ((p1 &&& (2147483647 : Int32)) % (6 : Int32))), .val (.ref b28), .unset, .unset, .unset] [(.int p2), (.ref b28)])) (fun t k => XS.iloadN X45.here hx rfl (hb hby at_57) rfl k) ?_
    refine own_adv (B := T45.setTop (mkF m 59 #[.val (.int p1), .val (.int p2), .val (.int p3), .val (.int p4), .val (.int p5), .val (.int ((p1 &&& (2147483647 : Int32)) % (6 : Int32))), .val (.ref b28), .unset, .unset, .unset] [(.int p3), (.int p2), (.ref b28)])) (fun t k => XS.iloadN X45.here hx rfl (hb hby at_58) rfl k) ?_
    refine own_adv (B := T45.setTop (mkF m 60 #[.val (.int p1), .val (.int p2), .val (.int p3), .val (.int p4), .val (.int p5), .val (.int ((p1 &&& (2147483647 : Int32)) % (6 : Int32))), .val (.ref b28), .unset, .unset, .unset] [(.int (p2 ^^^ p3)), (.ref b28)])) (fun t k => XS.ixor X45.here hx rfl (hb hby at_59) rfl k) ?_
    obtain ⟨_, _, ⟨T46, L46, k46, n46⟩, -, X46, ⟨Lc46, hQ46, l46, y46, z46⟩, st46⟩ := Jvm.LawKit.callS X45 hx (y := (⟨"java/lang/Integer", "valueOf", "(I)Ljava/lang/Integer;"⟩ : MethodName)) hown (mvT hZ (hw _ (List.mem_of_getElem? (i := 128) rfl))) (mvT hZ (hw _ (List.mem_of_getElem? (i := 129) rfl))) (mvT hZ (hw _ (List.mem_of_getElem? (i := 130) rfl))) (mvT hZ (hw _ (List.mem_of_getElem? (i := 131) rfl))) (by decide) (backOf (W := 1) (rmVO l Z a0 hw [] (p2 ^^^ p3) wC cC T45.heap n0 (Nat.le_trans Z0 KK45.1) OL_45 S_h S_c AC szC elC) hZ (hw _ (List.mem_of_getElem? (i := 131) rfl)) (hw _ (List.mem_of_getElem? (i := 130) rfl)) (by decide) (by decide)) (g := (mkF m 60 #[.val (.int p1), .val (.int p2), .val (.int p3), .val (.int p4), .val (.int p5), .val (.int ((p1 &&& (2147483647 : Int32)) % (6 : Int32))), .val (.ref b28), .unset, .unset, .unset] [(.int (p2 ^^^ p3)), (.ref b28)])) rfl (by rw [hml]; rfl) (argsL := [(.int (p2 ^^^ p3))]) (rest := [(.ref b28)]) (lenOf own_pd__I_Ljava_lang_Integer_ rfl) rfl (by show 2 * 0 + _ ≤ _; exact Nat.le_of_eq rfl) (hb hby at_60) (fun _ _ => ⟨rfl, rfl, (by decide : 4 + 1 ≤ _), (by decide : 15 + 1 ≤ _)⟩)
    dsimp only [Pt.U, Pt.locs, Pt.cells, Pt.slots] at X46 l46 y46 z46 st46 hQ46
    subst l46 y46 z46
    obtain ⟨y46, rfl, N46q, K46, EX46⟩ := hQ46
    have N46 := Fr.app N45 N46q
    have OL_46 : Old Z n0 T46.heap := Old.keep OL_45 K46 all0
    have E_b28_46 : Exa Z T46.heap b28 "java/util/ArrayList" := Exa.keep E_b28_45 K46
    have E_y42_46 : Exa Z T46.heap y42 "java/lang/Integer" := Exa.keep E_y42_45 K46
    have E_y44_46 : Exa Z T46.heap y44 "java/lang/Integer" := Exa.keep E_y44_45 K46
    have LS_46 : own_LS Z T46.heap b28 b43 kb43 (10 : Int32) ((1 : Int32) + 1) ([(.ref y42)] ++ [(.ref y44)]) := own_LS_keep LS45 K46 nin0 nin0
    have KK46 : Keep h0 T46.heap [] := KK45.trans K46 all0
    refine own_adv (B := T46.setTop (mkF m 63 #[.val (.int p1), .val (.int p2), .val (.int p3), .val (.int p4), .val (.int p5), .val (.int ((p1 &&& (2147483647 : Int32)) % (6 : Int32))), .val (.ref b28), .unset, .unset, .unset] [(.ref y46), (.ref b28)])) (fun t k => st46 t k) ?_
    obtain ⟨cq47, kq47, q47a, q47b, q47c⟩ := isOf hZ rfl LS_46.1
    obtain ⟨_, _, ⟨T47, L47, k47, n47⟩, -, X47, ⟨Lc47, hQ47, l47, y47, z47⟩, st47⟩ := X46.virtualBack hx (y := (⟨"java/util/ArrayList", "add", "(Ljava/lang/Object;)Z"⟩ : MethodName)) (z := (⟨"java/util/ArrayList", "add", "(Ljava/lang/Object;)Z"⟩ : MethodName)) hown (mvT hZ (hw _ (List.mem_of_getElem? (i := 135) rfl))) (mvT hZ (hw _ (List.mem_of_getElem? (i := 136) rfl))) (notFace_of_selects (args := #[]) (mvT hZ (hw _ (List.mem_of_getElem? (i := 138) rfl)))) (mvT hZ (hw _ (List.mem_of_getElem? (i := 138) rfl))) (mvT hZ (hw _ (List.mem_of_getElem? (i := 137) rfl))) (by decide) (backOf (W := 0) (rmAN l Z a0 hw [] b28 y46 b43 kb43 ((1 : Int32) + 1) ([(.ref y42)] ++ [(.ref y44)]) T46.heap n0 (Nat.le_trans Z0 KK46.1) LS_46 O43 (by decide) g_b28 g_b43 ne_b28_b43 EX46) hZ (hw _ (List.mem_of_getElem? (i := 139) rfl)) (hw _ (List.mem_of_getElem? (i := 3) rfl)) (by decide) (by decide)) q47a q47c (g := (mkF m 63 #[.val (.int p1), .val (.int p2), .val (.int p3), .val (.int p4), .val (.int p5), .val (.int ((p1 &&& (2147483647 : Int32)) % (6 : Int32))), .val (.ref b28), .unset, .unset, .unset] [(.ref y46), (.ref b28)])) rfl (by rw [hml]; rfl) (Steps.refl _) (argsL := [(.ref y46)]) (rest := []) (lenOf own_pd__Ljava_lang_Object__Z rfl) rfl (by show 2 * 0 + _ ≤ _; exact Nat.le_of_eq rfl) (hb hby at_63) (fun _ _ => ⟨rfl, rfl, (by decide : 5 + 0 ≤ _), (by decide : 16 + 0 ≤ _)⟩)
    dsimp only [Pt.U, Pt.locs, Pt.cells, Pt.slots] at X47 l47 y47 z47 st47 hQ47
    subst l47 y47 z47
    obtain ⟨rfl, N47q, K47, LS47⟩ := hQ47
    have N47 := Fr.app N46 N47q
    have OL_47 : Old Z n0 T47.heap := Old.keep OL_46 K47 (allS g_b28 (allS g_b43 all0))
    have E_b28_47 : Exa Z T47.heap b28 "java/util/ArrayList" := Exa.keep E_b28_46 K47
    have E_y42_47 : Exa Z T47.heap y42 "java/lang/Integer" := Exa.keep E_y42_46 K47
    have E_y44_47 : Exa Z T47.heap y44 "java/lang/Integer" := Exa.keep E_y44_46 K47
    have E_y46_47 : Exa Z T47.heap y46 "java/lang/Integer" := Exa.keep EX46 K47
    have KK47 : Keep h0 T47.heap [] := KK46.trans K47 (allS (Or.inr sz_b28) (allS (Or.inr sz_b43) all0))
    refine own_adv (B := T47.setTop (mkF m 66 #[.val (.int p1), .val (.int p2), .val (.int p3), .val (.int p4), .val (.int p5), .val (.int ((p1 &&& (2147483647 : Int32)) % (6 : Int32))), .val (.ref b28), .unset, .unset, .unset] [(.int (1 : Int32))])) (fun t k => st47.trans k) ?_
    refine own_adv (B := T47.setTop (mkF m 67 #[.val (.int p1), .val (.int p2), .val (.int p3), .val (.int p4), .val (.int p5), .val (.int ((p1 &&& (2147483647 : Int32)) % (6 : Int32))), .val (.ref b28), .unset, .unset, .unset] [])) (fun t k => XS.pop X47.here hx rfl (hb hby at_66) rfl rfl k) ?_
    refine own_adv (B := T47.setTop (mkF m 69 #[.val (.int p1), .val (.int p2), .val (.int p3), .val (.int p4), .val (.int p5), .val (.int ((p1 &&& (2147483647 : Int32)) % (6 : Int32))), .val (.ref b28), .unset, .unset, .unset] [(.int ((p1 &&& (2147483647 : Int32)) % (6 : Int32)))])) (fun t k => XS.iload X47.here hx rfl (hb hby at_67) rfl k) ?_
    refine own_adv (B := T47.setTop (mkF m 70 #[.val (.int p1), .val (.int p2), .val (.int p3), .val (.int p4), .val (.int p5), .val (.int ((p1 &&& (2147483647 : Int32)) % (6 : Int32))), .val (.ref b28), .unset, .unset, .unset] [(.int (3 : Int32)), (.int ((p1 &&& (2147483647 : Int32)) % (6 : Int32)))])) (fun t k => XS.iconst X47.here hx rfl (hb hby at_69) k) ?_
    refine own_adv (B := T47.setTop (mkF m 73 #[.val (.int p1), .val (.int p2), .val (.int p3), .val (.int p4), .val (.int p5), .val (.int ((p1 &&& (2147483647 : Int32)) % (6 : Int32))), .val (.ref b28), .unset, .unset, .unset] [])) (fun t k => XS.icmpNo X47.here hx rfl (hb hby at_70) rfl (tlt (by rw [c4]; decide)).2.2.2 k) ?_
    refine own_adv (B := T47.setTop (mkF m 75 #[.val (.int p1), .val (.int p2), .val (.int p3), .val (.int p4), .val (.int p5), .val (.int ((p1 &&& (2147483647 : Int32)) % (6 : Int32))), .val (.ref b28), .unset, .unset, .unset] [(.ref b28)])) (fun t k => XS.aload X47.here hx rfl (hb hby at_73) rfl rfl k) ?_
    refine own_adv (B := T47.setTop (mkF m 76 #[.val (.int p1), .val (.int p2), .val (.int p3), .val (.int p4), .val (.int p5), .val (.int ((p1 &&& (2147483647 : Int32)) % (6 : Int32))), .val (.ref b28), .unset, .unset, .unset] [(.int p2), (.ref b28)])) (fun t k => XS.iloadN X47.here hx rfl (hb hby at_75) rfl k) ?_
    obtain ⟨_, _, ⟨T48, L48, k48, n48⟩, -, X48, ⟨Lc48, hQ48, l48, y48, z48⟩, st48⟩ := Jvm.LawKit.callS X47 hx (y := (⟨"java/lang/Integer", "valueOf", "(I)Ljava/lang/Integer;"⟩ : MethodName)) hown (mvT hZ (hw _ (List.mem_of_getElem? (i := 128) rfl))) (mvT hZ (hw _ (List.mem_of_getElem? (i := 129) rfl))) (mvT hZ (hw _ (List.mem_of_getElem? (i := 130) rfl))) (mvT hZ (hw _ (List.mem_of_getElem? (i := 131) rfl))) (by decide) (backOf (W := 1) (rmVO l Z a0 hw [] p2 wC cC T47.heap n0 (Nat.le_trans Z0 KK47.1) OL_47 S_h S_c AC szC elC) hZ (hw _ (List.mem_of_getElem? (i := 131) rfl)) (hw _ (List.mem_of_getElem? (i := 130) rfl)) (by decide) (by decide)) (g := (mkF m 76 #[.val (.int p1), .val (.int p2), .val (.int p3), .val (.int p4), .val (.int p5), .val (.int ((p1 &&& (2147483647 : Int32)) % (6 : Int32))), .val (.ref b28), .unset, .unset, .unset] [(.int p2), (.ref b28)])) rfl (by rw [hml]; rfl) (argsL := [(.int p2)]) (rest := [(.ref b28)]) (lenOf own_pd__I_Ljava_lang_Integer_ rfl) rfl (by show 2 * 0 + _ ≤ _; exact Nat.le_of_eq rfl) (hb hby at_76) (fun _ _ => ⟨rfl, rfl, (by decide : 5 + 1 ≤ _), (by decide : 16 + 1 ≤ _)⟩)
    dsimp only [Pt.U, Pt.locs, Pt.cells, Pt.slots] at X48 l48 y48 z48 st48 hQ48
    subst l48 y48 z48
    obtain ⟨y48, rfl, N48q, K48, EX48⟩ := hQ48
    have N48 := Fr.app N47 N48q
    have OL_48 : Old Z n0 T48.heap := Old.keep OL_47 K48 all0
    have E_b28_48 : Exa Z T48.heap b28 "java/util/ArrayList" := Exa.keep E_b28_47 K48
    have E_y42_48 : Exa Z T48.heap y42 "java/lang/Integer" := Exa.keep E_y42_47 K48
    have E_y44_48 : Exa Z T48.heap y44 "java/lang/Integer" := Exa.keep E_y44_47 K48
    have E_y46_48 : Exa Z T48.heap y46 "java/lang/Integer" := Exa.keep E_y46_47 K48
    have LS_48 : own_LS Z T48.heap b28 b43 kb43 (10 : Int32) (((1 : Int32) + 1) + 1) (([(.ref y42)] ++ [(.ref y44)]) ++ [(.ref y46)]) := own_LS_keep LS47 K48 nin0 nin0
    have KK48 : Keep h0 T48.heap [] := KK47.trans K48 all0
    refine own_adv (B := T48.setTop (mkF m 79 #[.val (.int p1), .val (.int p2), .val (.int p3), .val (.int p4), .val (.int p5), .val (.int ((p1 &&& (2147483647 : Int32)) % (6 : Int32))), .val (.ref b28), .unset, .unset, .unset] [(.ref y48), (.ref b28)])) (fun t k => st48 t k) ?_
    obtain ⟨cq49, kq49, q49a, q49b, q49c⟩ := isOf hZ rfl LS_48.1
    obtain ⟨_, _, ⟨T49, L49, k49, n49⟩, -, X49, ⟨Lc49, hQ49, l49, y49, z49⟩, st49⟩ := X48.virtualBack hx (y := (⟨"java/util/ArrayList", "add", "(Ljava/lang/Object;)Z"⟩ : MethodName)) (z := (⟨"java/util/ArrayList", "add", "(Ljava/lang/Object;)Z"⟩ : MethodName)) hown (mvT hZ (hw _ (List.mem_of_getElem? (i := 135) rfl))) (mvT hZ (hw _ (List.mem_of_getElem? (i := 136) rfl))) (notFace_of_selects (args := #[]) (mvT hZ (hw _ (List.mem_of_getElem? (i := 138) rfl)))) (mvT hZ (hw _ (List.mem_of_getElem? (i := 138) rfl))) (mvT hZ (hw _ (List.mem_of_getElem? (i := 137) rfl))) (by decide) (backOf (W := 0) (rmAN l Z a0 hw [] b28 y48 b43 kb43 (((1 : Int32) + 1) + 1) (([(.ref y42)] ++ [(.ref y44)]) ++ [(.ref y46)]) T48.heap n0 (Nat.le_trans Z0 KK48.1) LS_48 O43 (by decide) g_b28 g_b43 ne_b28_b43 EX48) hZ (hw _ (List.mem_of_getElem? (i := 139) rfl)) (hw _ (List.mem_of_getElem? (i := 3) rfl)) (by decide) (by decide)) q49a q49c (g := (mkF m 79 #[.val (.int p1), .val (.int p2), .val (.int p3), .val (.int p4), .val (.int p5), .val (.int ((p1 &&& (2147483647 : Int32)) % (6 : Int32))), .val (.ref b28), .unset, .unset, .unset] [(.ref y48), (.ref b28)])) rfl (by rw [hml]; rfl) (Steps.refl _) (argsL := [(.ref y48)]) (rest := []) (lenOf own_pd__Ljava_lang_Object__Z rfl) rfl (by show 2 * 0 + _ ≤ _; exact Nat.le_of_eq rfl) (hb hby at_79) (fun _ _ => ⟨rfl, rfl, (by decide : 6 + 0 ≤ _), (by decide : 17 + 0 ≤ _)⟩)
    dsimp only [Pt.U, Pt.locs, Pt.cells, Pt.slots] at X49 l49 y49 z49 st49 hQ49
    subst l49 y49 z49
    obtain ⟨rfl, N49q, K49, LS49⟩ := hQ49
    have N49 := Fr.app N48 N49q
    have OL_49 : Old Z n0 T49.heap := Old.keep OL_48 K49 (allS g_b28 (allS g_b43 all0))
    have E_b28_49 : Exa Z T49.heap b28 "java/util/ArrayList" := Exa.keep E_b28_48 K49
    have E_y42_49 : Exa Z T49.heap y42 "java/lang/Integer" := Exa.keep E_y42_48 K49
    have E_y44_49 : Exa Z T49.heap y44 "java/lang/Integer" := Exa.keep E_y44_48 K49
    have E_y46_49 : Exa Z T49.heap y46 "java/lang/Integer" := Exa.keep E_y46_48 K49
    have E_y48_49 : Exa Z T49.heap y48 "java/lang/Integer" := Exa.keep EX48 K49
    have KK49 : Keep h0 T49.heap [] := KK48.trans K49 (allS (Or.inr sz_b28) (allS (Or.inr sz_b43) all0))
    refine own_adv (B := T49.setTop (mkF m 82 #[.val (.int p1), .val (.int p2), .val (.int p3), .val (.int p4), .val (.int p5), .val (.int ((p1 &&& (2147483647 : Int32)) % (6 : Int32))), .val (.ref b28), .unset, .unset, .unset] [(.int (1 : Int32))])) (fun t k => st49.trans k) ?_
    refine own_adv (B := T49.setTop (mkF m 83 #[.val (.int p1), .val (.int p2), .val (.int p3), .val (.int p4), .val (.int p5), .val (.int ((p1 &&& (2147483647 : Int32)) % (6 : Int32))), .val (.ref b28), .unset, .unset, .unset] [])) (fun t k => XS.pop X49.here hx rfl (hb hby at_82) rfl rfl k) ?_
    refine own_adv (B := T49.setTop (mkF m 85 #[.val (.int p1), .val (.int p2), .val (.int p3), .val (.int p4), .val (.int p5), .val (.int ((p1 &&& (2147483647 : Int32)) % (6 : Int32))), .val (.ref b28), .unset, .unset, .unset] [(.int ((p1 &&& (2147483647 : Int32)) % (6 : Int32)))])) (fun t k => XS.iload X49.here hx rfl (hb hby at_83) rfl k) ?_
    refine own_adv (B := T49.setTop (mkF m 86 #[.val (.int p1), .val (.int p2), .val (.int p3), .val (.int p4), .val (.int p5), .val (.int ((p1 &&& (2147483647 : Int32)) % (6 : Int32))), .val (.ref b28), .unset, .unset, .unset] [(.int (4 : Int32)), (.int ((p1 &&& (2147483647 : Int32)) % (6 : Int32)))])) (fun t k => XS.iconst X49.here hx rfl (hb hby at_85) k) ?_
    refine own_adv (B := T49.setTop (mkF m 96 #[.val (.int p1), .val (.int p2), .val (.int p3), .val (.int p4), .val (.int p5), .val (.int ((p1 &&& (2147483647 : Int32)) % (6 : Int32))), .val (.ref b28), .unset, .unset, .unset] [])) (fun t k => XS.icmpYes X49.here hx rfl (pc0 := 86) (pc' := 96) rfl (hb hby at_86) rfl (flt (by rw [c4]; decide)).2.2.2 (by decide) (by decide) k) ?_
    have hn : ((p1 &&& (2147483647 : Int32)) % (6 : Int32)) = ((((1 : Int32) + 1) + 1) + 1) := c4.trans (by decide)
    have LSn : own_LS Z T49.heap b28 b43 kb43 (10 : Int32) ((p1 &&& (2147483647 : Int32)) % (6 : Int32)) ((([(.ref y42)] ++ [(.ref y44)]) ++ [(.ref y46)]) ++ [(.ref y48)]) := by rw [hn]; exact LS49
    exact tail _ _ _ _ _ _ _ _ (X49.more (by decide) (by decide)) N49 OL_49 KK49 LSn sz_b28 (Or.inr ⟨sz_b43, rfl, by rw [c4]; decide, ne_b28_b43, O43⟩) (by rw [c4]; decide)
  · skip
    refine own_adv (B := T29.setTop (mkF m 23 #[.val (.int p1), .val (.int p2), .val (.int p3), .val (.int p4), .val (.int p5), .val (.int ((p1 &&& (2147483647 : Int32)) % (6 : Int32))), .val (.ref b28), .unset, .unset, .unset] [])) (fun t k => XS.ifNo X29.here hx rfl (hb hby at_20) rfl ((if0 _ _).trans (tlt (by rw [c5]; decide)).2.2.2) k) ?_
    refine own_adv (B := T29.setTop (mkF m 25 #[.val (.int p1), .val (.int p2), .val (.int p3), .val (.int p4), .val (.int p5), .val (.int ((p1 &&& (2147483647 : Int32)) % (6 : Int32))), .val (.ref b28), .unset, .unset, .unset] [(.ref b28)])) (fun t k => XS.aload X29.here hx rfl (hb hby at_23) rfl rfl k) ?_
    refine own_adv (B := T29.setTop (mkF m 26 #[.val (.int p1), .val (.int p2), .val (.int p3), .val (.int p4), .val (.int p5), .val (.int ((p1 &&& (2147483647 : Int32)) % (6 : Int32))), .val (.ref b28), .unset, .unset, .unset] [(.int p2), (.ref b28)])) (fun t k => XS.iloadN X29.here hx rfl (hb hby at_25) rfl k) ?_
    obtain ⟨_, _, ⟨T50, L50, k50, n50⟩, -, X50, ⟨Lc50, hQ50, l50, y50, z50⟩, st50⟩ := Jvm.LawKit.callS X29 hx (y := (⟨"java/lang/Integer", "valueOf", "(I)Ljava/lang/Integer;"⟩ : MethodName)) hown (mvT hZ (hw _ (List.mem_of_getElem? (i := 128) rfl))) (mvT hZ (hw _ (List.mem_of_getElem? (i := 129) rfl))) (mvT hZ (hw _ (List.mem_of_getElem? (i := 130) rfl))) (mvT hZ (hw _ (List.mem_of_getElem? (i := 131) rfl))) (by decide) (backOf (W := 1) (rmVO l Z a0 hw [] p2 wC cC T29.heap n0 (Nat.le_trans Z0 KK29.1) OL_29 S_h S_c AC szC elC) hZ (hw _ (List.mem_of_getElem? (i := 131) rfl)) (hw _ (List.mem_of_getElem? (i := 130) rfl)) (by decide) (by decide)) (g := (mkF m 26 #[.val (.int p1), .val (.int p2), .val (.int p3), .val (.int p4), .val (.int p5), .val (.int ((p1 &&& (2147483647 : Int32)) % (6 : Int32))), .val (.ref b28), .unset, .unset, .unset] [(.int p2), (.ref b28)])) rfl (by rw [hml]; rfl) (argsL := [(.int p2)]) (rest := [(.ref b28)]) (lenOf own_pd__I_Ljava_lang_Integer_ rfl) rfl (by show 2 * 0 + _ ≤ _; exact Nat.le_of_eq rfl) (hb hby at_26) (fun _ _ => ⟨rfl, rfl, (by decide : 1 + 1 ≤ _), (by decide : 3 + 1 ≤ _)⟩)
    dsimp only [Pt.U, Pt.locs, Pt.cells, Pt.slots] at X50 l50 y50 z50 st50 hQ50
    subst l50 y50 z50
    obtain ⟨y50, rfl, N50q, K50, EX50⟩ := hQ50
    have N50 := Fr.app N29 N50q
    have OL_50 : Old Z n0 T50.heap := Old.keep OL_29 K50 all0
    have E_b28_50 : Exa Z T50.heap b28 "java/util/ArrayList" := Exa.keep E_b28_29 K50
    have LS_50 : own_LS Z T50.heap b28 wD kD (0 : Int32) (0 : Int32) [] := own_LS_keep LS29 K50 nin0 nin0
    have KK50 : Keep h0 T50.heap [] := KK29.trans K50 all0
    refine own_adv (B := T50.setTop (mkF m 29 #[.val (.int p1), .val (.int p2), .val (.int p3), .val (.int p4), .val (.int p5), .val (.int ((p1 &&& (2147483647 : Int32)) % (6 : Int32))), .val (.ref b28), .unset, .unset, .unset] [(.ref y50), (.ref b28)])) (fun t k => st50 t k) ?_
    obtain ⟨cq51, kq51, q51a, q51b, q51c⟩ := isOf hZ rfl LS_50.1
    obtain ⟨_, _, ⟨T51, L51, k51, n51⟩, -, X51, ⟨Lc51, hQ51, l51, y51, z51⟩, st51⟩ := X50.virtualBack hx (y := (⟨"java/util/ArrayList", "add", "(Ljava/lang/Object;)Z"⟩ : MethodName)) (z := (⟨"java/util/ArrayList", "add", "(Ljava/lang/Object;)Z"⟩ : MethodName)) hown (mvT hZ (hw _ (List.mem_of_getElem? (i := 135) rfl))) (mvT hZ (hw _ (List.mem_of_getElem? (i := 136) rfl))) (notFace_of_selects (args := #[]) (mvT hZ (hw _ (List.mem_of_getElem? (i := 138) rfl)))) (mvT hZ (hw _ (List.mem_of_getElem? (i := 138) rfl))) (mvT hZ (hw _ (List.mem_of_getElem? (i := 137) rfl))) (by decide) (backOf (W := 0) (rmAF l Z a0 hw [] b28 y50 wD kD T50.heap n0 (Nat.le_trans Z0 KK50.1) OL_50 S_D VD LS_50 g_b28 EX50) hZ (hw _ (List.mem_of_getElem? (i := 139) rfl)) (hw _ (List.mem_of_getElem? (i := 3) rfl)) (by decide) (by decide)) q51a q51c (g := (mkF m 29 #[.val (.int p1), .val (.int p2), .val (.int p3), .val (.int p4), .val (.int p5), .val (.int ((p1 &&& (2147483647 : Int32)) % (6 : Int32))), .val (.ref b28), .unset, .unset, .unset] [(.ref y50), (.ref b28)])) rfl (by rw [hml]; rfl) (Steps.refl _) (argsL := [(.ref y50)]) (rest := []) (lenOf own_pd__Ljava_lang_Object__Z rfl) rfl (by show 2 * 0 + _ ≤ _; exact Nat.le_of_eq rfl) (hb hby at_29) (fun _ _ => ⟨rfl, rfl, (by decide : 2 + 1 ≤ _), (by decide : 4 + 10 ≤ _)⟩)
    dsimp only [Pt.U, Pt.locs, Pt.cells, Pt.slots] at X51 l51 y51 z51 st51 hQ51
    subst l51 y51 z51
    obtain ⟨b51, kb51, rfl, N51q, K51, hb51, LS51, O51⟩ := hQ51
    have N51 := Fr.app N50 N51q
    have ne_b28_b51 : b28 ≠ b51 := Nat.ne_of_lt (Nat.lt_of_lt_of_le E_b28_50.lt hb51)
    have ne_wD_b51 : wD ≠ b51 := Nat.ne_of_lt (Nat.lt_of_lt_of_le LS_50.2.2.2.2.1.lt hb51)
    have ne_y50_b51 : y50 ≠ b51 := Nat.ne_of_lt (Nat.lt_of_lt_of_le EX50.lt hb51)
    have sz_b51 : h0.size ≤ b51 := Nat.le_trans KK50.1 hb51
    have g_b51 : n0 ≤ b51 := Nat.le_trans Z0 sz_b51
    have OL_51 : Old Z n0 T51.heap := Old.keep OL_50 K51 (allS g_b28 all0)
    have E_b28_51 : Exa Z T51.heap b28 "java/util/ArrayList" := Exa.keep E_b28_50 K51
    have E_y50_51 : Exa Z T51.heap y50 "java/lang/Integer" := Exa.keep EX50 K51
    have KK51 : Keep h0 T51.heap [] := KK50.trans K51 (allS (Or.inr sz_b28) all0)
    refine own_adv (B := T51.setTop (mkF m 32 #[.val (.int p1), .val (.int p2), .val (.int p3), .val (.int p4), .val (.int p5), .val (.int ((p1 &&& (2147483647 : Int32)) % (6 : Int32))), .val (.ref b28), .unset, .unset, .unset] [(.int (1 : Int32))])) (fun t k => st51.trans k) ?_
    refine own_adv (B := T51.setTop (mkF m 33 #[.val (.int p1), .val (.int p2), .val (.int p3), .val (.int p4), .val (.int p5), .val (.int ((p1 &&& (2147483647 : Int32)) % (6 : Int32))), .val (.ref b28), .unset, .unset, .unset] [])) (fun t k => XS.pop X51.here hx rfl (hb hby at_32) rfl rfl k) ?_
    refine own_adv (B := T51.setTop (mkF m 35 #[.val (.int p1), .val (.int p2), .val (.int p3), .val (.int p4), .val (.int p5), .val (.int ((p1 &&& (2147483647 : Int32)) % (6 : Int32))), .val (.ref b28), .unset, .unset, .unset] [(.int ((p1 &&& (2147483647 : Int32)) % (6 : Int32)))])) (fun t k => XS.iload X51.here hx rfl (hb hby at_33) rfl k) ?_
    refine own_adv (B := T51.setTop (mkF m 36 #[.val (.int p1), .val (.int p2), .val (.int p3), .val (.int p4), .val (.int p5), .val (.int ((p1 &&& (2147483647 : Int32)) % (6 : Int32))), .val (.ref b28), .unset, .unset, .unset] [(.int (1 : Int32)), (.int ((p1 &&& (2147483647 : Int32)) % (6 : Int32)))])) (fun t k => XS.iconst X51.here hx rfl (hb hby at_35) k) ?_
    refine own_adv (B := T51.setTop (mkF m 39 #[.val (.int p1), .val (.int p2), .val (.int p3), .val (.int p4), .val (.int p5), .val (.int ((p1 &&& (2147483647 : Int32)) % (6 : Int32))), .val (.ref b28), .unset, .unset, .unset] [])) (fun t k => XS.icmpNo X51.here hx rfl (hb hby at_36) rfl (tlt (by rw [c5]; decide)).2.2.2 k) ?_
    refine own_adv (B := T51.setTop (mkF m 41 #[.val (.int p1), .val (.int p2), .val (.int p3), .val (.int p4), .val (.int p5), .val (.int ((p1 &&& (2147483647 : Int32)) % (6 : Int32))), .val (.ref b28), .unset, .unset, .unset] [(.ref b28)])) (fun t k => XS.aload X51.here hx rfl (hb hby at_39) rfl rfl k) ?_
    refine own_adv (B := T51.setTop (mkF m 42 #[.val (.int p1), .val (.int p2), .val (.int p3), .val (.int p4), .val (.int p5), .val (.int ((p1 &&& (2147483647 : Int32)) % (6 : Int32))), .val (.ref b28), .unset, .unset, .unset] [(.int p3), (.ref b28)])) (fun t k => XS.iloadN X51.here hx rfl (hb hby at_41) rfl k) ?_
    obtain ⟨_, _, ⟨T52, L52, k52, n52⟩, -, X52, ⟨Lc52, hQ52, l52, y52, z52⟩, st52⟩ := Jvm.LawKit.callS X51 hx (y := (⟨"java/lang/Integer", "valueOf", "(I)Ljava/lang/Integer;"⟩ : MethodName)) hown (mvT hZ (hw _ (List.mem_of_getElem? (i := 128) rfl))) (mvT hZ (hw _ (List.mem_of_getElem? (i := 129) rfl))) (mvT hZ (hw _ (List.mem_of_getElem? (i := 130) rfl))) (mvT hZ (hw _ (List.mem_of_getElem? (i := 131) rfl))) (by decide) (backOf (W := 1) (rmVO l Z a0 hw [] p3 wC cC T51.heap n0 (Nat.le_trans Z0 KK51.1) OL_51 S_h S_c AC szC elC) hZ (hw _ (List.mem_of_getElem? (i := 131) rfl)) (hw _ (List.mem_of_getElem? (i := 130) rfl)) (by decide) (by decide)) (g := (mkF m 42 #[.val (.int p1), .val (.int p2), .val (.int p3), .val (.int p4), .val (.int p5), .val (.int ((p1 &&& (2147483647 : Int32)) % (6 : Int32))), .val (.ref b28), .unset, .unset, .unset] [(.int p3), (.ref b28)])) rfl (by rw [hml]; rfl) (argsL := [(.int p3)]) (rest := [(.ref b28)]) (lenOf own_pd__I_Ljava_lang_Integer_ rfl) rfl (by show 2 * 0 + _ ≤ _; exact Nat.le_of_eq rfl) (hb hby at_42) (fun _ _ => ⟨rfl, rfl, (by decide : 3 + 1 ≤ _), (by decide : 14 + 1 ≤ _)⟩)
    dsimp only [Pt.U, Pt.locs, Pt.cells, Pt.slots] at X52 l52 y52 z52 st52 hQ52
    subst l52 y52 z52
    obtain ⟨y52, rfl, N52q, K52, EX52⟩ := hQ52
    have N52 := Fr.app N51 N52q
    have OL_52 : Old Z n0 T52.heap := Old.keep OL_51 K52 all0
    have E_b28_52 : Exa Z T52.heap b28 "java/util/ArrayList" := Exa.keep E_b28_51 K52
    have E_y50_52 : Exa Z T52.heap y50 "java/lang/Integer" := Exa.keep E_y50_51 K52
    have LS_52 : own_LS Z T52.heap b28 b51 kb51 (10 : Int32) (1 : Int32) [(.ref y50)] := own_LS_keep LS51 K52 nin0 nin0
    have KK52 : Keep h0 T52.heap [] := KK51.trans K52 all0
    refine own_adv (B := T52.setTop (mkF m 45 #[.val (.int p1), .val (.int p2), .val (.int p3), .val (.int p4), .val (.int p5), .val (.int ((p1 &&& (2147483647 : Int32)) % (6 : Int32))), .val (.ref b28), .unset, .unset, .unset] [(.ref y52), (.ref b28)])) (fun t k => st52 t k) ?_
    obtain ⟨cq53, kq53, q53a, q53b, q53c⟩ := isOf hZ rfl LS_52.1
    obtain ⟨_, _, ⟨T53, L53, k53, n53⟩, -, X53, ⟨Lc53, hQ53, l53, y53, z53⟩, st53⟩ := X52.virtualBack hx (y := (⟨"java/util/ArrayList", "add", "(Ljava/lang/Object;)Z"⟩ : MethodName)) (z := (⟨"java/util/ArrayList", "add", "(Ljava/lang/Object;)Z"⟩ : MethodName)) hown (mvT hZ (hw _ (List.mem_of_getElem? (i := 135) rfl))) (mvT hZ (hw _ (List.mem_of_getElem? (i := 136) rfl))) (notFace_of_selects (args := #[]) (mvT hZ (hw _ (List.mem_of_getElem? (i := 138) rfl)))) (mvT hZ (hw _ (List.mem_of_getElem? (i := 138) rfl))) (mvT hZ (hw _ (List.mem_of_getElem? (i := 137) rfl))) (by decide) (backOf (W := 0) (rmAN l Z a0 hw [] b28 y52 b51 kb51 (1 : Int32) [(.ref y50)] T52.heap n0 (Nat.le_trans Z0 KK52.1) LS_52 O51 (by decide) g_b28 g_b51 ne_b28_b51 EX52) hZ (hw _ (List.mem_of_getElem? (i := 139) rfl)) (hw _ (List.mem_of_getElem? (i := 3) rfl)) (by decide) (by decide)) q53a q53c (g := (mkF m 45 #[.val (.int p1), .val (.int p2), .val (.int p3), .val (.int p4), .val (.int p5), .val (.int ((p1 &&& (2147483647 : Int32)) % (6 : Int32))), .val (.ref b28), .unset, .unset, .unset] [(.ref y52), (.ref b28)])) rfl (by rw [hml]; rfl) (Steps.refl _) (argsL := [(.ref y52)]) (rest := []) (lenOf own_pd__Ljava_lang_Object__Z rfl) rfl (by show 2 * 0 + _ ≤ _; exact Nat.le_of_eq rfl) (hb hby at_45) (fun _ _ => ⟨rfl, rfl, (by decide : 4 + 0 ≤ _), (by decide : 15 + 0 ≤ _)⟩)
    dsimp only [Pt.U, Pt.locs, Pt.cells, Pt.slots] at X53 l53 y53 z53 st53 hQ53
    subst l53 y53 z53
    obtain ⟨rfl, N53q, K53, LS53⟩ := hQ53
    have N53 := Fr.app N52 N53q
    have OL_53 : Old Z n0 T53.heap := Old.keep OL_52 K53 (allS g_b28 (allS g_b51 all0))
    have E_b28_53 : Exa Z T53.heap b28 "java/util/ArrayList" := Exa.keep E_b28_52 K53
    have E_y50_53 : Exa Z T53.heap y50 "java/lang/Integer" := Exa.keep E_y50_52 K53
    have E_y52_53 : Exa Z T53.heap y52 "java/lang/Integer" := Exa.keep EX52 K53
    have KK53 : Keep h0 T53.heap [] := KK52.trans K53 (allS (Or.inr sz_b28) (allS (Or.inr sz_b51) all0))
    refine own_adv (B := T53.setTop (mkF m 48 #[.val (.int p1), .val (.int p2), .val (.int p3), .val (.int p4), .val (.int p5), .val (.int ((p1 &&& (2147483647 : Int32)) % (6 : Int32))), .val (.ref b28), .unset, .unset, .unset] [(.int (1 : Int32))])) (fun t k => st53.trans k) ?_
    refine own_adv (B := T53.setTop (mkF m 49 #[.val (.int p1), .val (.int p2), .val (.int p3), .val (.int p4), .val (.int p5), .val (.int ((p1 &&& (2147483647 : Int32)) % (6 : Int32))), .val (.ref b28), .unset, .unset, .unset] [])) (fun t k => XS.pop X53.here hx rfl (hb hby at_48) rfl rfl k) ?_
    refine own_adv (B := T53.setTop (mkF m 51 #[.val (.int p1), .val (.int p2), .val (.int p3), .val (.int p4), .val (.int p5), .val (.int ((p1 &&& (2147483647 : Int32)) % (6 : Int32))), .val (.ref b28), .unset, .unset, .unset] [(.int ((p1 &&& (2147483647 : Int32)) % (6 : Int32)))])) (fun t k => XS.iload X53.here hx rfl (hb hby at_49) rfl k) ?_
    refine own_adv (B := T53.setTop (mkF m 52 #[.val (.int p1), .val (.int p2), .val (.int p3), .val (.int p4), .val (.int p5), .val (.int ((p1 &&& (2147483647 : Int32)) % (6 : Int32))), .val (.ref b28), .unset, .unset, .unset] [(.int (2 : Int32)), (.int ((p1 &&& (2147483647 : Int32)) % (6 : Int32)))])) (fun t k => XS.iconst X53.here hx rfl (hb hby at_51) k) ?_
    refine own_adv (B := T53.setTop (mkF m 55 #[.val (.int p1), .val (.int p2), .val (.int p3), .val (.int p4), .val (.int p5), .val (.int ((p1 &&& (2147483647 : Int32)) % (6 : Int32))), .val (.ref b28), .unset, .unset, .unset] [])) (fun t k => XS.icmpNo X53.here hx rfl (hb hby at_52) rfl (tlt (by rw [c5]; decide)).2.2.2 k) ?_
    refine own_adv (B := T53.setTop (mkF m 57 #[.val (.int p1), .val (.int p2), .val (.int p3), .val (.int p4), .val (.int p5), .val (.int ((p1 &&& (2147483647 : Int32)) % (6 : Int32))), .val (.ref b28), .unset, .unset, .unset] [(.ref b28)])) (fun t k => XS.aload X53.here hx rfl (hb hby at_55) rfl rfl k) ?_
    refine own_adv (B := T53.setTop (mkF m 58 #[.val (.int p1), .val (.int p2), .val (.int p3), .val (.int p4), .val (.int p5), .val (.int ((p1 &&& (2147483647 : Int32)) % (6 : Int32))), .val (.ref b28), .unset, .unset, .unset] [(.int p2), (.ref b28)])) (fun t k => XS.iloadN X53.here hx rfl (hb hby at_57) rfl k) ?_
    refine own_adv (B := T53.setTop (mkF m 59 #[.val (.int p1), .val (.int p2), .val (.int p3), .val (.int p4), .val (.int p5), .val (.int ((p1 &&& (2147483647 : Int32)) % (6 : Int32))), .val (.ref b28), .unset, .unset, .unset] [(.int p3), (.int p2), (.ref b28)])) (fun t k => XS.iloadN X53.here hx rfl (hb hby at_58) rfl k) ?_
    refine own_adv (B := T53.setTop (mkF m 60 #[.val (.int p1), .val (.int p2), .val (.int p3), .val (.int p4), .val (.int p5), .val (.int ((p1 &&& (2147483647 : Int32)) % (6 : Int32))), .val (.ref b28), .unset, .unset, .unset] [(.int (p2 ^^^ p3)), (.ref b28)])) (fun t k => XS.ixor X53.here hx rfl (hb hby at_59) rfl k) ?_
    obtain ⟨_, _, ⟨T54, L54, k54, n54⟩, -, X54, ⟨Lc54, hQ54, l54, y54, z54⟩, st54⟩ := Jvm.LawKit.callS X53 hx (y := (⟨"java/lang/Integer", "valueOf", "(I)Ljava/lang/Integer;"⟩ : MethodName)) hown (mvT hZ (hw _ (List.mem_of_getElem? (i := 128) rfl))) (mvT hZ (hw _ (List.mem_of_getElem? (i := 129) rfl))) (mvT hZ (hw _ (List.mem_of_getElem? (i := 130) rfl))) (mvT hZ (hw _ (List.mem_of_getElem? (i := 131) rfl))) (by decide) (backOf (W := 1) (rmVO l Z a0 hw [] (p2 ^^^ p3) wC cC T53.heap n0 (Nat.le_trans Z0 KK53.1) OL_53 S_h S_c AC szC elC) hZ (hw _ (List.mem_of_getElem? (i := 131) rfl)) (hw _ (List.mem_of_getElem? (i := 130) rfl)) (by decide) (by decide)) (g := (mkF m 60 #[.val (.int p1), .val (.int p2), .val (.int p3), .val (.int p4), .val (.int p5), .val (.int ((p1 &&& (2147483647 : Int32)) % (6 : Int32))), .val (.ref b28), .unset, .unset, .unset] [(.int (p2 ^^^ p3)), (.ref b28)])) rfl (by rw [hml]; rfl) (argsL := [(.int (p2 ^^^ p3))]) (rest := [(.ref b28)]) (lenOf own_pd__I_Ljava_lang_Integer_ rfl) rfl (by show 2 * 0 + _ ≤ _; exact Nat.le_of_eq rfl) (hb hby at_60) (fun _ _ => ⟨rfl, rfl, (by decide : 4 + 1 ≤ _), (by decide : 15 + 1 ≤ _)⟩)
    dsimp only [Pt.U, Pt.locs, Pt.cells, Pt.slots] at X54 l54 y54 z54 st54 hQ54
    subst l54 y54 z54
    obtain ⟨y54, rfl, N54q, K54, EX54⟩ := hQ54
    have N54 := Fr.app N53 N54q
    have OL_54 : Old Z n0 T54.heap := Old.keep OL_53 K54 all0
    have E_b28_54 : Exa Z T54.heap b28 "java/util/ArrayList" := Exa.keep E_b28_53 K54
    have E_y50_54 : Exa Z T54.heap y50 "java/lang/Integer" := Exa.keep E_y50_53 K54
    have E_y52_54 : Exa Z T54.heap y52 "java/lang/Integer" := Exa.keep E_y52_53 K54
    have LS_54 : own_LS Z T54.heap b28 b51 kb51 (10 : Int32) ((1 : Int32) + 1) ([(.ref y50)] ++ [(.ref y52)]) := own_LS_keep LS53 K54 nin0 nin0
    have KK54 : Keep h0 T54.heap [] := KK53.trans K54 all0
    refine own_adv (B := T54.setTop (mkF m 63 #[.val (.int p1), .val (.int p2), .val (.int p3), .val (.int p4), .val (.int p5), .val (.int ((p1 &&& (2147483647 : Int32)) % (6 : Int32))), .val (.ref b28), .unset, .unset, .unset] [(.ref y54), (.ref b28)])) (fun t k => st54 t k) ?_
    obtain ⟨cq55, kq55, q55a, q55b, q55c⟩ := isOf hZ rfl LS_54.1
    obtain ⟨_, _, ⟨T55, L55, k55, n55⟩, -, X55, ⟨Lc55, hQ55, l55, y55, z55⟩, st55⟩ := X54.virtualBack hx (y := (⟨"java/util/ArrayList", "add", "(Ljava/lang/Object;)Z"⟩ : MethodName)) (z := (⟨"java/util/ArrayList", "add", "(Ljava/lang/Object;)Z"⟩ : MethodName)) hown (mvT hZ (hw _ (List.mem_of_getElem? (i := 135) rfl))) (mvT hZ (hw _ (List.mem_of_getElem? (i := 136) rfl))) (notFace_of_selects (args := #[]) (mvT hZ (hw _ (List.mem_of_getElem? (i := 138) rfl)))) (mvT hZ (hw _ (List.mem_of_getElem? (i := 138) rfl))) (mvT hZ (hw _ (List.mem_of_getElem? (i := 137) rfl))) (by decide) (backOf (W := 0) (rmAN l Z a0 hw [] b28 y54 b51 kb51 ((1 : Int32) + 1) ([(.ref y50)] ++ [(.ref y52)]) T54.heap n0 (Nat.le_trans Z0 KK54.1) LS_54 O51 (by decide) g_b28 g_b51 ne_b28_b51 EX54) hZ (hw _ (List.mem_of_getElem? (i := 139) rfl)) (hw _ (List.mem_of_getElem? (i := 3) rfl)) (by decide) (by decide)) q55a q55c (g := (mkF m 63 #[.val (.int p1), .val (.int p2), .val (.int p3), .val (.int p4), .val (.int p5), .val (.int ((p1 &&& (2147483647 : Int32)) % (6 : Int32))), .val (.ref b28), .unset, .unset, .unset] [(.ref y54), (.ref b28)])) rfl (by rw [hml]; rfl) (Steps.refl _) (argsL := [(.ref y54)]) (rest := []) (lenOf own_pd__Ljava_lang_Object__Z rfl) rfl (by show 2 * 0 + _ ≤ _; exact Nat.le_of_eq rfl) (hb hby at_63) (fun _ _ => ⟨rfl, rfl, (by decide : 5 + 0 ≤ _), (by decide : 16 + 0 ≤ _)⟩)
    dsimp only [Pt.U, Pt.locs, Pt.cells, Pt.slots] at X55 l55 y55 z55 st55 hQ55
    subst l55 y55 z55
    obtain ⟨rfl, N55q, K55, LS55⟩ := hQ55
    have N55 := Fr.app N54 N55q
    have OL_55 : Old Z n0 T55.heap := Old.keep OL_54 K55 (allS g_b28 (allS g_b51 all0))
    have E_b28_55 : Exa Z T55.heap b28 "java/util/ArrayList" := Exa.keep E_b28_54 K55
    have E_y50_55 : Exa Z T55.heap y50 "java/lang/Integer" := Exa.keep E_y50_54 K55
    have E_y52_55 : Exa Z T55.heap y52 "java/lang/Integer" := Exa.keep E_y52_54 K55
    have E_y54_55 : Exa Z T55.heap y54 "java/lang/Integer" := Exa.keep EX54 K55
    have KK55 : Keep h0 T55.heap [] := KK54.trans K55 (allS (Or.inr sz_b28) (allS (Or.inr sz_b51) all0))
    refine own_adv (B := T55.setTop (mkF m 66 #[.val (.int p1), .val (.int p2), .val (.int p3), .val (.int p4), .val (.int p5), .val (.int ((p1 &&& (2147483647 : Int32)) % (6 : Int32))), .val (.ref b28), .unset, .unset, .unset] [(.int (1 : Int32))])) (fun t k => st55.trans k) ?_
    refine own_adv (B := T55.setTop (mkF m 67 #[.val (.int p1), .val (.int p2), .val (.int p3), .val (.int p4), .val (.int p5), .val (.int ((p1 &&& (2147483647 : Int32)) % (6 : Int32))), .val (.ref b28), .unset, .unset, .unset] [])) (fun t k => XS.pop X55.here hx rfl (hb hby at_66) rfl rfl k) ?_
    refine own_adv (B := T55.setTop (mkF m 69 #[.val (.int p1), .val (.int p2), .val (.int p3), .val (.int p4), .val (.int p5), .val (.int ((p1 &&& (2147483647 : Int32)) % (6 : Int32))), .val (.ref b28), .unset, .unset, .unset] [(.int ((p1 &&& (2147483647 : Int32)) % (6 : Int32)))])) (fun t k => XS.iload X55.here hx rfl (hb hby at_67) rfl k) ?_
    refine own_adv (B := T55.setTop (mkF m 70 #[.val (.int p1), .val (.int p2), .val (.int p3), .val (.int p4), .val (.int p5), .val (.int ((p1 &&& (2147483647 : Int32)) % (6 : Int32))), .val (.ref b28), .unset, .unset, .unset] [(.int (3 : Int32)), (.int ((p1 &&& (2147483647 : Int32)) % (6 : Int32)))])) (fun t k => XS.iconst X55.here hx rfl (hb hby at_69) k) ?_
    refine own_adv (B := T55.setTop (mkF m 73 #[.val (.int p1), .val (.int p2), .val (.int p3), .val (.int p4), .val (.int p5), .val (.int ((p1 &&& (2147483647 : Int32)) % (6 : Int32))), .val (.ref b28), .unset, .unset, .unset] [])) (fun t k => XS.icmpNo X55.here hx rfl (hb hby at_70) rfl (tlt (by rw [c5]; decide)).2.2.2 k) ?_
    refine own_adv (B := T55.setTop (mkF m 75 #[.val (.int p1), .val (.int p2), .val (.int p3), .val (.int p4), .val (.int p5), .val (.int ((p1 &&& (2147483647 : Int32)) % (6 : Int32))), .val (.ref b28), .unset, .unset, .unset] [(.ref b28)])) (fun t k => XS.aload X55.here hx rfl (hb hby at_73) rfl rfl k) ?_
    refine own_adv (B := T55.setTop (mkF m 76 #[.val (.int p1), .val (.int p2), .val (.int p3), .val (.int p4), .val (.int p5), .val (.int ((p1 &&& (2147483647 : Int32)) % (6 : Int32))), .val (.ref b28), .unset, .unset, .unset] [(.int p2), (.ref b28)])) (fun t k => XS.iloadN X55.here hx rfl (hb hby at_75) rfl k) ?_
    obtain ⟨_, _, ⟨T56, L56, k56, n56⟩, -, X56, ⟨Lc56, hQ56, l56, y56, z56⟩, st56⟩ := Jvm.LawKit.callS X55 hx (y := (⟨"java/lang/Integer", "valueOf", "(I)Ljava/lang/Integer;"⟩ : MethodName)) hown (mvT hZ (hw _ (List.mem_of_getElem? (i := 128) rfl))) (mvT hZ (hw _ (List.mem_of_getElem? (i := 129) rfl))) (mvT hZ (hw _ (List.mem_of_getElem? (i := 130) rfl))) (mvT hZ (hw _ (List.mem_of_getElem? (i := 131) rfl))) (by decide) (backOf (W := 1) (rmVO l Z a0 hw [] p2 wC cC T55.heap n0 (Nat.le_trans Z0 KK55.1) OL_55 S_h S_c AC szC elC) hZ (hw _ (List.mem_of_getElem? (i := 131) rfl)) (hw _ (List.mem_of_getElem? (i := 130) rfl)) (by decide) (by decide)) (g := (mkF m 76 #[.val (.int p1), .val (.int p2), .val (.int p3), .val (.int p4), .val (.int p5), .val (.int ((p1 &&& (2147483647 : Int32)) % (6 : Int32))), .val (.ref b28), .unset, .unset, .unset] [(.int p2), (.ref b28)])) rfl (by rw [hml]; rfl) (argsL := [(.int p2)]) (rest := [(.ref b28)]) (lenOf own_pd__I_Ljava_lang_Integer_ rfl) rfl (by show 2 * 0 + _ ≤ _; exact Nat.le_of_eq rfl) (hb hby at_76) (fun _ _ => ⟨rfl, rfl, (by decide : 5 + 1 ≤ _), (by decide : 16 + 1 ≤ _)⟩)
    dsimp only [Pt.U, Pt.locs, Pt.cells, Pt.slots] at X56 l56 y56 z56 st56 hQ56
    subst l56 y56 z56
    obtain ⟨y56, rfl, N56q, K56, EX56⟩ := hQ56
    have N56 := Fr.app N55 N56q
    have OL_56 : Old Z n0 T56.heap := Old.keep OL_55 K56 all0
    have E_b28_56 : Exa Z T56.heap b28 "java/util/ArrayList" := Exa.keep E_b28_55 K56
    have E_y50_56 : Exa Z T56.heap y50 "java/lang/Integer" := Exa.keep E_y50_55 K56
    have E_y52_56 : Exa Z T56.heap y52 "java/lang/Integer" := Exa.keep E_y52_55 K56
    have E_y54_56 : Exa Z T56.heap y54 "java/lang/Integer" := Exa.keep E_y54_55 K56
    have LS_56 : own_LS Z T56.heap b28 b51 kb51 (10 : Int32) (((1 : Int32) + 1) + 1) (([(.ref y50)] ++ [(.ref y52)]) ++ [(.ref y54)]) := own_LS_keep LS55 K56 nin0 nin0
    have KK56 : Keep h0 T56.heap [] := KK55.trans K56 all0
    refine own_adv (B := T56.setTop (mkF m 79 #[.val (.int p1), .val (.int p2), .val (.int p3), .val (.int p4), .val (.int p5), .val (.int ((p1 &&& (2147483647 : Int32)) % (6 : Int32))), .val (.ref b28), .unset, .unset, .unset] [(.ref y56), (.ref b28)])) (fun t k => st56 t k) ?_
    obtain ⟨cq57, kq57, q57a, q57b, q57c⟩ := isOf hZ rfl LS_56.1
    obtain ⟨_, _, ⟨T57, L57, k57, n57⟩, -, X57, ⟨Lc57, hQ57, l57, y57, z57⟩, st57⟩ := X56.virtualBack hx (y := (⟨"java/util/ArrayList", "add", "(Ljava/lang/Object;)Z"⟩ : MethodName)) (z := (⟨"java/util/ArrayList", "add", "(Ljava/lang/Object;)Z"⟩ : MethodName)) hown (mvT hZ (hw _ (List.mem_of_getElem? (i := 135) rfl))) (mvT hZ (hw _ (List.mem_of_getElem? (i := 136) rfl))) (notFace_of_selects (args := #[]) (mvT hZ (hw _ (List.mem_of_getElem? (i := 138) rfl)))) (mvT hZ (hw _ (List.mem_of_getElem? (i := 138) rfl))) (mvT hZ (hw _ (List.mem_of_getElem? (i := 137) rfl))) (by decide) (backOf (W := 0) (rmAN l Z a0 hw [] b28 y56 b51 kb51 (((1 : Int32) + 1) + 1) (([(.ref y50)] ++ [(.ref y52)]) ++ [(.ref y54)]) T56.heap n0 (Nat.le_trans Z0 KK56.1) LS_56 O51 (by decide) g_b28 g_b51 ne_b28_b51 EX56) hZ (hw _ (List.mem_of_getElem? (i := 139) rfl)) (hw _ (List.mem_of_getElem? (i := 3) rfl)) (by decide) (by decide)) q57a q57c (g := (mkF m 79 #[.val (.int p1), .val (.int p2), .val (.int p3), .val (.int p4), .val (.int p5), .val (.int ((p1 &&& (2147483647 : Int32)) % (6 : Int32))), .val (.ref b28), .unset, .unset, .unset] [(.ref y56), (.ref b28)])) rfl (by rw [hml]; rfl) (Steps.refl _) (argsL := [(.ref y56)]) (rest := []) (lenOf own_pd__Ljava_lang_Object__Z rfl) rfl (by show 2 * 0 + _ ≤ _; exact Nat.le_of_eq rfl) (hb hby at_79) (fun _ _ => ⟨rfl, rfl, (by decide : 6 + 0 ≤ _), (by decide : 17 + 0 ≤ _)⟩)
    dsimp only [Pt.U, Pt.locs, Pt.cells, Pt.slots] at X57 l57 y57 z57 st57 hQ57
    subst l57 y57 z57
    obtain ⟨rfl, N57q, K57, LS57⟩ := hQ57
    have N57 := Fr.app N56 N57q
    have OL_57 : Old Z n0 T57.heap := Old.keep OL_56 K57 (allS g_b28 (allS g_b51 all0))
    have E_b28_57 : Exa Z T57.heap b28 "java/util/ArrayList" := Exa.keep E_b28_56 K57
    have E_y50_57 : Exa Z T57.heap y50 "java/lang/Integer" := Exa.keep E_y50_56 K57
    have E_y52_57 : Exa Z T57.heap y52 "java/lang/Integer" := Exa.keep E_y52_56 K57
    have E_y54_57 : Exa Z T57.heap y54 "java/lang/Integer" := Exa.keep E_y54_56 K57
    have E_y56_57 : Exa Z T57.heap y56 "java/lang/Integer" := Exa.keep EX56 K57
    have KK57 : Keep h0 T57.heap [] := KK56.trans K57 (allS (Or.inr sz_b28) (allS (Or.inr sz_b51) all0))
    refine own_adv (B := T57.setTop (mkF m 82 #[.val (.int p1), .val (.int p2), .val (.int p3), .val (.int p4), .val (.int p5), .val (.int ((p1 &&& (2147483647 : Int32)) % (6 : Int32))), .val (.ref b28), .unset, .unset, .unset] [(.int (1 : Int32))])) (fun t k => st57.trans k) ?_
    refine own_adv (B := T57.setTop (mkF m 83 #[.val (.int p1), .val (.int p2), .val (.int p3), .val (.int p4), .val (.int p5), .val (.int ((p1 &&& (2147483647 : Int32)) % (6 : Int32))), .val (.ref b28), .unset, .unset, .unset] [])) (fun t k => XS.pop X57.here hx rfl (hb hby at_82) rfl rfl k) ?_
    refine own_adv (B := T57.setTop (mkF m 85 #[.val (.int p1), .val (.int p2), .val (.int p3), .val (.int p4), .val (.int p5), .val (.int ((p1 &&& (2147483647 : Int32)) % (6 : Int32))), .val (.ref b28), .unset, .unset, .unset] [(.int ((p1 &&& (2147483647 : Int32)) % (6 : Int32)))])) (fun t k => XS.iload X57.here hx rfl (hb hby at_83) rfl k) ?_
    refine own_adv (B := T57.setTop (mkF m 86 #[.val (.int p1), .val (.int p2), .val (.int p3), .val (.int p4), .val (.int p5), .val (.int ((p1 &&& (2147483647 : Int32)) % (6 : Int32))), .val (.ref b28), .unset, .unset, .unset] [(.int (4 : Int32)), (.int ((p1 &&& (2147483647 : Int32)) % (6 : Int32)))])) (fun t k => XS.iconst X57.here hx rfl (hb hby at_85) k) ?_
    refine own_adv (B := T57.setTop (mkF m 89 #[.val (.int p1), .val (.int p2), .val (.int p3), .val (.int p4), .val (.int p5), .val (.int ((p1 &&& (2147483647 : Int32)) % (6 : Int32))), .val (.ref b28), .unset, .unset, .unset] [])) (fun t k => XS.icmpNo X57.here hx rfl (hb hby at_86) rfl (tlt (by rw [c5]; decide)).2.2.2 k) ?_
    refine own_adv (B := T57.setTop (mkF m 91 #[.val (.int p1), .val (.int p2), .val (.int p3), .val (.int p4), .val (.int p5), .val (.int ((p1 &&& (2147483647 : Int32)) % (6 : Int32))), .val (.ref b28), .unset, .unset, .unset] [(.ref b28)])) (fun t k => XS.aload X57.here hx rfl (hb hby at_89) rfl rfl k) ?_
    refine own_adv (B := T57.setTop (mkF m 92 #[.val (.int p1), .val (.int p2), .val (.int p3), .val (.int p4), .val (.int p5), .val (.int ((p1 &&& (2147483647 : Int32)) % (6 : Int32))), .val (.ref b28), .unset, .unset, .unset] [.null, (.ref b28)])) (fun t k => XS.aconstNull X57.here hx rfl (hb hby at_91) k) ?_
    obtain ⟨cq58, kq58, q58a, q58b, q58c⟩ := isOf hZ rfl LS57.1
    obtain ⟨_, _, ⟨T58, L58, k58, n58⟩, -, X58, ⟨Lc58, hQ58, l58, y58, z58⟩, st58⟩ := X57.virtualBack hx (y := (⟨"java/util/ArrayList", "add", "(Ljava/lang/Object;)Z"⟩ : MethodName)) (z := (⟨"java/util/ArrayList", "add", "(Ljava/lang/Object;)Z"⟩ : MethodName)) hown (mvT hZ (hw _ (List.mem_of_getElem? (i := 135) rfl))) (mvT hZ (hw _ (List.mem_of_getElem? (i := 136) rfl))) (notFace_of_selects (args := #[]) (mvT hZ (hw _ (List.mem_of_getElem? (i := 138) rfl)))) (mvT hZ (hw _ (List.mem_of_getElem? (i := 138) rfl))) (mvT hZ (hw _ (List.mem_of_getElem? (i := 137) rfl))) (by decide) (backOf (W := 0) (rmAN0 l Z a0 hw [] b28 b51 kb51 ((((1 : Int32) + 1) + 1) + 1) ((([(.ref y50)] ++ [(.ref y52)]) ++ [(.ref y54)]) ++ [(.ref y56)]) T57.heap n0 (Nat.le_trans Z0 KK57.1) LS57 O51 (by decide) g_b28 g_b51 ne_b28_b51) hZ (hw _ (List.mem_of_getElem? (i := 139) rfl)) (hw _ (List.mem_of_getElem? (i := 3) rfl)) (by decide) (by decide)) q58a q58c (g := (mkF m 92 #[.val (.int p1), .val (.int p2), .val (.int p3), .val (.int p4), .val (.int p5), .val (.int ((p1 &&& (2147483647 : Int32)) % (6 : Int32))), .val (.ref b28), .unset, .unset, .unset] [.null, (.ref b28)])) rfl (by rw [hml]; rfl) (Steps.refl _) (argsL := [.null]) (rest := []) (lenOf own_pd__Ljava_lang_Object__Z rfl) rfl (by show 2 * 0 + _ ≤ _; exact Nat.le_of_eq rfl) (hb hby at_92) (fun _ _ => ⟨rfl, rfl, (by decide : 6 + 0 ≤ _), (by decide : 17 + 0 ≤ _)⟩)
    dsimp only [Pt.U, Pt.locs, Pt.cells, Pt.slots] at X58 l58 y58 z58 st58 hQ58
    subst l58 y58 z58
    obtain ⟨rfl, N58q, K58, LS58⟩ := hQ58
    have N58 := Fr.app N57 N58q
    have OL_58 : Old Z n0 T58.heap := Old.keep OL_57 K58 (allS g_b28 (allS g_b51 all0))
    have E_b28_58 : Exa Z T58.heap b28 "java/util/ArrayList" := Exa.keep E_b28_57 K58
    have E_y50_58 : Exa Z T58.heap y50 "java/lang/Integer" := Exa.keep E_y50_57 K58
    have E_y52_58 : Exa Z T58.heap y52 "java/lang/Integer" := Exa.keep E_y52_57 K58
    have E_y54_58 : Exa Z T58.heap y54 "java/lang/Integer" := Exa.keep E_y54_57 K58
    have E_y56_58 : Exa Z T58.heap y56 "java/lang/Integer" := Exa.keep E_y56_57 K58
    have KK58 : Keep h0 T58.heap [] := KK57.trans K58 (allS (Or.inr sz_b28) (allS (Or.inr sz_b51) all0))
    refine own_adv (B := T58.setTop (mkF m 95 #[.val (.int p1), .val (.int p2), .val (.int p3), .val (.int p4), .val (.int p5), .val (.int ((p1 &&& (2147483647 : Int32)) % (6 : Int32))), .val (.ref b28), .unset, .unset, .unset] [(.int (1 : Int32))])) (fun t k => st58.trans k) ?_
    refine own_adv (B := T58.setTop (mkF m 96 #[.val (.int p1), .val (.int p2), .val (.int p3), .val (.int p4), .val (.int p5), .val (.int ((p1 &&& (2147483647 : Int32)) % (6 : Int32))), .val (.ref b28), .unset, .unset, .unset] [])) (fun t k => XS.pop X58.here hx rfl (hb hby at_95) rfl rfl k) ?_
    have hn : ((p1 &&& (2147483647 : Int32)) % (6 : Int32)) = (((((1 : Int32) + 1) + 1) + 1) + 1) := c5.trans (by decide)
    have LSn : own_LS Z T58.heap b28 b51 kb51 (10 : Int32) ((p1 &&& (2147483647 : Int32)) % (6 : Int32)) (((([(.ref y50)] ++ [(.ref y52)]) ++ [(.ref y54)]) ++ [(.ref y56)]) ++ [.null]) := by rw [hn]; exact LS58
    exact tail _ _ _ _ _ _ _ _ (X58.more (by decide) (by decide)) N58 OL_58 KK58 LSn sz_b28 (Or.inr ⟨sz_b51, rfl, by rw [c5]; decide, ne_b28_b51, O51⟩) (by rw [c5]; decide)
theorem own_len {Z : State} {args : Array Value} {t : Term} {a : Addr} {c : Cell} {ty : FieldType} {z : Int32} (ev : t.eval args Z none [] Z = some (.ref a)) (A : Arr Z Z.heap a c ty) (h : (Cond.eq (.length t) (.int z)).value args Z none Z [] = some true) : c.slots.size < 2 ^ 31 ∧ c.slots.size.toInt32 = z := by
  have hA := A.fin (Vm.Alike.refl _)
  have e1 := eqv_i (Term.int_eval z) h
  have hl : c.slots.size < 2 ^ 31 := by
    by_cases q : c.slots.size < 2 ^ 31
    · exact q
    · simp [Term.eval, ev, hA, q] at e1
  have e2 := (len_f ev hA hl).symm.trans e1
  exact ⟨hl, Value.int.inj (Option.some.inj e2)⟩
theorem own_size {n k : Nat} {z : Int32} (h1 : n < 2 ^ 31) (h2 : n.toInt32 = z) (h3 : z.toInt = k) : n = k := by
  have := len_toInt h1
  rw [h2, h3] at this
  omega
theorem own_arv0 {Z : State} {args : Array Value} {t : Term} {a : Addr} {c : Cell} {ty : FieldType} (ev : t.eval args Z none [] Z = some (.ref a)) (A : Arr Z Z.heap a c ty) (h : (Cond.eq (.length t) (.int 0)).value args Z none Z [] = some true) : Arv Z Z.heap a c.cls ty (0 : Int32) [] .null := by
  obtain ⟨h1, h2⟩ := own_len ev A h
  have e : c.slots.size = 0 := own_size h1 h2 rfl
  exact ⟨c, A, rfl, e, by decide, fun k hk => by omega, fun k hk => by omega⟩
set_option maxRecDepth 65536 in
set_option maxHeartbeats 40000000 in
theorem comes_1 {Post : Tables → Env → Array Value → State → Outcome → State → Prop} (hpost : ∀ tb e args s v u, (limb_1_1.after args s (.returned v) u = true ∧ limb_1_2.after args s (.returned v) u = true ∧ True) → FrameEnd s (.returned v) u (Jvm.fieldLocs frame_1_writes args s ++ Jvm.arrayLocs frame_1_arrays args s ++ Jvm.staticLocs frame_1_statics s) 32 128 → Post tb e args s (.returned v) u) :
    ArmFor flags0 classFile x code maxLocals ret World_1 tables_1 room_1 Calls_1 rest_1 Pre_1 Post := by
  intro l hfl _ _ p e ha hc hk s m args below hf hA hF happ hP
  obtain ⟨hcalls, hrest, hpre⟩ := hP
  obtain ⟨-, -, -, hnamed, -, -, -, hat⟩ := (Spec.applies_iff hf).mp happ
  obtain ⟨hg, hn⟩ := and_e (Cond.before_iff.mp (show (Jvm.Cond.and given_1 narrow_1).before args s = true from hpre))
  obtain ⟨gc, g0⟩ := and_e hg
  obtain ⟨gi0, g1⟩ := and_e g0
  obtain ⟨gi1, g2⟩ := and_e g1
  obtain ⟨gi2, g3⟩ := and_e g2
  obtain ⟨gi3, g4⟩ := and_e g3
  obtain ⟨w0, w1, w2, w3, w4, rfl⟩ : ∃ w0 w1 w2 w3 w4 : Value, args = #[w0, w1, w2, w3, w4] := by
    have hs : args.size = 5 := by simpa [Cond.value, given_1] using gc
    obtain ⟨L⟩ := args
    match L, hs with
    | [w0, w1, w2, w3, w4], _ => exact ⟨w0, w1, w2, w3, w4, rfl⟩
  have hw := fun d (hd : d ∈ tables_1) => atoms_spec (ws := Jvm.Cond.code x code maxLocals ret :: tables_1) hat d (List.mem_cons_of_mem _ hd)
  obtain ⟨i0, ei0⟩ := is_v gi0
  obtain rfl : w0 = (.int i0) := Option.some.inj ei0
  obtain ⟨i1, ei1⟩ := is_v gi1
  obtain rfl : w1 = (.int i1) := Option.some.inj ei1
  obtain ⟨i2, ei2⟩ := is_v gi2
  obtain rfl : w2 = (.int i2) := Option.some.inj ei2
  obtain ⟨i3, ei3⟩ := is_v gi3
  obtain rfl : w3 = (.int i3) := Option.some.inj ei3
  obtain ⟨i4, ei4⟩ := is_v g4
  obtain rfl : w4 = (.int i4) := Option.some.inj ei4
  obtain ⟨hsets, hown0⟩ := atoms_of _ (rest_1_c_eq ▸ (show rest_1_c.before _ s = true from hrest))
  have q6 := (Cond.before_iff.mp (hsets _ (List.mem_of_getElem? (i := 6) rfl)))
  have q7 := (Cond.before_iff.mp (hsets _ (List.mem_of_getElem? (i := 7) rfl)))
  have q8 := (Cond.before_iff.mp (hsets _ (List.mem_of_getElem? (i := 8) rfl)))
  obtain ⟨wD, vD⟩ := exa_v q7
  have ED := Exa.start vD q7
  have S_D := Sta.start vD (Or.inr ⟨(hw _ (List.mem_of_getElem? (i := 3) rfl)), (hsets _ (List.mem_of_getElem? (i := 2) rfl))⟩)
  obtain ⟨cD, AD⟩ := Arr.start vD q6
  have VD := own_arv0 vD AD q8
  have q11 := (Cond.before_iff.mp (hsets _ (List.mem_of_getElem? (i := 11) rfl)))
  have q12 := (Cond.before_iff.mp (hsets _ (List.mem_of_getElem? (i := 12) rfl)))
  have q13 := (Cond.before_iff.mp (hsets _ (List.mem_of_getElem? (i := 13) rfl)))
  have q14 := (Cond.before_iff.mp (hsets _ (List.mem_of_getElem? (i := 14) rfl)))
  obtain ⟨wL, vL⟩ := exa_v q11
  have EL := Exa.start vL q11
  have S_L := Sta.start vL (Or.inr ⟨(hw _ (List.mem_of_getElem? (i := 44) rfl)), (hsets _ (List.mem_of_getElem? (i := 9) rfl))⟩)
  obtain ⟨wE, vE⟩ := exa_v q13
  have FL := Fld.start ((fld_at vL).symm.trans vE)
  obtain ⟨cE, AE⟩ := Arr.start vE q12
  have VL := own_arv0 vE AE q14
  have q19 := (Cond.before_iff.mp (hsets _ (List.mem_of_getElem? (i := 19) rfl)))
  have S_h := Sta.start (eqv_i (Term.int_eval 127) q19) (Or.inr ⟨(hw _ (List.mem_of_getElem? (i := 133) rfl)), (hsets _ (List.mem_of_getElem? (i := 16) rfl))⟩)
  have q20 := (Cond.before_iff.mp (hsets _ (List.mem_of_getElem? (i := 20) rfl)))
  have q21 := (Cond.before_iff.mp (hsets _ (List.mem_of_getElem? (i := 21) rfl)))
  have q22 := (Cond.before_iff.mp (hsets _ (List.mem_of_getElem? (i := 22) rfl)))
  have q23 := (Cond.before_iff.mp (hsets _ (List.mem_of_getElem? (i := 23) rfl)))
  obtain ⟨wC, vC⟩ := exa_v q21
  have S_c := Sta.start vC (Or.inr ⟨(hw _ (List.mem_of_getElem? (i := 133) rfl)), (hsets _ (List.mem_of_getElem? (i := 18) rfl))⟩)
  obtain ⟨cC, AC⟩ := Arr.start vC q20
  obtain ⟨hl, e256⟩ := own_len vC AC q22
  have szC : cC.slots.size = 256 := own_size hl e256 rfl
  have BX := Bxs.start (val := fun j => .int (j - 128)) (fun idx => vC) AC hl e256 (by decide) q23 (fun X j hj hX => eqv_i (by
    have e := idx_at (args := #[.int i0, .int i1, .int i2, .int i3, .int i4]) (first := s) (s := s) (o := none) hj
    simp only [Term.eval] at e ⊢
    simp [e]
    exact (back32 hj).1) hX)
  have elC : ∀ j : Int32, ¬ (j < 0 ∨ cC.slots.size ≤ j.toNatClampNeg) → ∃ y, cC.slots[j.toNatClampNeg]? = some (.ref y) ∧ Exa s s.heap y "java/lang/Integer" := fun j hj => by
    obtain ⟨y, e1, e2, -⟩ := BX.2.2.2 j hj
    exact ⟨y, e1, e2⟩
  obtain ⟨⟨cc, kc, mr, m1, m2, m3, -⟩, -⟩ := hcalls
  have MR : own_Mir s "[Ljava/lang/Object;" mr := ⟨cc, kc, m1, m2, m3⟩
  obtain ⟨n, o, h1, h2, h3, _, L, rfl, ⟨rfl, N⟩, hq⟩ := rm0 l s _ hw tables_1 i0 i1 i2 i3 i4 wD wL wE wC mr cD.cls cE.cls cC s.heap s.heap.size (Nat.le_refl _) (Old.start s) S_D ED VD S_L EL FL VL S_h S_c AC szC elC MR p e ha hc hk s m _ below hf ((Spec.applies_iff_loose hf).mp happ).1 ⟨rfl, State.Warmed39.refl s, rfl⟩ trivial
  exact ⟨n, _, h1, h2, h3, hpost _ _ _ _ _ _ ⟨Cond.after_iff.mpr rfl, Cond.after_iff.mpr (eq_i res_at (Term.int_eval (1)) rfl), trivial⟩ ⟨hq.1, hq.2.1, (hq.2.2.sift fun y hy => Or.inr (N y hy)).mono (by decide) (by decide)⟩⟩
theorem main_1_1 : Claimed_1_1 := comes_1 fun _ _ _ _ _ _ h hF => ⟨h.1, hF⟩
theorem main_1_2 : Claimed_1_2 := comes_1 fun _ _ _ _ _ _ h hF => ⟨h.2.1, hF⟩
end Jvm.Pilot.@@N@@
namespace Jvm.Pilot.@@N@@
open Jvm Jvm.ClassFile Sem Op Lib Jvm.Free Jvm.Stand Jvm.Pilot.@@N@@.Jvm.D
/-! MADE BY PROGRAM (witnessworld.py) out of the Statement's table words and the real class files: 34 classes; the members and pool entries that the words name. The judged class is class 1, her method 1. -/
namespace start1
open Jvm.ClassFile
def u (s : String) : CpInfo := .utf8 (stringToUtf16 s)
/-- a pool by its gaps: so many unusable entries, then the entry; so many at the end -/
def gap : Nat → List CpInfo → List CpInfo
  | 0, r => r
  | n + 1, r => .unusable :: gap n r
def poolList (es : List (Nat × CpInfo)) (last : Nat) : List CpInfo := es.foldr (fun e r => gap e.1 (e.2 :: r)) (gap last [])
def pool (es : List (Nat × CpInfo)) (last : Nat) : Array CpInfo := ⟨poolList es last⟩
def fileOf (pool : Array CpInfo) (this : Nat) (attrs : Array Attribute := #[]) (ms : Array MethodInfo := #[]) (fl : Nat := 33) (sup : Nat := 0) (ifs : Array Nat := #[]) (fds : Array FieldInfo := #[]) : ClassFile where
  minorVersion := 0
  majorVersion := 65
  constantPool := pool
  accessFlags := fl
  thisClass := this
  superClass := sup
  interfaces := ifs
  fields := fds
  methods := ms
  attributes := attrs
def plain (name : String) (sup : Option ClassId) : Class where
  name := name
  kind := .ordinary
  loader := none
  accessFlags := 33
  super := sup
  interfaces := #[]
  cf := none
  fields := #[]
  methods := #[]
  instanceTypes := #[]
  staticTypes := #[]
  resolved := #[]
  callSites := []
  init := .initialized
  statics := none
  mirror := none

def pool0 : Array CpInfo := pool [(5, u "<init>"), (0, u "()V"), (1, .class_ 10), (1, u "java/lang/Object"), (0, u "getClass"), (0, u "()Ljava/lang/Class;")] 111

def k0c0 : Code := { maxStack := 0, maxLocals := 1, code := object_method_1_code, exceptionTable := #[], attributes := #[] }
def k0m0 : Method := { name := "<init>", desc := "()V", sig := { parameters := [], returnType := none }, accessFlags := 1, code := some k0c0 }
def k0m1 : Method := { name := "getClass", desc := "()Ljava/lang/Class;", sig := { parameters := [], returnType := some (.object "java/lang/Class") }, accessFlags := 273, code := none }
/-- java/lang/Object -/
def k0 : Class := { plain "java/lang/Object" none with
  accessFlags := 33
  interfaces := #[]
  cf := some (fileOf pool0 8 #[] #[{ accessFlags := 1, nameIndex := 5, descriptorIndex := 6, attributes := #[] }, { accessFlags := 273, nameIndex := 11, descriptorIndex := 12, attributes := #[] }] 33 0 #[] #[])
  fields := #[]
  methods := #[k0m0, k0m1]
  instanceTypes := #[]
  staticTypes := #[]
  resolved := Array.replicate 124 none
  statics := none }

def pool1 : Array CpInfo := pool [(2, .class_ 4), (0, .nameAndType 5 6), (0, u "java/lang/Object"), (0, u "<init>"), (0, u "()V"), (0, .integer 2147483647), (0, .class_ 9), (0, u "java/util/ArrayList"), (0, .methodref 8 3), (0, .methodref 12 13), (0, .class_ 14), (0, .nameAndType 15 16), (0, u "java/lang/Integer"), (0, u "valueOf"), (0, u "(I)Ljava/lang/Integer;"), (0, .methodref 8 18), (0, .nameAndType 19 20), (0, u "add"), (0, u "(Ljava/lang/Object;)Z"), (0, .class_ 22), (0, u "jakarta/faces/model/CollectionDataModel"), (0, .methodref 21 3), (0, .methodref 21 25), (0, .nameAndType 26 27), (0, u "getRowCount"), (0, u "()I"), (0, .methodref 21 29), (0, .nameAndType 30 31), (0, u "setWrappedData"), (0, u "(Ljava/lang/Object;)V"), (0, .methodref 21 33), (0, .nameAndType 34 35), (0, u "setRowIndex"), (0, u "(I)V"), (0, .class_ 37), (0, u "jakarta/faces/model/CollectionDataModelGetRowCountPinLaw"), (2, u "law"), (0, u "(IIIII)Z")] 3

def k1m0 : Method := { name := "<init>", desc := "()V", sig := { parameters := [], returnType := none }, accessFlags := 1, code := none }
def k1c1 : Code := { maxStack := 3, maxLocals := 10, code := code, exceptionTable := #[], attributes := #[] }
def k1m1 : Method := { name := "law", desc := "(IIIII)Z", sig := { parameters := [.int, .int, .int, .int, .int], returnType := some .boolean }, accessFlags := 9, code := some k1c1 }
/-- jakarta/faces/model/CollectionDataModelGetRowCountPinLaw -/
def k1 : Class := { plain "jakarta/faces/model/CollectionDataModelGetRowCountPinLaw" (some 0) with
  accessFlags := 49
  interfaces := #[]
  cf := some (fileOf pool1 36 #[] #[{ accessFlags := 1, nameIndex := 5, descriptorIndex := 6, attributes := #[] }, { accessFlags := 9, nameIndex := 40, descriptorIndex := 41, attributes := #[] }] 49 2 #[] #[])
  fields := #[]
  methods := #[k1m0, k1m1]
  instanceTypes := #[]
  staticTypes := #[]
  resolved := Array.replicate 45 none
  statics := none }

def pool2 : Array CpInfo := pool [(8, .class_ 10), (1, u "java/lang/Iterable"), (24, .class_ 36), (0, u "java/lang/Object")] 25

/-- java/lang/Iterable -/
def k2 : Class := { plain "java/lang/Iterable" (some 0) with
  accessFlags := 1537
  interfaces := #[]
  cf := some (fileOf pool2 8 #[] #[] 1537 35 #[] #[])
  fields := #[]
  methods := #[]
  instanceTypes := #[]
  staticTypes := #[]
  resolved := Array.replicate 62 none
  statics := none }

def pool3 : Array CpInfo := pool [(10, .class_ 12), (1, u "java/util/Collection"), (0, u "toArray"), (46, .class_ 61), (0, u "java/lang/Object"), (0, .class_ 63), (0, u "java/lang/Iterable"), (6, u "()[Ljava/lang/Object;")] 44

def k3m0 : Method := { name := "toArray", desc := "()[Ljava/lang/Object;", sig := { parameters := [], returnType := some (.array (.object "java/lang/Object")) }, accessFlags := 1025, code := none }
/-- java/util/Collection -/
def k3 : Class := { plain "java/util/Collection" (some 0) with
  accessFlags := 1537
  interfaces := #[2]
  cf := some (fileOf pool3 10 #[] #[{ accessFlags := 1025, nameIndex := 13, descriptorIndex := 70, attributes := #[] }] 1537 60 #[62] #[])
  fields := #[]
  methods := #[k3m0]
  instanceTypes := #[]
  staticTypes := #[]
  resolved := Array.replicate 115 none
  statics := none }

def pool4 : Array CpInfo := pool [(1, .methodref 2 3), (0, .class_ 4), (0, .nameAndType 5 6), (0, u "java/lang/Object"), (0, u "<init>"), (0, u "()V"), (1, .class_ 10), (1, u "java/util/AbstractCollection"), (66, .class_ 78), (0, u "java/util/Collection")] 81

def k4c0 : Code := { maxStack := 1, maxLocals := 1, code := jdk_22_method_1_code, exceptionTable := #[], attributes := #[] }
def k4m0 : Method := { name := "<init>", desc := "()V", sig := { parameters := [], returnType := none }, accessFlags := 4, code := some k4c0 }
/-- java/util/AbstractCollection -/
def k4 : Class := { plain "java/util/AbstractCollection" (some 0) with
  accessFlags := 1057
  interfaces := #[3]
  cf := some (fileOf pool4 8 #[] #[{ accessFlags := 4, nameIndex := 5, descriptorIndex := 6, attributes := #[] }] 1057 2 #[77] #[])
  fields := #[]
  methods := #[k4m0]
  instanceTypes := #[]
  staticTypes := #[]
  resolved := Array.replicate 160 none
  statics := none }

def pool5 : Array CpInfo := pool [(8, .class_ 10), (1, u "java/util/SequencedCollection"), (15, .class_ 27), (0, u "java/lang/Object"), (0, .class_ 29), (0, u "java/util/Collection")] 27

/-- java/util/SequencedCollection -/
def k5 : Class := { plain "java/util/SequencedCollection" (some 0) with
  accessFlags := 1537
  interfaces := #[3]
  cf := some (fileOf pool5 8 #[] #[] 1537 26 #[28] #[])
  fields := #[]
  methods := #[]
  instanceTypes := #[]
  staticTypes := #[]
  resolved := Array.replicate 57 none
  statics := none }

def pool6 : Array CpInfo := pool [(8, .class_ 10), (1, u "java/util/List"), (7, u "()Z"), (48, u "isEmpty"), (20, u "of"), (1, .fieldref 91 92), (0, .class_ 93), (0, .nameAndType 94 95), (0, u "java/util/ImmutableCollections"), (0, u "EMPTY_LIST"), (0, u "Ljava/util/ImmutableCollections$ListN;"), (7, .class_ 104), (0, u "java/lang/Object"), (14, u "()Ljava/util/List;"), (0, .class_ 121), (0, u "java/util/SequencedCollection")] 129

def k6m0 : Method := { name := "isEmpty", desc := "()Z", sig := { parameters := [], returnType := some .boolean }, accessFlags := 1025, code := none }
def k6c1 : Code := { maxStack := 1, maxLocals := 0, code := jdk_40_method_36_code, exceptionTable := #[], attributes := #[] }
def k6m1 : Method := { name := "of", desc := "()Ljava/util/List;", sig := { parameters := [], returnType := some (.object "java/util/List") }, accessFlags := 9, code := some k6c1 }
/-- java/util/List -/
def k6 : Class := { plain "java/util/List" (some 0) with
  accessFlags := 1537
  interfaces := #[5]
  cf := some (fileOf pool6 8 #[] #[{ accessFlags := 1025, nameIndex := 67, descriptorIndex := 18, attributes := #[] }, { accessFlags := 9, nameIndex := 88, descriptorIndex := 119, attributes := #[] }] 1537 103 #[120] #[])
  fields := #[]
  methods := #[k6m0, k6m1]
  instanceTypes := #[]
  staticTypes := #[]
  resolved := Array.replicate 251 none
  statics := none }

def pool7 : Array CpInfo := pool [(1, .methodref 2 3), (0, .class_ 4), (0, .nameAndType 5 6), (0, u "java/util/AbstractCollection"), (0, u "<init>"), (0, u "()V"), (0, .fieldref 8 9), (0, .class_ 10), (0, .nameAndType 11 12), (0, u "java/util/AbstractList"), (0, u "modCount"), (0, u "I"), (64, .class_ 78), (0, u "java/util/AbstractList$Itr"), (3, .class_ 83), (0, u "java/util/AbstractList$ListItr"), (9, .class_ 94), (0, u "java/util/AbstractList$RandomAccessSubList"), (3, .class_ 99), (0, u "java/util/AbstractList$SubList"), (33, .class_ 134), (0, u "java/util/List"), (73, .class_ 209), (0, u "java/util/AbstractList$SubList$1"), (0, .class_ 211), (0, u "java/util/AbstractList$RandomAccessSpliterator")] 6

def k7c0 : Code := { maxStack := 2, maxLocals := 1, code := jdk_39_method_1_code, exceptionTable := #[], attributes := #[] }
def k7m0 : Method := { name := "<init>", desc := "()V", sig := { parameters := [], returnType := none }, accessFlags := 4, code := some k7c0 }
/-- java/util/AbstractList -/
def k7 : Class := { plain "java/util/AbstractList" (some 4) with
  accessFlags := 1057
  interfaces := #[6]
  cf := some (fileOf pool7 8 #[.nestMembers #[93, 98, 208, 210, 82, 77]] #[{ accessFlags := 4, nameIndex := 5, descriptorIndex := 6, attributes := #[] }] 1057 2 #[133] #[{ accessFlags := 132, nameIndex := 11, descriptorIndex := 12, attributes := #[] }])
  fields := #[{ name := "modCount", type := .int, accessFlags := 132, slot := 0, constantValue := 0 }]
  methods := #[k7m0]
  instanceTypes := #[.int]
  staticTypes := #[]
  resolved := Array.replicate 218 none
  statics := none }

def pool8 : Array CpInfo := pool [(1, .class_ 2), (0, u "java/util/RandomAccess"), (0, .class_ 4), (0, u "java/lang/Object")] 2

/-- java/util/RandomAccess -/
def k8 : Class := { plain "java/util/RandomAccess" (some 0) with
  accessFlags := 1537
  interfaces := #[]
  cf := some (fileOf pool8 1 #[] #[] 1537 3 #[] #[])
  fields := #[]
  methods := #[]
  instanceTypes := #[]
  staticTypes := #[]
  resolved := Array.replicate 7 none
  statics := none }

def pool9 : Array CpInfo := pool [(1, .class_ 2), (0, u "java/lang/Cloneable"), (0, .class_ 4), (0, u "java/lang/Object")] 2

/-- java/lang/Cloneable -/
def k9 : Class := { plain "java/lang/Cloneable" (some 0) with
  accessFlags := 1537
  interfaces := #[]
  cf := some (fileOf pool9 1 #[] #[] 1537 3 #[] #[])
  fields := #[]
  methods := #[]
  instanceTypes := #[]
  staticTypes := #[]
  resolved := Array.replicate 7 none
  statics := none }

def pool10 : Array CpInfo := pool [(1, .class_ 2), (0, u "java/io/Serializable"), (0, .class_ 4), (0, u "java/lang/Object")] 2

/-- java/io/Serializable -/
def k10 : Class := { plain "java/io/Serializable" (some 0) with
  accessFlags := 1537
  interfaces := #[]
  cf := some (fileOf pool10 1 #[] #[] 1537 3 #[] #[])
  fields := #[]
  methods := #[]
  instanceTypes := #[]
  staticTypes := #[]
  resolved := Array.replicate 7 none
  statics := none }

def pool11 : Array CpInfo := pool [(1, .methodref 2 3), (0, .class_ 4), (0, .nameAndType 5 6), (0, u "java/util/AbstractList"), (0, u "<init>"), (0, u "()V"), (0, .class_ 8), (0, u "java/lang/Object"), (0, .fieldref 10 11), (0, .class_ 12), (0, .nameAndType 13 14), (0, u "java/util/ArrayList"), (0, u "elementData"), (0, u "[Ljava/lang/Object;"), (2, u "EMPTY_ELEMENTDATA"), (21, .fieldref 10 40), (0, .nameAndType 41 14), (0, u "DEFAULTCAPACITY_EMPTY_ELEMENTDATA"), (4, u "toArray"), (0, u "()[Ljava/lang/Object;"), (0, .fieldref 10 49), (0, .nameAndType 50 51), (0, u "size"), (0, u "I"), (6, .class_ 60), (1, u "java/util/Arrays"), (0, u "copyOf"), (1, .fieldref 10 64), (0, .nameAndType 65 51), (0, u "modCount"), (0, .methodref 58 67), (0, .nameAndType 61 68), (0, u "([Ljava/lang/Object;I)[Ljava/lang/Object;"), (0, .methodref 10 70), (0, .nameAndType 71 72), (0, u "grow"), (0, u "(I)[Ljava/lang/Object;"), (6, .methodref 80 81), (0, .class_ 82), (0, .nameAndType 83 84), (0, u "java/lang/Math"), (0, u "max"), (0, u "(II)I"), (11, u "(Ljava/lang/Object;)Z"), (32, .methodref 10 130), (0, .nameAndType 71 47), (0, .methodref 10 132), (0, .nameAndType 133 134), (0, u "add"), (0, u "(Ljava/lang/Object;[Ljava/lang/Object;I)V"), (13, .class_ 149), (0, u "java/util/List"), (112, .class_ 263), (0, u "java/util/ArrayList$ListItr"), (3, .class_ 268), (0, u "java/util/ArrayList$Itr"), (7, .class_ 277), (0, u "java/util/ArrayList$SubList"), (12, .class_ 291), (0, u "java/util/ArrayList$ArrayListSpliterator"), (37, .class_ 330), (0, u "java/util/RandomAccess"), (0, .class_ 332), (0, u "java/lang/Cloneable"), (0, .class_ 334), (0, u "java/io/Serializable"), (0, u "serialVersionUID"), (0, u "J"), (3, u "DEFAULT_CAPACITY"), (159, .class_ 501), (0, u "java/util/ArrayList$SubList$2"), (0, .class_ 503), (0, u "java/util/ArrayList$SubList$1")] 5

def k11c0 : Code := { maxStack := 2, maxLocals := 1, code := jdk_38_method_2_code, exceptionTable := #[], attributes := #[] }
def k11m0 : Method := { name := "<init>", desc := "()V", sig := { parameters := [], returnType := none }, accessFlags := 1, code := some k11c0 }
def k11c1 : Code := { maxStack := 4, maxLocals := 4, code := jdk_38_method_6_code, exceptionTable := #[], attributes := #[] }
def k11m1 : Method := { name := "grow", desc := "(I)[Ljava/lang/Object;", sig := { parameters := [.int], returnType := some (.array (.object "java/lang/Object")) }, accessFlags := 2, code := some k11c1 }
def k11c2 : Code := { maxStack := 3, maxLocals := 1, code := jdk_38_method_7_code, exceptionTable := #[], attributes := #[] }
def k11m2 : Method := { name := "grow", desc := "()[Ljava/lang/Object;", sig := { parameters := [], returnType := some (.array (.object "java/lang/Object")) }, accessFlags := 2, code := some k11c2 }
def k11c3 : Code := { maxStack := 2, maxLocals := 1, code := jdk_38_method_16_code, exceptionTable := #[], attributes := #[] }
def k11m3 : Method := { name := "toArray", desc := "()[Ljava/lang/Object;", sig := { parameters := [], returnType := some (.array (.object "java/lang/Object")) }, accessFlags := 1, code := some k11c3 }
def k11c4 : Code := { maxStack := 3, maxLocals := 4, code := jdk_38_method_24_code, exceptionTable := #[], attributes := #[] }
def k11m4 : Method := { name := "add", desc := "(Ljava/lang/Object;[Ljava/lang/Object;I)V", sig := { parameters := [(.object "java/lang/Object"), (.array (.object "java/lang/Object")), .int], returnType := none }, accessFlags := 2, code := some k11c4 }
def k11c5 : Code := { maxStack := 4, maxLocals := 2, code := jdk_38_method_25_code, exceptionTable := #[], attributes := #[] }
def k11m5 : Method := { name := "add", desc := "(Ljava/lang/Object;)Z", sig := { parameters := [(.object "java/lang/Object")], returnType := some .boolean }, accessFlags := 1, code := some k11c5 }
/-- java/util/ArrayList -/
def k11 : Class := { plain "java/util/ArrayList" (some 7) with
  accessFlags := 33
  interfaces := #[6, 8, 9, 10]
  cf := some (fileOf pool11 10 #[.nestMembers #[290, 276, 500, 502, 262, 267]] #[{ accessFlags := 1, nameIndex := 5, descriptorIndex := 6, attributes := #[] }, { accessFlags := 2, nameIndex := 71, descriptorIndex := 72, attributes := #[] }, { accessFlags := 2, nameIndex := 71, descriptorIndex := 47, attributes := #[] }, { accessFlags := 1, nameIndex := 46, descriptorIndex := 47, attributes := #[] }, { accessFlags := 2, nameIndex := 133, descriptorIndex := 134, attributes := #[] }, { accessFlags := 1, nameIndex := 133, descriptorIndex := 96, attributes := #[] }] 33 2 #[148, 329, 331, 333] #[{ accessFlags := 26, nameIndex := 335, descriptorIndex := 336, attributes := #[] }, { accessFlags := 26, nameIndex := 340, descriptorIndex := 51, attributes := #[] }, { accessFlags := 26, nameIndex := 17, descriptorIndex := 14, attributes := #[] }, { accessFlags := 26, nameIndex := 41, descriptorIndex := 14, attributes := #[] }, { accessFlags := 128, nameIndex := 13, descriptorIndex := 14, attributes := #[] }, { accessFlags := 2, nameIndex := 50, descriptorIndex := 51, attributes := #[] }])
  fields := #[{ name := "serialVersionUID", type := .long, accessFlags := 26, slot := 0, constantValue := 0 }, { name := "DEFAULT_CAPACITY", type := .int, accessFlags := 26, slot := 1, constantValue := 0 }, { name := "EMPTY_ELEMENTDATA", type := (.array (.object "java/lang/Object")), accessFlags := 26, slot := 2, constantValue := 0 }, { name := "DEFAULTCAPACITY_EMPTY_ELEMENTDATA", type := (.array (.object "java/lang/Object")), accessFlags := 26, slot := 3, constantValue := 0 }, { name := "elementData", type := (.array (.object "java/lang/Object")), accessFlags := 128, slot := 1, constantValue := 0 }, { name := "size", type := .int, accessFlags := 2, slot := 2, constantValue := 0 }]
  methods := #[k11m0, k11m1, k11m2, k11m3, k11m4, k11m5]
  instanceTypes := #[.int, (.array (.object "java/lang/Object")), .int]
  staticTypes := #[.long, .int, (.array (.object "java/lang/Object")), (.array (.object "java/lang/Object"))]
  resolved := Array.replicate 509 none
  statics := some 0 }

def pool12 : Array CpInfo := pool [(1, .methodref 2 3), (0, .class_ 4), (0, .nameAndType 5 6), (0, u "java/lang/Object"), (0, u "<init>"), (0, u "()V"), (0, .interfaceMethodref 8 9), (0, .class_ 10), (0, .nameAndType 11 12), (0, u "java/util/List"), (0, u "of"), (0, u "()Ljava/util/List;"), (0, .fieldref 14 15), (0, .class_ 16), (0, .nameAndType 17 18), (0, u "jakarta/faces/model/DataModel"), (0, u "listeners"), (0, u "Ljava/util/List;"), (0, .fieldref 14 20), (0, .nameAndType 21 22), (0, u "index"), (0, u "I"), (8, .interfaceMethodref 8 32), (0, .nameAndType 33 34), (0, u "isEmpty"), (0, u "()Z"), (18, .class_ 54), (0, u "jakarta/faces/model/DataModel$1"), (45, .class_ 101), (0, u "java/lang/Iterable"), (20, u "selectRow"), (0, u "(IZ)V"), (1, u "clearRow")] 21

def k12c0 : Code := { maxStack := 2, maxLocals := 1, code := prog_42_method_1_code, exceptionTable := #[], attributes := #[] }
def k12m0 : Method := { name := "<init>", desc := "()V", sig := { parameters := [], returnType := none }, accessFlags := 1, code := some k12c0 }
def k12c1 : Code := { maxStack := 5, maxLocals := 7, code := prog_42_method_14_code, exceptionTable := #[], attributes := #[] }
def k12m1 : Method := { name := "selectRow", desc := "(IZ)V", sig := { parameters := [.int, .boolean], returnType := none }, accessFlags := 16, code := some k12c1 }
def k12c2 : Code := { maxStack := 2, maxLocals := 1, code := prog_42_method_16_code, exceptionTable := #[], attributes := #[] }
def k12m2 : Method := { name := "clearRow", desc := "()V", sig := { parameters := [], returnType := none }, accessFlags := 16, code := some k12c2 }
/-- jakarta/faces/model/DataModel -/
def k12 : Class := { plain "jakarta/faces/model/DataModel" (some 0) with
  accessFlags := 1057
  interfaces := #[2]
  cf := some (fileOf pool12 14 #[.nestMembers #[53]] #[{ accessFlags := 1, nameIndex := 5, descriptorIndex := 6, attributes := #[] }, { accessFlags := 16, nameIndex := 122, descriptorIndex := 123, attributes := #[] }, { accessFlags := 16, nameIndex := 125, descriptorIndex := 6, attributes := #[] }] 1057 2 #[100] #[{ accessFlags := 2, nameIndex := 17, descriptorIndex := 18, attributes := #[] }, { accessFlags := 2, nameIndex := 21, descriptorIndex := 22, attributes := #[] }])
  fields := #[{ name := "listeners", type := (.object "java/util/List"), accessFlags := 2, slot := 0, constantValue := 0 }, { name := "index", type := .int, accessFlags := 2, slot := 1, constantValue := 0 }]
  methods := #[k12m0, k12m1, k12m2]
  instanceTypes := #[(.object "java/util/List"), .int]
  staticTypes := #[]
  resolved := Array.replicate 147 none
  statics := none }

def pool13 : Array CpInfo := pool [(1, .methodref 2 3), (0, .class_ 4), (0, .nameAndType 5 6), (0, u "jakarta/faces/model/DataModel"), (0, u "<init>"), (0, u "()V"), (1, .class_ 10), (1, u "jakarta/faces/model/CollectionDataModel"), (0, u "setWrappedData"), (0, u "(Ljava/lang/Object;)V"), (0, .fieldref 8 14), (0, .nameAndType 15 16), (0, u "collection"), (0, u "Ljava/util/Collection;"), (0, .fieldref 8 18), (0, .nameAndType 19 20), (0, u "elements"), (0, u "[Ljava/lang/Object;"), (6, u "()I"), (4, .methodref 8 33), (0, .nameAndType 34 35), (0, u "selectRow"), (0, u "(IZ)V"), (0, .class_ 37), (0, u "java/util/Collection"), (0, .interfaceMethodref 36 39), (0, .nameAndType 40 41), (0, u "toArray"), (0, u "()[Ljava/lang/Object;"), (0, .methodref 8 43), (0, .nameAndType 44 6), (0, u "clearRow"), (6, u "getRowCount"), (10, u "setRowIndex"), (0, u "(I)V")] 5

def k13c0 : Code := { maxStack := 1, maxLocals := 1, code := prog_40_method_1_code, exceptionTable := #[], attributes := #[] }
def k13m0 : Method := { name := "<init>", desc := "()V", sig := { parameters := [], returnType := none }, accessFlags := 1, code := some k13c0 }
def k13c1 : Code := { maxStack := 1, maxLocals := 1, code := prog_40_method_3_code, exceptionTable := #[], attributes := #[] }
def k13m1 : Method := { name := "getRowCount", desc := "()I", sig := { parameters := [], returnType := some .int }, accessFlags := 1, code := some k13c1 }
def k13c2 : Code := { maxStack := 3, maxLocals := 2, code := prog_40_method_8_code, exceptionTable := #[], attributes := #[] }
def k13m2 : Method := { name := "setRowIndex", desc := "(I)V", sig := { parameters := [.int], returnType := none }, accessFlags := 1, code := some k13c2 }
def k13c3 : Code := { maxStack := 3, maxLocals := 3, code := prog_40_method_9_code, exceptionTable := #[], attributes := #[] }
def k13m3 : Method := { name := "setWrappedData", desc := "(Ljava/lang/Object;)V", sig := { parameters := [(.object "java/lang/Object")], returnType := none }, accessFlags := 1, code := some k13c3 }
/-- jakarta/faces/model/CollectionDataModel -/
def k13 : Class := { plain "jakarta/faces/model/CollectionDataModel" (some 12) with
  accessFlags := 33
  interfaces := #[]
  cf := some (fileOf pool13 8 #[] #[{ accessFlags := 1, nameIndex := 5, descriptorIndex := 6, attributes := #[] }, { accessFlags := 1, nameIndex := 51, descriptorIndex := 27, attributes := #[] }, { accessFlags := 1, nameIndex := 62, descriptorIndex := 63, attributes := #[] }, { accessFlags := 1, nameIndex := 11, descriptorIndex := 12, attributes := #[] }] 33 2 #[] #[{ accessFlags := 2, nameIndex := 15, descriptorIndex := 16, attributes := #[] }, { accessFlags := 2, nameIndex := 19, descriptorIndex := 20, attributes := #[] }])
  fields := #[{ name := "collection", type := (.object "java/util/Collection"), accessFlags := 2, slot := 2, constantValue := 0 }, { name := "elements", type := (.array (.object "java/lang/Object")), accessFlags := 2, slot := 3, constantValue := 0 }]
  methods := #[k13m0, k13m1, k13m2, k13m3]
  instanceTypes := #[(.object "java/util/List"), .int, (.object "java/util/Collection"), (.array (.object "java/lang/Object"))]
  staticTypes := #[]
  resolved := Array.replicate 69 none
  statics := none }

def pool14 : Array CpInfo := pool [(2, .class_ 4), (1, u "java/lang/Object"), (0, u "<init>"), (0, u "()V"), (3, .class_ 11), (0, u "java/util/ImmutableCollections$List12"), (0, .class_ 13), (0, u "java/util/ImmutableCollections$ListN"), (3, u "Z"), (29, .class_ 49), (1, u "java/util/ImmutableCollections"), (0, u "$assertionsDisabled"), (5, u "[Ljava/lang/Object;"), (5, u "EMPTY_LIST"), (0, u "Ljava/util/ImmutableCollections$ListN;"), (8, u "EMPTY_LIST_NULLS"), (22, u "SALT32L"), (0, u "J"), (2, u "REVERSE"), (6, u "archivedObjects"), (2, u "EMPTY"), (0, u "Ljava/lang/Object;"), (0, .class_ 112), (0, u "java/util/ImmutableCollections$SetN"), (5, u "EMPTY_SET"), (0, u "Ljava/util/ImmutableCollections$SetN;"), (0, .class_ 121), (0, u "java/util/ImmutableCollections$MapN"), (3, u "EMPTY_MAP"), (0, u "Ljava/util/ImmutableCollections$MapN;"), (4, u "EXPAND_FACTOR"), (0, u "I"), (36, .class_ 170), (0, u "java/util/ImmutableCollections$MapN$MapNIterator"), (0, .class_ 172), (0, u "java/util/ImmutableCollections$MapN$1"), (0, .class_ 174), (0, u "java/util/ImmutableCollections$Map1"), (0, .class_ 176), (0, u "java/util/ImmutableCollections$AbstractImmutableMap"), (0, .class_ 178), (0, u "java/util/ImmutableCollections$SetN$SetNIterator"), (0, .class_ 180), (0, u "java/util/ImmutableCollections$Set12"), (0, .class_ 182), (0, u "java/util/ImmutableCollections$Set12$1"), (0, .class_ 184), (0, u "java/util/ImmutableCollections$AbstractImmutableSet"), (0, .class_ 186), (0, u "java/util/ImmutableCollections$SubList"), (0, .class_ 188), (0, u "java/util/ImmutableCollections$ListItr"), (0, .class_ 190), (0, u "java/util/ImmutableCollections$AbstractImmutableList"), (0, .class_ 192), (0, u "java/util/ImmutableCollections$AbstractImmutableCollection"), (0, .class_ 194), (0, u "java/util/ImmutableCollections$Access"), (0, .class_ 196), (0, u "java/util/ImmutableCollections$Access$1")] 16

def k14m0 : Method := { name := "<init>", desc := "()V", sig := { parameters := [], returnType := none }, accessFlags := 2, code := none }
/-- java/util/ImmutableCollections -/
def k14 : Class := { plain "java/util/ImmutableCollections" (some 0) with
  accessFlags := 32
  interfaces := #[]
  cf := some (fileOf pool14 47 #[.nestMembers #[120, 169, 171, 173, 175, 111, 177, 179, 181, 183, 12, 10, 185, 187, 189, 191, 193, 195]] #[{ accessFlags := 2, nameIndex := 5, descriptorIndex := 6, attributes := #[] }] 32 2 #[] #[{ accessFlags := 26, nameIndex := 95, descriptorIndex := 96, attributes := #[] }, { accessFlags := 26, nameIndex := 99, descriptorIndex := 17, attributes := #[] }, { accessFlags := 10, nameIndex := 106, descriptorIndex := 56, attributes := #[] }, { accessFlags := 26, nameIndex := 109, descriptorIndex := 110, attributes := #[] }, { accessFlags := 24, nameIndex := 62, descriptorIndex := 63, attributes := #[] }, { accessFlags := 24, nameIndex := 72, descriptorIndex := 63, attributes := #[] }, { accessFlags := 24, nameIndex := 118, descriptorIndex := 119, attributes := #[] }, { accessFlags := 24, nameIndex := 125, descriptorIndex := 126, attributes := #[] }, { accessFlags := 24, nameIndex := 131, descriptorIndex := 132, attributes := #[] }, { accessFlags := 4120, nameIndex := 50, descriptorIndex := 17, attributes := #[] }])
  fields := #[{ name := "SALT32L", type := .long, accessFlags := 26, slot := 0, constantValue := 0 }, { name := "REVERSE", type := .boolean, accessFlags := 26, slot := 1, constantValue := 0 }, { name := "archivedObjects", type := (.array (.object "java/lang/Object")), accessFlags := 10, slot := 2, constantValue := 0 }, { name := "EMPTY", type := (.object "java/lang/Object"), accessFlags := 26, slot := 3, constantValue := 0 }, { name := "EMPTY_LIST", type := (.object "java/util/ImmutableCollections$ListN"), accessFlags := 24, slot := 4, constantValue := 0 }, { name := "EMPTY_LIST_NULLS", type := (.object "java/util/ImmutableCollections$ListN"), accessFlags := 24, slot := 5, constantValue := 0 }, { name := "EMPTY_SET", type := (.object "java/util/ImmutableCollections$SetN"), accessFlags := 24, slot := 6, constantValue := 0 }, { name := "EMPTY_MAP", type := (.object "java/util/ImmutableCollections$MapN"), accessFlags := 24, slot := 7, constantValue := 0 }, { name := "EXPAND_FACTOR", type := .int, accessFlags := 24, slot := 8, constantValue := 0 }, { name := "$assertionsDisabled", type := .boolean, accessFlags := 4120, slot := 9, constantValue := 0 }]
  methods := #[k14m0]
  instanceTypes := #[]
  staticTypes := #[.long, .boolean, (.array (.object "java/lang/Object")), (.object "java/lang/Object"), (.object "java/util/ImmutableCollections$ListN"), (.object "java/util/ImmutableCollections$ListN"), (.object "java/util/ImmutableCollections$SetN"), (.object "java/util/ImmutableCollections$MapN"), .int, .boolean]
  resolved := Array.replicate 213 none
  statics := some 1 }

def pool15 : Array CpInfo := pool [(2, .class_ 4), (1, u "java/lang/Object"), (0, u "<init>"), (0, u "()V"), (7, .class_ 16), (1, u "java/util/Arrays"), (57, .class_ 76), (1, u "java/util/Arrays$NaturalOrder"), (9, .methodref 2 87), (0, .nameAndType 88 89), (0, u "getClass"), (0, u "()Ljava/lang/Class;"), (20, .class_ 111), (0, u "[Ljava/lang/Object;"), (1, .class_ 115), (1, u "java/util/Arrays$LegacyMergeSort"), (1, u "Z"), (32, .methodref 151 152), (0, .class_ 153), (0, .nameAndType 154 155), (0, u "java/lang/System"), (0, u "arraycopy"), (0, u "(Ljava/lang/Object;ILjava/lang/Object;II)V"), (144, .methodref 14 301), (0, .nameAndType 302 303), (0, u "copyOf"), (0, u "([Ljava/lang/Object;ILjava/lang/Class;)[Ljava/lang/Object;"), (0, .methodref 305 306), (0, .class_ 307), (0, .nameAndType 308 309), (0, u "java/lang/Math"), (0, u "min"), (0, u "(II)I"), (65, .class_ 376), (0, u "java/util/Arrays$ArrayList"), (68, u "$assertionsDisabled"), (269, u "MIN_ARRAY_SORT_GRAN"), (0, u "I"), (2, u "INSERTIONSORT_THRESHOLD"), (140, u "([Ljava/lang/Object;I)[Ljava/lang/Object;"), (114, .class_ 976), (0, u "java/util/Arrays$ArrayItr")] 52

def k15m0 : Method := { name := "<init>", desc := "()V", sig := { parameters := [], returnType := none }, accessFlags := 2, code := none }
def k15c1 : Code := { maxStack := 3, maxLocals := 2, code := jdk_65_method_119_code, exceptionTable := #[], attributes := #[] }
def k15m1 : Method := { name := "copyOf", desc := "([Ljava/lang/Object;I)[Ljava/lang/Object;", sig := { parameters := [(.array (.object "java/lang/Object")), .int], returnType := some (.array (.object "java/lang/Object")) }, accessFlags := 9, code := some k15c1 }
def k15c2 : Code := { maxStack := 6, maxLocals := 4, code := jdk_65_method_120_code, exceptionTable := #[], attributes := #[] }
def k15m2 : Method := { name := "copyOf", desc := "([Ljava/lang/Object;ILjava/lang/Class;)[Ljava/lang/Object;", sig := { parameters := [(.array (.object "java/lang/Object")), .int, (.object "java/lang/Class")], returnType := some (.array (.object "java/lang/Object")) }, accessFlags := 9, code := some k15c2 }
/-- java/util/Arrays -/
def k15 : Class := { plain "java/util/Arrays" (some 0) with
  accessFlags := 49
  interfaces := #[]
  cf := some (fileOf pool15 14 #[.nestMembers #[975, 375, 113, 74]] #[{ accessFlags := 2, nameIndex := 5, descriptorIndex := 6, attributes := #[] }, { accessFlags := 9, nameIndex := 302, descriptorIndex := 860, attributes := #[] }, { accessFlags := 9, nameIndex := 302, descriptorIndex := 303, attributes := #[] }] 49 2 #[] #[{ accessFlags := 26, nameIndex := 715, descriptorIndex := 716, attributes := #[] }, { accessFlags := 26, nameIndex := 719, descriptorIndex := 716, attributes := #[] }, { accessFlags := 4120, nameIndex := 445, descriptorIndex := 117, attributes := #[] }])
  fields := #[{ name := "MIN_ARRAY_SORT_GRAN", type := .int, accessFlags := 26, slot := 0, constantValue := 0 }, { name := "INSERTIONSORT_THRESHOLD", type := .int, accessFlags := 26, slot := 1, constantValue := 0 }, { name := "$assertionsDisabled", type := .boolean, accessFlags := 4120, slot := 2, constantValue := 0 }]
  methods := #[k15m0, k15m1, k15m2]
  instanceTypes := #[]
  staticTypes := #[.int, .int, .boolean]
  resolved := Array.replicate 1029 none
  statics := none }

def pool16 : Array CpInfo := pool [(1, .class_ 2), (0, u "java/lang/Math"), (1, .class_ 6), (1, u "java/lang/Object"), (0, u "<init>"), (0, u "()V"), (89, .class_ 100), (1, u "java/lang/Math$RandomNumberGeneratorHolder"), (71, u "negativeZeroFloatBits"), (0, u "J"), (2, u "negativeZeroDoubleBits"), (21, u "max"), (2, u "min"), (43, u "$assertionsDisabled"), (0, u "Z"), (88, u "(II)I"), (2, u "twoToTheDoubleScaleDown"), (0, u "D"), (4, u "twoToTheDoubleScaleUp"), (9, u "E"), (3, u "PI"), (2, u "TAU"), (2, u "DEGREES_TO_RADIANS"), (0, u "RADIANS_TO_DEGREES")] 94

def k16m0 : Method := { name := "<init>", desc := "()V", sig := { parameters := [], returnType := none }, accessFlags := 2, code := none }
def k16c1 : Code := { maxStack := 2, maxLocals := 2, code := jdk_29_method_65_code, exceptionTable := #[], attributes := #[] }
def k16m1 : Method := { name := "max", desc := "(II)I", sig := { parameters := [.int, .int], returnType := some .int }, accessFlags := 9, code := some k16c1 }
def k16c2 : Code := { maxStack := 2, maxLocals := 2, code := jdk_29_method_69_code, exceptionTable := #[], attributes := #[] }
def k16m2 : Method := { name := "min", desc := "(II)I", sig := { parameters := [.int, .int], returnType := some .int }, accessFlags := 9, code := some k16c2 }
/-- java/lang/Math -/
def k16 : Class := { plain "java/lang/Math" (some 0) with
  accessFlags := 49
  interfaces := #[]
  cf := some (fileOf pool16 1 #[.nestMembers #[98]] #[{ accessFlags := 2, nameIndex := 7, descriptorIndex := 8, attributes := #[] }, { accessFlags := 9, nameIndex := 198, descriptorIndex := 335, attributes := #[] }, { accessFlags := 9, nameIndex := 201, descriptorIndex := 335, attributes := #[] }] 49 4 #[] #[{ accessFlags := 25, nameIndex := 354, descriptorIndex := 339, attributes := #[] }, { accessFlags := 25, nameIndex := 358, descriptorIndex := 339, attributes := #[] }, { accessFlags := 25, nameIndex := 361, descriptorIndex := 339, attributes := #[] }, { accessFlags := 26, nameIndex := 364, descriptorIndex := 339, attributes := #[] }, { accessFlags := 26, nameIndex := 365, descriptorIndex := 339, attributes := #[] }, { accessFlags := 26, nameIndex := 172, descriptorIndex := 173, attributes := #[] }, { accessFlags := 26, nameIndex := 176, descriptorIndex := 173, attributes := #[] }, { accessFlags := 8, nameIndex := 344, descriptorIndex := 339, attributes := #[] }, { accessFlags := 8, nameIndex := 338, descriptorIndex := 339, attributes := #[] }, { accessFlags := 4120, nameIndex := 245, descriptorIndex := 246, attributes := #[] }])
  fields := #[{ name := "E", type := .double, accessFlags := 25, slot := 0, constantValue := 0 }, { name := "PI", type := .double, accessFlags := 25, slot := 1, constantValue := 0 }, { name := "TAU", type := .double, accessFlags := 25, slot := 2, constantValue := 0 }, { name := "DEGREES_TO_RADIANS", type := .double, accessFlags := 26, slot := 3, constantValue := 0 }, { name := "RADIANS_TO_DEGREES", type := .double, accessFlags := 26, slot := 4, constantValue := 0 }, { name := "negativeZeroFloatBits", type := .long, accessFlags := 26, slot := 5, constantValue := 0 }, { name := "negativeZeroDoubleBits", type := .long, accessFlags := 26, slot := 6, constantValue := 0 }, { name := "twoToTheDoubleScaleUp", type := .double, accessFlags := 8, slot := 7, constantValue := 0 }, { name := "twoToTheDoubleScaleDown", type := .double, accessFlags := 8, slot := 8, constantValue := 0 }, { name := "$assertionsDisabled", type := .boolean, accessFlags := 4120, slot := 9, constantValue := 0 }]
  methods := #[k16m0, k16m1, k16m2]
  instanceTypes := #[]
  staticTypes := #[.double, .double, .double, .double, .double, .long, .long, .double, .double, .boolean]
  resolved := Array.replicate 460 none
  statics := none }

def pool17 : Array CpInfo := pool [(2, .class_ 4), (1, u "java/lang/Object"), (0, u "<init>"), (0, u "()V"), (1, .class_ 10), (1, u "java/lang/System"), (0, u "allowSecurityManager"), (0, u "I"), (16, u "cons"), (0, u "Ljava/io/Console;"), (77, .class_ 110), (1, u "java/lang/System$CallersHolder"), (43, u "initialErrStream"), (0, u "Ljava/io/PrintStream;"), (19, u "security"), (0, u "Ljava/lang/SecurityManager;"), (31, .class_ 209), (0, u "java/lang/System$1"), (7, u "props"), (0, u "Ljava/util/Properties;"), (2, u "lineSeparator"), (0, u "Ljava/lang/String;"), (96, .class_ 321), (1, u "java/lang/System$LoggerFinder"), (5, .class_ 328), (0, u "java/lang/System$Logger"), (67, u "err"), (2, u "out"), (91, u "notSupportedJnuEncoding"), (15, u "in"), (17, u "initialIn"), (0, u "Ljava/io/InputStream;"), (35, u "bootLayer"), (0, u "Ljava/lang/ModuleLayer;"), (99, .class_ 664), (0, u "java/lang/System$2"), (9, u "NEVER"), (2, u "MAYBE"), (49, u "arraycopy"), (0, u "(Ljava/lang/Object;ILjava/lang/Object;II)V"), (72, .class_ 802), (0, u "java/lang/System$Logger$Level")] 31

def k17m0 : Method := { name := "<init>", desc := "()V", sig := { parameters := [], returnType := none }, accessFlags := 2, code := none }
def k17m1 : Method := { name := "arraycopy", desc := "(Ljava/lang/Object;ILjava/lang/Object;II)V", sig := { parameters := [(.object "java/lang/Object"), .int, (.object "java/lang/Object"), .int, .int], returnType := none }, accessFlags := 265, code := none }
/-- java/lang/System -/
def k17 : Class := { plain "java/lang/System" (some 0) with
  accessFlags := 49
  interfaces := #[]
  cf := some (fileOf pool17 8 #[.nestMembers #[319, 327, 801, 108, 663, 208]] #[{ accessFlags := 2, nameIndex := 5, descriptorIndex := 6, attributes := #[] }, { accessFlags := 265, nameIndex := 727, descriptorIndex := 728, attributes := #[] }] 49 2 #[] #[{ accessFlags := 25, nameIndex := 507, descriptorIndex := 526, attributes := #[] }, { accessFlags := 25, nameIndex := 399, descriptorIndex := 155, attributes := #[] }, { accessFlags := 25, nameIndex := 396, descriptorIndex := 155, attributes := #[] }, { accessFlags := 10, nameIndex := 525, descriptorIndex := 526, attributes := #[] }, { accessFlags := 26, nameIndex := 674, descriptorIndex := 12, attributes := #[] }, { accessFlags := 26, nameIndex := 677, descriptorIndex := 12, attributes := #[] }, { accessFlags := 10, nameIndex := 11, descriptorIndex := 12, attributes := #[] }, { accessFlags := 74, nameIndex := 175, descriptorIndex := 176, attributes := #[] }, { accessFlags := 10, nameIndex := 491, descriptorIndex := 222, attributes := #[] }, { accessFlags := 74, nameIndex := 29, descriptorIndex := 30, attributes := #[] }, { accessFlags := 74, nameIndex := 154, descriptorIndex := 155, attributes := #[] }, { accessFlags := 10, nameIndex := 217, descriptorIndex := 218, attributes := #[] }, { accessFlags := 10, nameIndex := 221, descriptorIndex := 222, attributes := #[] }, { accessFlags := 8, nameIndex := 562, descriptorIndex := 563, attributes := #[] }])
  fields := #[{ name := "in", type := (.object "java/io/InputStream"), accessFlags := 25, slot := 0, constantValue := 0 }, { name := "out", type := (.object "java/io/PrintStream"), accessFlags := 25, slot := 1, constantValue := 0 }, { name := "err", type := (.object "java/io/PrintStream"), accessFlags := 25, slot := 2, constantValue := 0 }, { name := "initialIn", type := (.object "java/io/InputStream"), accessFlags := 10, slot := 3, constantValue := 0 }, { name := "NEVER", type := .int, accessFlags := 26, slot := 4, constantValue := 0 }, { name := "MAYBE", type := .int, accessFlags := 26, slot := 5, constantValue := 0 }, { name := "allowSecurityManager", type := .int, accessFlags := 10, slot := 6, constantValue := 0 }, { name := "security", type := (.object "java/lang/SecurityManager"), accessFlags := 74, slot := 7, constantValue := 0 }, { name := "notSupportedJnuEncoding", type := (.object "java/lang/String"), accessFlags := 10, slot := 8, constantValue := 0 }, { name := "cons", type := (.object "java/io/Console"), accessFlags := 74, slot := 9, constantValue := 0 }, { name := "initialErrStream", type := (.object "java/io/PrintStream"), accessFlags := 74, slot := 10, constantValue := 0 }, { name := "props", type := (.object "java/util/Properties"), accessFlags := 10, slot := 11, constantValue := 0 }, { name := "lineSeparator", type := (.object "java/lang/String"), accessFlags := 10, slot := 12, constantValue := 0 }, { name := "bootLayer", type := (.object "java/lang/ModuleLayer"), accessFlags := 8, slot := 13, constantValue := 0 }]
  methods := #[k17m0, k17m1]
  instanceTypes := #[]
  staticTypes := #[(.object "java/io/InputStream"), (.object "java/io/PrintStream"), (.object "java/io/PrintStream"), (.object "java/io/InputStream"), .int, .int, .int, (.object "java/lang/SecurityManager"), (.object "java/lang/String"), (.object "java/io/Console"), (.object "java/io/PrintStream"), (.object "java/util/Properties"), (.object "java/lang/String"), (.object "java/lang/ModuleLayer")]
  resolved := Array.replicate 834 none
  statics := none }

def pool18 : Array CpInfo := pool [(2, .class_ 4), (1, u "java/util/AbstractCollection"), (0, u "<init>"), (0, u "()V"), (1, .class_ 10), (1, u "java/util/ImmutableCollections"), (2, .class_ 14), (0, u "java/util/ImmutableCollections$AbstractImmutableCollection")] 41

def k18m0 : Method := { name := "<init>", desc := "()V", sig := { parameters := [], returnType := none }, accessFlags := 0, code := none }
/-- java/util/ImmutableCollections$AbstractImmutableCollection -/
def k18 : Class := { plain "java/util/ImmutableCollections$AbstractImmutableCollection" (some 4) with
  accessFlags := 1056
  interfaces := #[]
  cf := some (fileOf pool18 13 #[.nestHost 8] #[{ accessFlags := 0, nameIndex := 5, descriptorIndex := 6, attributes := #[] }] 1056 2 #[] #[])
  fields := #[]
  methods := #[k18m0]
  instanceTypes := #[]
  staticTypes := #[]
  resolved := Array.replicate 56 none
  statics := none }

def pool19 : Array CpInfo := pool [(2, .class_ 4), (1, u "java/util/ImmutableCollections$AbstractImmutableCollection"), (0, u "<init>"), (0, u "()V"), (1, .class_ 10), (1, u "java/util/ImmutableCollections"), (3, .class_ 16), (1, u "java/util/ImmutableCollections$AbstractImmutableList"), (60, .class_ 78), (0, u "java/util/List"), (45, .class_ 125), (0, u "java/util/RandomAccess")] 70

def k19m0 : Method := { name := "<init>", desc := "()V", sig := { parameters := [], returnType := none }, accessFlags := 0, code := none }
/-- java/util/ImmutableCollections$AbstractImmutableList -/
def k19 : Class := { plain "java/util/ImmutableCollections$AbstractImmutableList" (some 18) with
  accessFlags := 1056
  interfaces := #[6, 8]
  cf := some (fileOf pool19 14 #[.nestHost 8] #[{ accessFlags := 0, nameIndex := 5, descriptorIndex := 6, attributes := #[] }] 1056 2 #[77, 124] #[])
  fields := #[]
  methods := #[k19m0]
  instanceTypes := #[]
  staticTypes := #[]
  resolved := Array.replicate 196 none
  statics := none }

def pool20 : Array CpInfo := pool [(2, .class_ 4), (1, u "java/util/ImmutableCollections$AbstractImmutableList"), (2, .fieldref 8 9), (0, .class_ 10), (0, .nameAndType 11 12), (0, u "java/util/ImmutableCollections$ListN"), (0, u "elements"), (0, u "[Ljava/lang/Object;"), (2, u "allowNulls"), (0, u "Z"), (42, .class_ 60), (0, u "java/io/Serializable"), (13, u "isEmpty"), (0, u "()Z"), (38, .class_ 115), (0, u "java/util/ImmutableCollections")] 3

def k20c0 : Code := { maxStack := 1, maxLocals := 1, code := jdk_45_method_2_code, exceptionTable := #[], attributes := #[] }
def k20m0 : Method := { name := "isEmpty", desc := "()Z", sig := { parameters := [], returnType := some .boolean }, accessFlags := 1, code := some k20c0 }
/-- java/util/ImmutableCollections$ListN -/
def k20 : Class := { plain "java/util/ImmutableCollections$ListN" (some 19) with
  accessFlags := 48
  interfaces := #[10]
  cf := some (fileOf pool20 8 #[.nestHost 114] #[{ accessFlags := 1, nameIndex := 74, descriptorIndex := 75, attributes := #[] }] 48 2 #[59] #[{ accessFlags := 18, nameIndex := 11, descriptorIndex := 12, attributes := #[] }, { accessFlags := 18, nameIndex := 15, descriptorIndex := 16, attributes := #[] }])
  fields := #[{ name := "elements", type := (.array (.object "java/lang/Object")), accessFlags := 18, slot := 0, constantValue := 0 }, { name := "allowNulls", type := .boolean, accessFlags := 18, slot := 1, constantValue := 0 }]
  methods := #[k20m0]
  instanceTypes := #[(.array (.object "java/lang/Object")), .boolean]
  staticTypes := #[]
  resolved := Array.replicate 119 none
  statics := none }

def pool21 : Array CpInfo := pool [(1, .methodref 2 3), (0, .class_ 4), (0, .nameAndType 5 6), (0, u "java/lang/Object"), (0, u "<init>"), (0, u "()V"), (1, .class_ 10), (1, u "java/lang/Number"), (2, .class_ 14), (0, u "java/io/Serializable"), (0, u "serialVersionUID"), (0, u "J")] 20

def k21c0 : Code := { maxStack := 1, maxLocals := 1, code := jdk_18_method_1_code, exceptionTable := #[], attributes := #[] }
def k21m0 : Method := { name := "<init>", desc := "()V", sig := { parameters := [], returnType := none }, accessFlags := 1, code := some k21c0 }
/-- java/lang/Number -/
def k21 : Class := { plain "java/lang/Number" (some 0) with
  accessFlags := 1057
  interfaces := #[10]
  cf := some (fileOf pool21 8 #[] #[{ accessFlags := 1, nameIndex := 5, descriptorIndex := 6, attributes := #[] }] 1057 2 #[13] #[{ accessFlags := 26, nameIndex := 15, descriptorIndex := 16, attributes := #[] }])
  fields := #[{ name := "serialVersionUID", type := .long, accessFlags := 26, slot := 0, constantValue := 0 }]
  methods := #[k21m0]
  instanceTypes := #[]
  staticTypes := #[.long]
  resolved := Array.replicate 37 none
  statics := none }

def pool22 : Array CpInfo := pool [(1, .class_ 2), (0, u "java/lang/Comparable"), (0, .class_ 4), (0, u "java/lang/Object")] 7

/-- java/lang/Comparable -/
def k22 : Class := { plain "java/lang/Comparable" (some 0) with
  accessFlags := 1537
  interfaces := #[]
  cf := some (fileOf pool22 1 #[] #[] 1537 3 #[] #[])
  fields := #[]
  methods := #[]
  instanceTypes := #[]
  staticTypes := #[]
  resolved := Array.replicate 12 none
  statics := none }

def pool23 : Array CpInfo := pool [(1, .class_ 2), (0, u "java/lang/constant/Constable"), (0, .class_ 4), (0, u "java/lang/Object")] 6

/-- java/lang/constant/Constable -/
def k23 : Class := { plain "java/lang/constant/Constable" (some 0) with
  accessFlags := 1537
  interfaces := #[]
  cf := some (fileOf pool23 1 #[] #[] 1537 3 #[] #[])
  fields := #[]
  methods := #[]
  instanceTypes := #[]
  staticTypes := #[]
  resolved := Array.replicate 11 none
  statics := none }

def pool24 : Array CpInfo := pool [(1, .class_ 2), (0, u "java/lang/constant/ConstantDesc"), (0, .class_ 4), (0, u "java/lang/Object")] 32

/-- java/lang/constant/ConstantDesc -/
def k24 : Class := { plain "java/lang/constant/ConstantDesc" (some 0) with
  accessFlags := 1537
  interfaces := #[]
  cf := some (fileOf pool24 1 #[] #[] 1537 3 #[] #[])
  fields := #[]
  methods := #[]
  instanceTypes := #[]
  staticTypes := #[]
  resolved := Array.replicate 37 none
  statics := none }

def pool25 : Array CpInfo := pool [(1, .class_ 2), (0, u "java/lang/Integer"), (16, u "digits"), (0, u "[C"), (46, u "<init>"), (17, u "DigitOnes"), (0, u "[B"), (2, u "DigitTens"), (10, .nameAndType 67 101), (0, u "()V"), (85, u "valueOf"), (0, u "(I)Ljava/lang/Integer;"), (0, .class_ 190), (0, u "java/lang/Integer$IntegerCache"), (0, .fieldref 189 192), (0, .nameAndType 193 194), (0, u "high"), (0, u "I"), (0, .fieldref 189 196), (0, .nameAndType 197 198), (0, u "cache"), (0, u "[Ljava/lang/Integer;"), (0, .methodref 1 200), (0, .nameAndType 67 201), (0, u "(I)V"), (0, .methodref 203 100), (0, .class_ 204), (0, u "java/lang/Number"), (0, .fieldref 1 206), (0, .nameAndType 207 194), (0, u "value"), (94, u "TYPE"), (0, u "Ljava/lang/Class;"), (0, .class_ 305), (0, u "java/lang/Comparable"), (0, .class_ 307), (0, u "java/lang/constant/Constable"), (0, .class_ 309), (0, u "java/lang/constant/ConstantDesc"), (0, u "MIN_VALUE"), (1, u "MAX_VALUE"), (3, u "SIZE"), (1, u "BYTES"), (1, u "serialVersionUID"), (0, u "J")] 131

def k25c0 : Code := { maxStack := 3, maxLocals := 1, code := jdk_33_method_22_code, exceptionTable := #[], attributes := #[] }
def k25m0 : Method := { name := "valueOf", desc := "(I)Ljava/lang/Integer;", sig := { parameters := [.int], returnType := some (.object "java/lang/Integer") }, accessFlags := 9, code := some k25c0 }
def k25c1 : Code := { maxStack := 2, maxLocals := 2, code := jdk_33_method_23_code, exceptionTable := #[], attributes := #[] }
def k25m1 : Method := { name := "<init>", desc := "(I)V", sig := { parameters := [.int], returnType := none }, accessFlags := 1, code := some k25c1 }
/-- java/lang/Integer -/
def k25 : Class := { plain "java/lang/Integer" (some 21) with
  accessFlags := 49
  interfaces := #[22, 23, 24]
  cf := some (fileOf pool25 1 #[.nestMembers #[189]] #[{ accessFlags := 9, nameIndex := 187, descriptorIndex := 188, attributes := #[] }, { accessFlags := 1, nameIndex := 67, descriptorIndex := 201, attributes := #[] }] 49 203 #[304, 306, 308] #[{ accessFlags := 25, nameIndex := 310, descriptorIndex := 194, attributes := #[] }, { accessFlags := 25, nameIndex := 312, descriptorIndex := 194, attributes := #[] }, { accessFlags := 25, nameIndex := 302, descriptorIndex := 303, attributes := #[] }, { accessFlags := 24, nameIndex := 19, descriptorIndex := 20, attributes := #[] }, { accessFlags := 24, nameIndex := 89, descriptorIndex := 86, attributes := #[] }, { accessFlags := 24, nameIndex := 85, descriptorIndex := 86, attributes := #[] }, { accessFlags := 18, nameIndex := 207, descriptorIndex := 194, attributes := #[] }, { accessFlags := 25, nameIndex := 316, descriptorIndex := 194, attributes := #[] }, { accessFlags := 25, nameIndex := 318, descriptorIndex := 194, attributes := #[] }, { accessFlags := 26, nameIndex := 320, descriptorIndex := 321, attributes := #[] }])
  fields := #[{ name := "MIN_VALUE", type := .int, accessFlags := 25, slot := 0, constantValue := 0 }, { name := "MAX_VALUE", type := .int, accessFlags := 25, slot := 1, constantValue := 0 }, { name := "TYPE", type := (.object "java/lang/Class"), accessFlags := 25, slot := 2, constantValue := 0 }, { name := "digits", type := (.array .char), accessFlags := 24, slot := 3, constantValue := 0 }, { name := "DigitTens", type := (.array .byte), accessFlags := 24, slot := 4, constantValue := 0 }, { name := "DigitOnes", type := (.array .byte), accessFlags := 24, slot := 5, constantValue := 0 }, { name := "value", type := .int, accessFlags := 18, slot := 0, constantValue := 0 }, { name := "SIZE", type := .int, accessFlags := 25, slot := 6, constantValue := 0 }, { name := "BYTES", type := .int, accessFlags := 25, slot := 7, constantValue := 0 }, { name := "serialVersionUID", type := .long, accessFlags := 26, slot := 8, constantValue := 0 }]
  methods := #[k25m0, k25m1]
  instanceTypes := #[.int]
  staticTypes := #[.int, .int, (.object "java/lang/Class"), (.array .char), (.array .byte), (.array .byte), .int, .int, .long]
  resolved := Array.replicate 453 none
  statics := none }

def pool26 : Array CpInfo := pool [(2, .class_ 4), (1, u "java/lang/Object"), (0, u "<init>"), (0, u "()V"), (0, .class_ 8), (0, u "java/lang/Integer"), (7, .class_ 18), (1, u "java/lang/Integer$IntegerCache"), (0, u "$assertionsDisabled"), (0, u "Z"), (26, u "high"), (0, u "I"), (8, u "archivedCache"), (0, u "[Ljava/lang/Integer;"), (12, u "cache"), (0, u "low")] 27

def k26m0 : Method := { name := "<init>", desc := "()V", sig := { parameters := [], returnType := none }, accessFlags := 2, code := none }
/-- java/lang/Integer$IntegerCache -/
def k26 : Class := { plain "java/lang/Integer$IntegerCache" (some 0) with
  accessFlags := 48
  interfaces := #[]
  cf := some (fileOf pool26 16 #[.nestHost 7] #[{ accessFlags := 2, nameIndex := 5, descriptorIndex := 6, attributes := #[] }] 48 2 #[] #[{ accessFlags := 24, nameIndex := 72, descriptorIndex := 48, attributes := #[] }, { accessFlags := 24, nameIndex := 47, descriptorIndex := 48, attributes := #[] }, { accessFlags := 24, nameIndex := 71, descriptorIndex := 58, attributes := #[] }, { accessFlags := 8, nameIndex := 57, descriptorIndex := 58, attributes := #[] }, { accessFlags := 4120, nameIndex := 19, descriptorIndex := 20, attributes := #[] }])
  fields := #[{ name := "low", type := .int, accessFlags := 24, slot := 0, constantValue := 0 }, { name := "high", type := .int, accessFlags := 24, slot := 1, constantValue := 0 }, { name := "cache", type := (.array (.object "java/lang/Integer")), accessFlags := 24, slot := 2, constantValue := 0 }, { name := "archivedCache", type := (.array (.object "java/lang/Integer")), accessFlags := 8, slot := 3, constantValue := 0 }, { name := "$assertionsDisabled", type := .boolean, accessFlags := 4120, slot := 4, constantValue := 0 }]
  methods := #[k26m0]
  instanceTypes := #[]
  staticTypes := #[.int, .int, (.array (.object "java/lang/Integer")), (.array (.object "java/lang/Integer")), .boolean]
  resolved := Array.replicate 100 none
  statics := some 2 }

def pool27 : Array CpInfo := pool [(1, u "java/lang/Class"), (0, .class_ 1), (0, u "java/lang/Object"), (0, .class_ 3)] 0

/-- java/lang/Class -/
def k27 : Class := { plain "java/lang/Class" (some 0) with
  accessFlags := 49
  interfaces := #[]
  cf := some (fileOf pool27 2 #[] #[] 49 4 #[] #[])
  fields := #[]
  methods := #[]
  instanceTypes := #[]
  staticTypes := #[]
  resolved := Array.replicate 5 none
  statics := none }

/-- the primitive byte -/
def k28 : Class := { plain "byte" none with kind := .primitive 'B', accessFlags := 0x411 }
/-- [B -/
def k29 : Class := { plain "[B" (some 0) with kind := .array 28 .byte, interfaces := #[9, 10], accessFlags := 1041 }

/-- the primitive int -/
def k30 : Class := { plain "int" none with kind := .primitive 'I', accessFlags := 0x411 }
/-- [I -/
def k31 : Class := { plain "[I" (some 0) with kind := .array 30 .int, interfaces := #[9, 10], accessFlags := 1041 }

/-- [Ljava/lang/Integer; -/
def k32 : Class := { plain "[Ljava/lang/Integer;" (some 0) with kind := .array 25 (.object "java/lang/Integer"), interfaces := #[9, 10], accessFlags := 1041 }

/-- [Ljava/lang/Object; -/
def k33 : Class := { plain "[Ljava/lang/Object;" (some 0) with mirror := some 3, kind := .array 0 (.object "java/lang/Object"), interfaces := #[9, 10], accessFlags := 1041 }

def heap : Heap := #[{ cls := 11, slots := #[.long 0, .int 0, .ref 263, .ref 264], vm := .statics 11 },
  { cls := 14, slots := #[.long 0, .int 0, .null, .null, .ref 262, .null, .null, .null, .int 0, .int 0], vm := .statics 14 },
  { cls := 26, slots := #[.int 0, .int 127, .ref 4, .null, .int 0], vm := .statics 26 },
  { cls := 27, slots := #[], vm := .mirror 33 },
  { cls := 32, slots := #[.ref 6, .ref 7, .ref 8, .ref 9, .ref 10, .ref 11, .ref 12, .ref 13, .ref 14, .ref 15, .ref 16, .ref 17, .ref 18, .ref 19, .ref 20, .ref 21, .ref 22, .ref 23, .ref 24, .ref 25, .ref 26, .ref 27, .ref 28, .ref 29, .ref 30, .ref 31, .ref 32, .ref 33, .ref 34, .ref 35, .ref 36, .ref 37, .ref 38, .ref 39, .ref 40, .ref 41, .ref 42, .ref 43, .ref 44, .ref 45, .ref 46, .ref 47, .ref 48, .ref 49, .ref 50, .ref 51, .ref 52, .ref 53, .ref 54, .ref 55, .ref 56, .ref 57, .ref 58, .ref 59, .ref 60, .ref 61, .ref 62, .ref 63, .ref 64, .ref 65, .ref 66, .ref 67, .ref 68, .ref 69, .ref 70, .ref 71, .ref 72, .ref 73, .ref 74, .ref 75, .ref 76, .ref 77, .ref 78, .ref 79, .ref 80, .ref 81, .ref 82, .ref 83, .ref 84, .ref 85, .ref 86, .ref 87, .ref 88, .ref 89, .ref 90, .ref 91, .ref 92, .ref 93, .ref 94, .ref 95, .ref 96, .ref 97, .ref 98, .ref 99, .ref 100, .ref 101, .ref 102, .ref 103, .ref 104, .ref 105, .ref 106, .ref 107, .ref 108, .ref 109, .ref 110, .ref 111, .ref 112, .ref 113, .ref 114, .ref 115, .ref 116, .ref 117, .ref 118, .ref 119, .ref 120, .ref 121, .ref 122, .ref 123, .ref 124, .ref 125, .ref 126, .ref 127, .ref 128, .ref 129, .ref 130, .ref 131, .ref 132, .ref 133, .ref 134, .ref 135, .ref 136, .ref 137, .ref 138, .ref 139, .ref 140, .ref 141, .ref 142, .ref 143, .ref 144, .ref 145, .ref 146, .ref 147, .ref 148, .ref 149, .ref 150, .ref 151, .ref 152, .ref 153, .ref 154, .ref 155, .ref 156, .ref 157, .ref 158, .ref 159, .ref 160, .ref 161, .ref 162, .ref 163, .ref 164, .ref 165, .ref 166, .ref 167, .ref 168, .ref 169, .ref 170, .ref 171, .ref 172, .ref 173, .ref 174, .ref 175, .ref 176, .ref 177, .ref 178, .ref 179, .ref 180, .ref 181, .ref 182, .ref 183, .ref 184, .ref 185, .ref 186, .ref 187, .ref 188, .ref 189, .ref 190, .ref 191, .ref 192, .ref 193, .ref 194, .ref 195, .ref 196, .ref 197, .ref 198, .ref 199, .ref 200, .ref 201, .ref 202, .ref 203, .ref 204, .ref 205, .ref 206, .ref 207, .ref 208, .ref 209, .ref 210, .ref 211, .ref 212, .ref 213, .ref 214, .ref 215, .ref 216, .ref 217, .ref 218, .ref 219, .ref 220, .ref 221, .ref 222, .ref 223, .ref 224, .ref 225, .ref 226, .ref 227, .ref 228, .ref 229, .ref 230, .ref 231, .ref 232, .ref 233, .ref 234, .ref 235, .ref 236, .ref 237, .ref 238, .ref 239, .ref 240, .ref 241, .ref 242, .ref 243, .ref 244, .ref 245, .ref 246, .ref 247, .ref 248, .ref 249, .ref 250, .ref 251, .ref 252, .ref 253, .ref 254, .ref 255, .ref 256, .ref 257, .ref 258, .ref 259, .ref 260, .ref 261], vm := .none },
  { cls := 33, slots := #[], vm := .none },
  { cls := 25, slots := #[.int (-128)], vm := .none },
  { cls := 25, slots := #[.int (-127)], vm := .none },
  { cls := 25, slots := #[.int (-126)], vm := .none },
  { cls := 25, slots := #[.int (-125)], vm := .none },
  { cls := 25, slots := #[.int (-124)], vm := .none },
  { cls := 25, slots := #[.int (-123)], vm := .none },
  { cls := 25, slots := #[.int (-122)], vm := .none },
  { cls := 25, slots := #[.int (-121)], vm := .none },
  { cls := 25, slots := #[.int (-120)], vm := .none },
  { cls := 25, slots := #[.int (-119)], vm := .none },
  { cls := 25, slots := #[.int (-118)], vm := .none },
  { cls := 25, slots := #[.int (-117)], vm := .none },
  { cls := 25, slots := #[.int (-116)], vm := .none },
  { cls := 25, slots := #[.int (-115)], vm := .none },
  { cls := 25, slots := #[.int (-114)], vm := .none },
  { cls := 25, slots := #[.int (-113)], vm := .none },
  { cls := 25, slots := #[.int (-112)], vm := .none },
  { cls := 25, slots := #[.int (-111)], vm := .none },
  { cls := 25, slots := #[.int (-110)], vm := .none },
  { cls := 25, slots := #[.int (-109)], vm := .none },
  { cls := 25, slots := #[.int (-108)], vm := .none },
  { cls := 25, slots := #[.int (-107)], vm := .none },
  { cls := 25, slots := #[.int (-106)], vm := .none },
  { cls := 25, slots := #[.int (-105)], vm := .none },
  { cls := 25, slots := #[.int (-104)], vm := .none },
  { cls := 25, slots := #[.int (-103)], vm := .none },
  { cls := 25, slots := #[.int (-102)], vm := .none },
  { cls := 25, slots := #[.int (-101)], vm := .none },
  { cls := 25, slots := #[.int (-100)], vm := .none },
  { cls := 25, slots := #[.int (-99)], vm := .none },
  { cls := 25, slots := #[.int (-98)], vm := .none },
  { cls := 25, slots := #[.int (-97)], vm := .none },
  { cls := 25, slots := #[.int (-96)], vm := .none },
  { cls := 25, slots := #[.int (-95)], vm := .none },
  { cls := 25, slots := #[.int (-94)], vm := .none },
  { cls := 25, slots := #[.int (-93)], vm := .none },
  { cls := 25, slots := #[.int (-92)], vm := .none },
  { cls := 25, slots := #[.int (-91)], vm := .none },
  { cls := 25, slots := #[.int (-90)], vm := .none },
  { cls := 25, slots := #[.int (-89)], vm := .none },
  { cls := 25, slots := #[.int (-88)], vm := .none },
  { cls := 25, slots := #[.int (-87)], vm := .none },
  { cls := 25, slots := #[.int (-86)], vm := .none },
  { cls := 25, slots := #[.int (-85)], vm := .none },
  { cls := 25, slots := #[.int (-84)], vm := .none },
  { cls := 25, slots := #[.int (-83)], vm := .none },
  { cls := 25, slots := #[.int (-82)], vm := .none },
  { cls := 25, slots := #[.int (-81)], vm := .none },
  { cls := 25, slots := #[.int (-80)], vm := .none },
  { cls := 25, slots := #[.int (-79)], vm := .none },
  { cls := 25, slots := #[.int (-78)], vm := .none },
  { cls := 25, slots := #[.int (-77)], vm := .none },
  { cls := 25, slots := #[.int (-76)], vm := .none },
  { cls := 25, slots := #[.int (-75)], vm := .none },
  { cls := 25, slots := #[.int (-74)], vm := .none },
  { cls := 25, slots := #[.int (-73)], vm := .none },
  { cls := 25, slots := #[.int (-72)], vm := .none },
  { cls := 25, slots := #[.int (-71)], vm := .none },
  { cls := 25, slots := #[.int (-70)], vm := .none },
  { cls := 25, slots := #[.int (-69)], vm := .none },
  { cls := 25, slots := #[.int (-68)], vm := .none },
  { cls := 25, slots := #[.int (-67)], vm := .none },
  { cls := 25, slots := #[.int (-66)], vm := .none },
  { cls := 25, slots := #[.int (-65)], vm := .none },
  { cls := 25, slots := #[.int (-64)], vm := .none },
  { cls := 25, slots := #[.int (-63)], vm := .none },
  { cls := 25, slots := #[.int (-62)], vm := .none },
  { cls := 25, slots := #[.int (-61)], vm := .none },
  { cls := 25, slots := #[.int (-60)], vm := .none },
  { cls := 25, slots := #[.int (-59)], vm := .none },
  { cls := 25, slots := #[.int (-58)], vm := .none },
  { cls := 25, slots := #[.int (-57)], vm := .none },
  { cls := 25, slots := #[.int (-56)], vm := .none },
  { cls := 25, slots := #[.int (-55)], vm := .none },
  { cls := 25, slots := #[.int (-54)], vm := .none },
  { cls := 25, slots := #[.int (-53)], vm := .none },
  { cls := 25, slots := #[.int (-52)], vm := .none },
  { cls := 25, slots := #[.int (-51)], vm := .none },
  { cls := 25, slots := #[.int (-50)], vm := .none },
  { cls := 25, slots := #[.int (-49)], vm := .none },
  { cls := 25, slots := #[.int (-48)], vm := .none },
  { cls := 25, slots := #[.int (-47)], vm := .none },
  { cls := 25, slots := #[.int (-46)], vm := .none },
  { cls := 25, slots := #[.int (-45)], vm := .none },
  { cls := 25, slots := #[.int (-44)], vm := .none },
  { cls := 25, slots := #[.int (-43)], vm := .none },
  { cls := 25, slots := #[.int (-42)], vm := .none },
  { cls := 25, slots := #[.int (-41)], vm := .none },
  { cls := 25, slots := #[.int (-40)], vm := .none },
  { cls := 25, slots := #[.int (-39)], vm := .none },
  { cls := 25, slots := #[.int (-38)], vm := .none },
  { cls := 25, slots := #[.int (-37)], vm := .none },
  { cls := 25, slots := #[.int (-36)], vm := .none },
  { cls := 25, slots := #[.int (-35)], vm := .none },
  { cls := 25, slots := #[.int (-34)], vm := .none },
  { cls := 25, slots := #[.int (-33)], vm := .none },
  { cls := 25, slots := #[.int (-32)], vm := .none },
  { cls := 25, slots := #[.int (-31)], vm := .none },
  { cls := 25, slots := #[.int (-30)], vm := .none },
  { cls := 25, slots := #[.int (-29)], vm := .none },
  { cls := 25, slots := #[.int (-28)], vm := .none },
  { cls := 25, slots := #[.int (-27)], vm := .none },
  { cls := 25, slots := #[.int (-26)], vm := .none },
  { cls := 25, slots := #[.int (-25)], vm := .none },
  { cls := 25, slots := #[.int (-24)], vm := .none },
  { cls := 25, slots := #[.int (-23)], vm := .none },
  { cls := 25, slots := #[.int (-22)], vm := .none },
  { cls := 25, slots := #[.int (-21)], vm := .none },
  { cls := 25, slots := #[.int (-20)], vm := .none },
  { cls := 25, slots := #[.int (-19)], vm := .none },
  { cls := 25, slots := #[.int (-18)], vm := .none },
  { cls := 25, slots := #[.int (-17)], vm := .none },
  { cls := 25, slots := #[.int (-16)], vm := .none },
  { cls := 25, slots := #[.int (-15)], vm := .none },
  { cls := 25, slots := #[.int (-14)], vm := .none },
  { cls := 25, slots := #[.int (-13)], vm := .none },
  { cls := 25, slots := #[.int (-12)], vm := .none },
  { cls := 25, slots := #[.int (-11)], vm := .none },
  { cls := 25, slots := #[.int (-10)], vm := .none },
  { cls := 25, slots := #[.int (-9)], vm := .none },
  { cls := 25, slots := #[.int (-8)], vm := .none },
  { cls := 25, slots := #[.int (-7)], vm := .none },
  { cls := 25, slots := #[.int (-6)], vm := .none },
  { cls := 25, slots := #[.int (-5)], vm := .none },
  { cls := 25, slots := #[.int (-4)], vm := .none },
  { cls := 25, slots := #[.int (-3)], vm := .none },
  { cls := 25, slots := #[.int (-2)], vm := .none },
  { cls := 25, slots := #[.int (-1)], vm := .none },
  { cls := 25, slots := #[.int 0], vm := .none },
  { cls := 25, slots := #[.int 1], vm := .none },
  { cls := 25, slots := #[.int 2], vm := .none },
  { cls := 25, slots := #[.int 3], vm := .none },
  { cls := 25, slots := #[.int 4], vm := .none },
  { cls := 25, slots := #[.int 5], vm := .none },
  { cls := 25, slots := #[.int 6], vm := .none },
  { cls := 25, slots := #[.int 7], vm := .none },
  { cls := 25, slots := #[.int 8], vm := .none },
  { cls := 25, slots := #[.int 9], vm := .none },
  { cls := 25, slots := #[.int 10], vm := .none },
  { cls := 25, slots := #[.int 11], vm := .none },
  { cls := 25, slots := #[.int 12], vm := .none },
  { cls := 25, slots := #[.int 13], vm := .none },
  { cls := 25, slots := #[.int 14], vm := .none },
  { cls := 25, slots := #[.int 15], vm := .none },
  { cls := 25, slots := #[.int 16], vm := .none },
  { cls := 25, slots := #[.int 17], vm := .none },
  { cls := 25, slots := #[.int 18], vm := .none },
  { cls := 25, slots := #[.int 19], vm := .none },
  { cls := 25, slots := #[.int 20], vm := .none },
  { cls := 25, slots := #[.int 21], vm := .none },
  { cls := 25, slots := #[.int 22], vm := .none },
  { cls := 25, slots := #[.int 23], vm := .none },
  { cls := 25, slots := #[.int 24], vm := .none },
  { cls := 25, slots := #[.int 25], vm := .none },
  { cls := 25, slots := #[.int 26], vm := .none },
  { cls := 25, slots := #[.int 27], vm := .none },
  { cls := 25, slots := #[.int 28], vm := .none },
  { cls := 25, slots := #[.int 29], vm := .none },
  { cls := 25, slots := #[.int 30], vm := .none },
  { cls := 25, slots := #[.int 31], vm := .none },
  { cls := 25, slots := #[.int 32], vm := .none },
  { cls := 25, slots := #[.int 33], vm := .none },
  { cls := 25, slots := #[.int 34], vm := .none },
  { cls := 25, slots := #[.int 35], vm := .none },
  { cls := 25, slots := #[.int 36], vm := .none },
  { cls := 25, slots := #[.int 37], vm := .none },
  { cls := 25, slots := #[.int 38], vm := .none },
  { cls := 25, slots := #[.int 39], vm := .none },
  { cls := 25, slots := #[.int 40], vm := .none },
  { cls := 25, slots := #[.int 41], vm := .none },
  { cls := 25, slots := #[.int 42], vm := .none },
  { cls := 25, slots := #[.int 43], vm := .none },
  { cls := 25, slots := #[.int 44], vm := .none },
  { cls := 25, slots := #[.int 45], vm := .none },
  { cls := 25, slots := #[.int 46], vm := .none },
  { cls := 25, slots := #[.int 47], vm := .none },
  { cls := 25, slots := #[.int 48], vm := .none },
  { cls := 25, slots := #[.int 49], vm := .none },
  { cls := 25, slots := #[.int 50], vm := .none },
  { cls := 25, slots := #[.int 51], vm := .none },
  { cls := 25, slots := #[.int 52], vm := .none },
  { cls := 25, slots := #[.int 53], vm := .none },
  { cls := 25, slots := #[.int 54], vm := .none },
  { cls := 25, slots := #[.int 55], vm := .none },
  { cls := 25, slots := #[.int 56], vm := .none },
  { cls := 25, slots := #[.int 57], vm := .none },
  { cls := 25, slots := #[.int 58], vm := .none },
  { cls := 25, slots := #[.int 59], vm := .none },
  { cls := 25, slots := #[.int 60], vm := .none },
  { cls := 25, slots := #[.int 61], vm := .none },
  { cls := 25, slots := #[.int 62], vm := .none },
  { cls := 25, slots := #[.int 63], vm := .none },
  { cls := 25, slots := #[.int 64], vm := .none },
  { cls := 25, slots := #[.int 65], vm := .none },
  { cls := 25, slots := #[.int 66], vm := .none },
  { cls := 25, slots := #[.int 67], vm := .none },
  { cls := 25, slots := #[.int 68], vm := .none },
  { cls := 25, slots := #[.int 69], vm := .none },
  { cls := 25, slots := #[.int 70], vm := .none },
  { cls := 25, slots := #[.int 71], vm := .none },
  { cls := 25, slots := #[.int 72], vm := .none },
  { cls := 25, slots := #[.int 73], vm := .none },
  { cls := 25, slots := #[.int 74], vm := .none },
  { cls := 25, slots := #[.int 75], vm := .none },
  { cls := 25, slots := #[.int 76], vm := .none },
  { cls := 25, slots := #[.int 77], vm := .none },
  { cls := 25, slots := #[.int 78], vm := .none },
  { cls := 25, slots := #[.int 79], vm := .none },
  { cls := 25, slots := #[.int 80], vm := .none },
  { cls := 25, slots := #[.int 81], vm := .none },
  { cls := 25, slots := #[.int 82], vm := .none },
  { cls := 25, slots := #[.int 83], vm := .none },
  { cls := 25, slots := #[.int 84], vm := .none },
  { cls := 25, slots := #[.int 85], vm := .none },
  { cls := 25, slots := #[.int 86], vm := .none },
  { cls := 25, slots := #[.int 87], vm := .none },
  { cls := 25, slots := #[.int 88], vm := .none },
  { cls := 25, slots := #[.int 89], vm := .none },
  { cls := 25, slots := #[.int 90], vm := .none },
  { cls := 25, slots := #[.int 91], vm := .none },
  { cls := 25, slots := #[.int 92], vm := .none },
  { cls := 25, slots := #[.int 93], vm := .none },
  { cls := 25, slots := #[.int 94], vm := .none },
  { cls := 25, slots := #[.int 95], vm := .none },
  { cls := 25, slots := #[.int 96], vm := .none },
  { cls := 25, slots := #[.int 97], vm := .none },
  { cls := 25, slots := #[.int 98], vm := .none },
  { cls := 25, slots := #[.int 99], vm := .none },
  { cls := 25, slots := #[.int 100], vm := .none },
  { cls := 25, slots := #[.int 101], vm := .none },
  { cls := 25, slots := #[.int 102], vm := .none },
  { cls := 25, slots := #[.int 103], vm := .none },
  { cls := 25, slots := #[.int 104], vm := .none },
  { cls := 25, slots := #[.int 105], vm := .none },
  { cls := 25, slots := #[.int 106], vm := .none },
  { cls := 25, slots := #[.int 107], vm := .none },
  { cls := 25, slots := #[.int 108], vm := .none },
  { cls := 25, slots := #[.int 109], vm := .none },
  { cls := 25, slots := #[.int 110], vm := .none },
  { cls := 25, slots := #[.int 111], vm := .none },
  { cls := 25, slots := #[.int 112], vm := .none },
  { cls := 25, slots := #[.int 113], vm := .none },
  { cls := 25, slots := #[.int 114], vm := .none },
  { cls := 25, slots := #[.int 115], vm := .none },
  { cls := 25, slots := #[.int 116], vm := .none },
  { cls := 25, slots := #[.int 117], vm := .none },
  { cls := 25, slots := #[.int 118], vm := .none },
  { cls := 25, slots := #[.int 119], vm := .none },
  { cls := 25, slots := #[.int 120], vm := .none },
  { cls := 25, slots := #[.int 121], vm := .none },
  { cls := 25, slots := #[.int 122], vm := .none },
  { cls := 25, slots := #[.int 123], vm := .none },
  { cls := 25, slots := #[.int 124], vm := .none },
  { cls := 25, slots := #[.int 125], vm := .none },
  { cls := 25, slots := #[.int 126], vm := .none },
  { cls := 25, slots := #[.int 127], vm := .none },
  { cls := 20, slots := #[.ref 5, .int 0], vm := .none },
  { cls := 33, slots := #[], vm := .none },
  { cls := 33, slots := #[], vm := .none }]
def classes : Array Class := #[k0, k1, k2, k3, k4, k5, k6, k7, k8, k9, k10, k11, k12, k13, k14, k15, k16, k17, k18, k19, k20, k21, k22, k23, k24, k25, k26, k27, k28, k29, k30, k31, k32, k33]
def interned : List (Array UInt16 × Addr) := []
def slotsUsed : Nat := 533
def theMethod : MethodId := ⟨1, 1⟩
def args0 : Array Value := #[.int 5, .int 4, .int 3, .int 3, .int 3]
def aboutOver (below : List Frame) : State where
  vm := { classes := classes, interned := interned.toArray }
  heap := heap
  slotsUsed := slotsUsed
  threads := #[{ frames := .invoking theMethod args0 :: below }]
def below0 : List Frame := [.native { method := ⟨0, 0⟩, args := #[] }]
def about1 : State := aboutOver below0
def p0 : Program := .bare "" "" ""
def e0 : Env := launch0.env 0 0 0
theorem w_frames : about1.frames = Frame.invoking theMethod args0 :: below0 := rfl
set_option maxRecDepth 65536 in
theorem w_args : argsFit about1.vm theMethod args0 = true := by decide +kernel
set_option maxRecDepth 65536 in
theorem w_heap : heapFits about1 = true := by decide +kernel
set_option maxRecDepth 65536 in
theorem w_runnable : about1.curStatus? = some .runnable := by decide +kernel
set_option maxRecDepth 65536 in
theorem w_alone : about1.alone = true := by decide +kernel
set_option maxRecDepth 65536 in
theorem w_named : about1.methodNamed? x = some theMethod := by decide +kernel
set_option maxRecDepth 65536 in
theorem w_hears : about1.hears theMethod below0 = true := by decide +kernel
set_option maxRecDepth 65536 in
theorem w_ripe : about1.ripe theMethod args0 below0 = true := by decide +kernel
theorem w_running : about1.status = .running := rfl
set_option maxRecDepth 65536 in
theorem w_room : about1.hasRoom e0.platform room_1 = true :=
  launch0.hasRoom_least _ room_1 (by decide +kernel) (by decide +kernel) (by decide +kernel) (by decide +kernel) (by decide +kernel) (by decide +kernel)
theorem allAtoms_all (ts : List Jvm.Cond) (a : Array Jvm.Value) (st : Jvm.State) : (allAtoms ts).before a st = ts.all (fun c => c.before a st) := by
  induction ts with
  | nil => rfl
  | cons c t ih =>
    show (Jvm.Cond.and c (allAtoms t)).before a st = _
    rw [Jvm.Cond.before_and, ih, List.all_cons]
def words1 : List Jvm.Cond := Jvm.Cond.code x code maxLocals ret :: tables_1
/-- a 'code' word, met by the world's own term for the bytes: nothing is compared byte by byte -/
theorem code_word {y : MethodName} {bytes : ByteArray} {mx : Nat} {rt : Option FieldType} {a : Array Value} {s : State} {m : MethodId} {meth : Method} {c : Code} (h1 : s.methodNamed? y = some m) (h2 : s.vm.method? m = some meth) (h3 : meth.code = some c) (h4 : c.code = bytes)
    (h5 : (c.maxLocals == mx && c.exceptionTable.isEmpty && decide (c.maxStack ≤ mostOperands) && decide (meth.sig.returnType = rt) && !meth.locks && decide (parseMethodDescriptor y.desc = some meth.sig)) = true) : (Jvm.Cond.code y bytes mx rt).before a s = true := by
  simp only [Bool.and_eq_true, beq_iff_eq, Bool.not_eq_true', decide_eq_true_eq] at h5
  obtain ⟨⟨⟨⟨⟨g1, g2⟩, g3⟩, g4⟩, g5⟩, g6⟩ := h5
  simp [Cond.before, Cond.holds, Cond.value, h1, h2, h3, h4, g1, g2, g3, g4, g5, g6]
def isCode : Jvm.Cond → Bool
  | .code _ _ _ _ => true
  | _ => false
theorem all_split {L : List Jvm.Cond} {P : Jvm.Cond → Bool} (h1 : L.all (fun c => isCode c || P c) = true) (h2 : ∀ c ∈ L.filter isCode, P c = true) : L.all P = true := by
  refine List.all_eq_true.mpr fun c hc => ?_
  have h := List.all_eq_true.mp h1 c hc
  rcases Bool.eq_false_or_eq_true (isCode c) with hi | hi
  · exact h2 c (List.mem_filter.mpr ⟨hc, hi⟩)
  · simpa [hi] using h
set_option maxRecDepth 65536 in
theorem w_c0 : (Jvm.Cond.code x code maxLocals ret).before args0 about1 = true := code_word (m := ⟨1, 1⟩) (meth := k1m1) (c := k1c1) (by decide +kernel) rfl rfl rfl (by decide +kernel)
set_option maxRecDepth 65536 in
theorem w_c1 : (Jvm.Cond.code ({ cls := "java/util/ArrayList", name := "<init>", desc := "()V" } : Jvm.MethodName) jdk_38_method_2_code (1 : Nat) (Option.none : Option Jvm.ClassFile.FieldType)).before args0 about1 = true := code_word (m := ⟨11, 0⟩) (meth := k11m0) (c := k11c0) (by decide +kernel) rfl rfl rfl (by decide +kernel)
set_option maxRecDepth 65536 in
theorem w_c2 : (Jvm.Cond.code ({ cls := "java/util/AbstractList", name := "<init>", desc := "()V" } : Jvm.MethodName) jdk_39_method_1_code (1 : Nat) (Option.none : Option Jvm.ClassFile.FieldType)).before args0 about1 = true := code_word (m := ⟨7, 0⟩) (meth := k7m0) (c := k7c0) (by decide +kernel) rfl rfl rfl (by decide +kernel)
set_option maxRecDepth 65536 in
theorem w_c3 : (Jvm.Cond.code ({ cls := "java/util/AbstractCollection", name := "<init>", desc := "()V" } : Jvm.MethodName) jdk_22_method_1_code (1 : Nat) (Option.none : Option Jvm.ClassFile.FieldType)).before args0 about1 = true := code_word (m := ⟨4, 0⟩) (meth := k4m0) (c := k4c0) (by decide +kernel) rfl rfl rfl (by decide +kernel)
set_option maxRecDepth 65536 in
theorem w_c4 : (Jvm.Cond.code ({ cls := "java/lang/Object", name := "<init>", desc := "()V" } : Jvm.MethodName) object_method_1_code (1 : Nat) (Option.none : Option Jvm.ClassFile.FieldType)).before args0 about1 = true := code_word (m := ⟨0, 0⟩) (meth := k0m0) (c := k0c0) (by decide +kernel) rfl rfl rfl (by decide +kernel)
set_option maxRecDepth 65536 in
theorem w_c5 : (Jvm.Cond.code ({ cls := "jakarta/faces/model/CollectionDataModel", name := "<init>", desc := "()V" } : Jvm.MethodName) prog_40_method_1_code (1 : Nat) (Option.none : Option Jvm.ClassFile.FieldType)).before args0 about1 = true := code_word (m := ⟨13, 0⟩) (meth := k13m0) (c := k13c0) (by decide +kernel) rfl rfl rfl (by decide +kernel)
set_option maxRecDepth 65536 in
theorem w_c6 : (Jvm.Cond.code ({ cls := "jakarta/faces/model/DataModel", name := "<init>", desc := "()V" } : Jvm.MethodName) prog_42_method_1_code (1 : Nat) (Option.none : Option Jvm.ClassFile.FieldType)).before args0 about1 = true := code_word (m := ⟨12, 0⟩) (meth := k12m0) (c := k12c0) (by decide +kernel) rfl rfl rfl (by decide +kernel)
set_option maxRecDepth 65536 in
theorem w_c7 : (Jvm.Cond.code ({ cls := "java/util/List", name := "of", desc := "()Ljava/util/List;" } : Jvm.MethodName) jdk_40_method_36_code (0 : Nat) (Option.some (Jvm.ClassFile.FieldType.object "java/util/List"))).before args0 about1 = true := code_word (m := ⟨6, 1⟩) (meth := k6m1) (c := k6c1) (by decide +kernel) rfl rfl rfl (by decide +kernel)
set_option maxRecDepth 65536 in
theorem w_c8 : (Jvm.Cond.code ({ cls := "jakarta/faces/model/CollectionDataModel", name := "getRowCount", desc := "()I" } : Jvm.MethodName) prog_40_method_3_code (1 : Nat) (Option.some Jvm.ClassFile.FieldType.int)).before args0 about1 = true := code_word (m := ⟨13, 1⟩) (meth := k13m1) (c := k13c1) (by decide +kernel) rfl rfl rfl (by decide +kernel)
set_option maxRecDepth 65536 in
theorem w_c9 : (Jvm.Cond.code ({ cls := "jakarta/faces/model/CollectionDataModel", name := "setWrappedData", desc := "(Ljava/lang/Object;)V" } : Jvm.MethodName) prog_40_method_9_code (3 : Nat) (Option.none : Option Jvm.ClassFile.FieldType)).before args0 about1 = true := code_word (m := ⟨13, 3⟩) (meth := k13m3) (c := k13c3) (by decide +kernel) rfl rfl rfl (by decide +kernel)
set_option maxRecDepth 65536 in
theorem w_c10 : (Jvm.Cond.code ({ cls := "java/util/ArrayList", name := "toArray", desc := "()[Ljava/lang/Object;" } : Jvm.MethodName) jdk_38_method_16_code (1 : Nat) (Option.some (Jvm.ClassFile.FieldType.array (Jvm.ClassFile.FieldType.object "java/lang/Object")))).before args0 about1 = true := code_word (m := ⟨11, 3⟩) (meth := k11m3) (c := k11c3) (by decide +kernel) rfl rfl rfl (by decide +kernel)
set_option maxRecDepth 65536 in
theorem w_c11 : (Jvm.Cond.code ({ cls := "java/util/Arrays", name := "copyOf", desc := "([Ljava/lang/Object;I)[Ljava/lang/Object;" } : Jvm.MethodName) jdk_65_method_119_code (2 : Nat) (Option.some (Jvm.ClassFile.FieldType.array (Jvm.ClassFile.FieldType.object "java/lang/Object")))).before args0 about1 = true := code_word (m := ⟨15, 1⟩) (meth := k15m1) (c := k15c1) (by decide +kernel) rfl rfl rfl (by decide +kernel)
set_option maxRecDepth 65536 in
theorem w_c12 : (Jvm.Cond.code ({ cls := "java/util/Arrays", name := "copyOf", desc := "([Ljava/lang/Object;ILjava/lang/Class;)[Ljava/lang/Object;" } : Jvm.MethodName) jdk_65_method_120_code (4 : Nat) (Option.some (Jvm.ClassFile.FieldType.array (Jvm.ClassFile.FieldType.object "java/lang/Object")))).before args0 about1 = true := code_word (m := ⟨15, 2⟩) (meth := k15m2) (c := k15c2) (by decide +kernel) rfl rfl rfl (by decide +kernel)
set_option maxRecDepth 65536 in
theorem w_c13 : (Jvm.Cond.code ({ cls := "java/lang/Math", name := "min", desc := "(II)I" } : Jvm.MethodName) jdk_29_method_69_code (2 : Nat) (Option.some Jvm.ClassFile.FieldType.int)).before args0 about1 = true := code_word (m := ⟨16, 2⟩) (meth := k16m2) (c := k16c2) (by decide +kernel) rfl rfl rfl (by decide +kernel)
set_option maxRecDepth 65536 in
theorem w_c14 : (Jvm.Cond.code ({ cls := "jakarta/faces/model/DataModel", name := "clearRow", desc := "()V" } : Jvm.MethodName) prog_42_method_16_code (1 : Nat) (Option.none : Option Jvm.ClassFile.FieldType)).before args0 about1 = true := code_word (m := ⟨12, 2⟩) (meth := k12m2) (c := k12c2) (by decide +kernel) rfl rfl rfl (by decide +kernel)
set_option maxRecDepth 65536 in
theorem w_c15 : (Jvm.Cond.code ({ cls := "jakarta/faces/model/DataModel", name := "selectRow", desc := "(IZ)V" } : Jvm.MethodName) prog_42_method_14_code (7 : Nat) (Option.none : Option Jvm.ClassFile.FieldType)).before args0 about1 = true := code_word (m := ⟨12, 1⟩) (meth := k12m1) (c := k12c1) (by decide +kernel) rfl rfl rfl (by decide +kernel)
set_option maxRecDepth 65536 in
theorem w_c16 : (Jvm.Cond.code ({ cls := "java/util/ImmutableCollections$ListN", name := "isEmpty", desc := "()Z" } : Jvm.MethodName) jdk_45_method_2_code (1 : Nat) (Option.some Jvm.ClassFile.FieldType.boolean)).before args0 about1 = true := code_word (m := ⟨20, 0⟩) (meth := k20m0) (c := k20c0) (by decide +kernel) rfl rfl rfl (by decide +kernel)
set_option maxRecDepth 65536 in
theorem w_c17 : (Jvm.Cond.code ({ cls := "jakarta/faces/model/CollectionDataModel", name := "setRowIndex", desc := "(I)V" } : Jvm.MethodName) prog_40_method_8_code (2 : Nat) (Option.none : Option Jvm.ClassFile.FieldType)).before args0 about1 = true := code_word (m := ⟨13, 2⟩) (meth := k13m2) (c := k13c2) (by decide +kernel) rfl rfl rfl (by decide +kernel)
set_option maxRecDepth 65536 in
theorem w_c18 : (Jvm.Cond.code ({ cls := "java/lang/Integer", name := "valueOf", desc := "(I)Ljava/lang/Integer;" } : Jvm.MethodName) jdk_33_method_22_code (1 : Nat) (Option.some (Jvm.ClassFile.FieldType.object "java/lang/Integer"))).before args0 about1 = true := code_word (m := ⟨25, 0⟩) (meth := k25m0) (c := k25c0) (by decide +kernel) rfl rfl rfl (by decide +kernel)
set_option maxRecDepth 65536 in
theorem w_c19 : (Jvm.Cond.code ({ cls := "java/util/ArrayList", name := "add", desc := "(Ljava/lang/Object;)Z" } : Jvm.MethodName) jdk_38_method_25_code (2 : Nat) (Option.some Jvm.ClassFile.FieldType.boolean)).before args0 about1 = true := code_word (m := ⟨11, 5⟩) (meth := k11m5) (c := k11c5) (by decide +kernel) rfl rfl rfl (by decide +kernel)
set_option maxRecDepth 65536 in
theorem w_c20 : (Jvm.Cond.code ({ cls := "java/util/ArrayList", name := "add", desc := "(Ljava/lang/Object;[Ljava/lang/Object;I)V" } : Jvm.MethodName) jdk_38_method_24_code (4 : Nat) (Option.none : Option Jvm.ClassFile.FieldType)).before args0 about1 = true := code_word (m := ⟨11, 4⟩) (meth := k11m4) (c := k11c4) (by decide +kernel) rfl rfl rfl (by decide +kernel)
set_option maxRecDepth 65536 in
theorem w_c21 : (Jvm.Cond.code ({ cls := "java/util/ArrayList", name := "grow", desc := "()[Ljava/lang/Object;" } : Jvm.MethodName) jdk_38_method_7_code (1 : Nat) (Option.some (Jvm.ClassFile.FieldType.array (Jvm.ClassFile.FieldType.object "java/lang/Object")))).before args0 about1 = true := code_word (m := ⟨11, 2⟩) (meth := k11m2) (c := k11c2) (by decide +kernel) rfl rfl rfl (by decide +kernel)
set_option maxRecDepth 65536 in
theorem w_c22 : (Jvm.Cond.code ({ cls := "java/util/ArrayList", name := "grow", desc := "(I)[Ljava/lang/Object;" } : Jvm.MethodName) jdk_38_method_6_code (4 : Nat) (Option.some (Jvm.ClassFile.FieldType.array (Jvm.ClassFile.FieldType.object "java/lang/Object")))).before args0 about1 = true := code_word (m := ⟨11, 1⟩) (meth := k11m1) (c := k11c1) (by decide +kernel) rfl rfl rfl (by decide +kernel)
set_option maxRecDepth 65536 in
theorem w_c23 : (Jvm.Cond.code ({ cls := "java/lang/Math", name := "max", desc := "(II)I" } : Jvm.MethodName) jdk_29_method_65_code (2 : Nat) (Option.some Jvm.ClassFile.FieldType.int)).before args0 about1 = true := code_word (m := ⟨16, 1⟩) (meth := k16m1) (c := k16c1) (by decide +kernel) rfl rfl rfl (by decide +kernel)
set_option maxRecDepth 65536 in
theorem w_c24 : (Jvm.Cond.code ({ cls := "java/lang/Integer", name := "<init>", desc := "(I)V" } : Jvm.MethodName) jdk_33_method_23_code (2 : Nat) (Option.none : Option Jvm.ClassFile.FieldType)).before args0 about1 = true := code_word (m := ⟨25, 1⟩) (meth := k25m1) (c := k25c1) (by decide +kernel) rfl rfl rfl (by decide +kernel)
set_option maxRecDepth 65536 in
theorem w_c25 : (Jvm.Cond.code ({ cls := "java/lang/Number", name := "<init>", desc := "()V" } : Jvm.MethodName) jdk_18_method_1_code (1 : Nat) (Option.none : Option Jvm.ClassFile.FieldType)).before args0 about1 = true := code_word (m := ⟨21, 0⟩) (meth := k21m0) (c := k21c0) (by decide +kernel) rfl rfl rfl (by decide +kernel)
def codes1 : List Jvm.Cond := [Jvm.Cond.code x code maxLocals ret, Jvm.Cond.code ({ cls := "java/util/ArrayList", name := "<init>", desc := "()V" } : Jvm.MethodName) jdk_38_method_2_code (1 : Nat) (Option.none : Option Jvm.ClassFile.FieldType), Jvm.Cond.code ({ cls := "java/util/AbstractList", name := "<init>", desc := "()V" } : Jvm.MethodName) jdk_39_method_1_code (1 : Nat) (Option.none : Option Jvm.ClassFile.FieldType), Jvm.Cond.code ({ cls := "java/util/AbstractCollection", name := "<init>", desc := "()V" } : Jvm.MethodName) jdk_22_method_1_code (1 : Nat) (Option.none : Option Jvm.ClassFile.FieldType), Jvm.Cond.code ({ cls := "java/lang/Object", name := "<init>", desc := "()V" } : Jvm.MethodName) object_method_1_code (1 : Nat) (Option.none : Option Jvm.ClassFile.FieldType), Jvm.Cond.code ({ cls := "jakarta/faces/model/CollectionDataModel", name := "<init>", desc := "()V" } : Jvm.MethodName) prog_40_method_1_code (1 : Nat) (Option.none : Option Jvm.ClassFile.FieldType), Jvm.Cond.code ({ cls := "jakarta/faces/model/DataModel", name := "<init>", desc := "()V" } : Jvm.MethodName) prog_42_method_1_code (1 : Nat) (Option.none : Option Jvm.ClassFile.FieldType), Jvm.Cond.code ({ cls := "java/util/List", name := "of", desc := "()Ljava/util/List;" } : Jvm.MethodName) jdk_40_method_36_code (0 : Nat) (Option.some (Jvm.ClassFile.FieldType.object "java/util/List")), Jvm.Cond.code ({ cls := "jakarta/faces/model/CollectionDataModel", name := "getRowCount", desc := "()I" } : Jvm.MethodName) prog_40_method_3_code (1 : Nat) (Option.some Jvm.ClassFile.FieldType.int), Jvm.Cond.code ({ cls := "jakarta/faces/model/CollectionDataModel", name := "setWrappedData", desc := "(Ljava/lang/Object;)V" } : Jvm.MethodName) prog_40_method_9_code (3 : Nat) (Option.none : Option Jvm.ClassFile.FieldType), Jvm.Cond.code ({ cls := "java/util/ArrayList", name := "toArray", desc := "()[Ljava/lang/Object;" } : Jvm.MethodName) jdk_38_method_16_code (1 : Nat) (Option.some (Jvm.ClassFile.FieldType.array (Jvm.ClassFile.FieldType.object "java/lang/Object"))), Jvm.Cond.code ({ cls := "java/util/Arrays", name := "copyOf", desc := "([Ljava/lang/Object;I)[Ljava/lang/Object;" } : Jvm.MethodName) jdk_65_method_119_code (2 : Nat) (Option.some (Jvm.ClassFile.FieldType.array (Jvm.ClassFile.FieldType.object "java/lang/Object"))), Jvm.Cond.code ({ cls := "java/util/Arrays", name := "copyOf", desc := "([Ljava/lang/Object;ILjava/lang/Class;)[Ljava/lang/Object;" } : Jvm.MethodName) jdk_65_method_120_code (4 : Nat) (Option.some (Jvm.ClassFile.FieldType.array (Jvm.ClassFile.FieldType.object "java/lang/Object"))), Jvm.Cond.code ({ cls := "java/lang/Math", name := "min", desc := "(II)I" } : Jvm.MethodName) jdk_29_method_69_code (2 : Nat) (Option.some Jvm.ClassFile.FieldType.int), Jvm.Cond.code ({ cls := "jakarta/faces/model/DataModel", name := "clearRow", desc := "()V" } : Jvm.MethodName) prog_42_method_16_code (1 : Nat) (Option.none : Option Jvm.ClassFile.FieldType), Jvm.Cond.code ({ cls := "jakarta/faces/model/DataModel", name := "selectRow", desc := "(IZ)V" } : Jvm.MethodName) prog_42_method_14_code (7 : Nat) (Option.none : Option Jvm.ClassFile.FieldType), Jvm.Cond.code ({ cls := "java/util/ImmutableCollections$ListN", name := "isEmpty", desc := "()Z" } : Jvm.MethodName) jdk_45_method_2_code (1 : Nat) (Option.some Jvm.ClassFile.FieldType.boolean), Jvm.Cond.code ({ cls := "jakarta/faces/model/CollectionDataModel", name := "setRowIndex", desc := "(I)V" } : Jvm.MethodName) prog_40_method_8_code (2 : Nat) (Option.none : Option Jvm.ClassFile.FieldType), Jvm.Cond.code ({ cls := "java/lang/Integer", name := "valueOf", desc := "(I)Ljava/lang/Integer;" } : Jvm.MethodName) jdk_33_method_22_code (1 : Nat) (Option.some (Jvm.ClassFile.FieldType.object "java/lang/Integer")), Jvm.Cond.code ({ cls := "java/util/ArrayList", name := "add", desc := "(Ljava/lang/Object;)Z" } : Jvm.MethodName) jdk_38_method_25_code (2 : Nat) (Option.some Jvm.ClassFile.FieldType.boolean), Jvm.Cond.code ({ cls := "java/util/ArrayList", name := "add", desc := "(Ljava/lang/Object;[Ljava/lang/Object;I)V" } : Jvm.MethodName) jdk_38_method_24_code (4 : Nat) (Option.none : Option Jvm.ClassFile.FieldType), Jvm.Cond.code ({ cls := "java/util/ArrayList", name := "grow", desc := "()[Ljava/lang/Object;" } : Jvm.MethodName) jdk_38_method_7_code (1 : Nat) (Option.some (Jvm.ClassFile.FieldType.array (Jvm.ClassFile.FieldType.object "java/lang/Object"))), Jvm.Cond.code ({ cls := "java/util/ArrayList", name := "grow", desc := "(I)[Ljava/lang/Object;" } : Jvm.MethodName) jdk_38_method_6_code (4 : Nat) (Option.some (Jvm.ClassFile.FieldType.array (Jvm.ClassFile.FieldType.object "java/lang/Object"))), Jvm.Cond.code ({ cls := "java/lang/Math", name := "max", desc := "(II)I" } : Jvm.MethodName) jdk_29_method_65_code (2 : Nat) (Option.some Jvm.ClassFile.FieldType.int), Jvm.Cond.code ({ cls := "java/lang/Integer", name := "<init>", desc := "(I)V" } : Jvm.MethodName) jdk_33_method_23_code (2 : Nat) (Option.none : Option Jvm.ClassFile.FieldType), Jvm.Cond.code ({ cls := "java/lang/Number", name := "<init>", desc := "()V" } : Jvm.MethodName) jdk_18_method_1_code (1 : Nat) (Option.none : Option Jvm.ClassFile.FieldType)]
set_option maxRecDepth 65536 in
theorem codes_eq : words1.filter isCode = codes1 := rfl
theorem w_codes : ∀ c ∈ words1.filter isCode, c.before args0 about1 = true := by
  rw [codes_eq]
  intro c hc
  simp only [codes1, List.mem_cons, List.not_mem_nil, or_false] at hc
  rcases hc with rfl | rfl | rfl | rfl | rfl | rfl | rfl | rfl | rfl | rfl | rfl | rfl | rfl | rfl | rfl | rfl | rfl | rfl | rfl | rfl | rfl | rfl | rfl | rfl | rfl | rfl
  · exact w_c0
  · exact w_c1
  · exact w_c2
  · exact w_c3
  · exact w_c4
  · exact w_c5
  · exact w_c6
  · exact w_c7
  · exact w_c8
  · exact w_c9
  · exact w_c10
  · exact w_c11
  · exact w_c12
  · exact w_c13
  · exact w_c14
  · exact w_c15
  · exact w_c16
  · exact w_c17
  · exact w_c18
  · exact w_c19
  · exact w_c20
  · exact w_c21
  · exact w_c22
  · exact w_c23
  · exact w_c24
  · exact w_c25
set_option maxRecDepth 65536 in
theorem w_t1 : (words1.take 24).all (fun c => isCode c || c.before args0 about1) = true := by decide +kernel
set_option maxRecDepth 65536 in
theorem w_t2 : ((words1.drop 24).take 24).all (fun c => isCode c || c.before args0 about1) = true := by decide +kernel
set_option maxRecDepth 65536 in
theorem w_t3 : (((words1.drop 24).drop 24).take 24).all (fun c => isCode c || c.before args0 about1) = true := by decide +kernel
set_option maxRecDepth 65536 in
theorem w_t4 : ((((words1.drop 24).drop 24).drop 24).take 24).all (fun c => isCode c || c.before args0 about1) = true := by decide +kernel
set_option maxRecDepth 65536 in
theorem w_t5 : (((((words1.drop 24).drop 24).drop 24).drop 24).take 24).all (fun c => isCode c || c.before args0 about1) = true := by decide +kernel
set_option maxRecDepth 65536 in
theorem w_t6 : ((((((words1.drop 24).drop 24).drop 24).drop 24).drop 24).take 24).all (fun c => isCode c || c.before args0 about1) = true := by decide +kernel
set_option maxRecDepth 65536 in
theorem w_t7 : (((((((words1.drop 24).drop 24).drop 24).drop 24).drop 24).drop 24).take 24).all (fun c => isCode c || c.before args0 about1) = true := by decide +kernel
set_option maxRecDepth 65536 in
theorem w_t8 : (((((((words1.drop 24).drop 24).drop 24).drop 24).drop 24).drop 24).drop 24).all (fun c => isCode c || c.before args0 about1) = true := by decide +kernel
theorem w_tables : (allAtoms (Jvm.Cond.code x code maxLocals ret :: tables_1)).before args0 about1 = true := by
  rw [allAtoms_all]
  show words1.all (fun c => c.before args0 about1) = true
  refine all_split ?_ w_codes
  rw [← List.take_append_drop 24 words1, List.all_append, w_t1, ← List.take_append_drop 24 (words1.drop 24), List.all_append, w_t2, ← List.take_append_drop 24 ((words1.drop 24).drop 24), List.all_append, w_t3, ← List.take_append_drop 24 (((words1.drop 24).drop 24).drop 24), List.all_append, w_t4, ← List.take_append_drop 24 ((((words1.drop 24).drop 24).drop 24).drop 24), List.all_append, w_t5, ← List.take_append_drop 24 (((((words1.drop 24).drop 24).drop 24).drop 24).drop 24), List.all_append, w_t6, ← List.take_append_drop 24 ((((((words1.drop 24).drop 24).drop 24).drop 24).drop 24).drop 24), List.all_append, w_t7, w_t8]
  rfl
set_option maxRecDepth 65536 in
theorem w_rest : rest_1_c.before args0 about1 = true := by decide +kernel
set_option maxRecDepth 65536 in
theorem w_case : (Jvm.Cond.and given_1 narrow_1).before args0 about1 = true := by decide +kernel
theorem w_applies : (headSpec (Jvm.Cond.code x code maxLocals ret :: tables_1) room_1).applies x e0.platform about1 = true :=
  (Spec.applies_iff w_frames).mpr ⟨w_running, w_runnable, w_alone, w_named, w_hears, w_ripe, w_room, w_tables⟩
set_option maxRecDepth 65536 in
theorem atStart : AtStart classFile x code maxLocals ret World_1 tables_1 room_1 Calls_1 rest_1 Pre_1 launch0 p0 e0 about1 theMethod args0 below0 :=
  ⟨lists_1, trivial, launch0.admits_env _ _ _, launch0.least_env, fairChoices_fair.cas, fairChoices_fair.clock, w_frames, w_args, w_heap, w_applies, ⟨⟨33, k33, 3, by decide +kernel, rfl, rfl, _, rfl, rfl⟩, trivial⟩, w_rest, w_case⟩
end start1
theorem witness_1 : WitnessClaimed_1 := ⟨start1.p0, start1.e0, start1.about1, start1.theMethod, start1.args0, start1.below0, start1.atStart⟩
end Jvm.Pilot.@@N@@
