import JvmDerived
import JvmDerived.Pilot.@@N@@Statement
import JvmDerived.Pilot.@@N@@Code
set_option linter.unusedVariables false
set_option linter.unusedSimpArgs false
namespace Jvm.RoadKit
open Sem ClassFile Op Lib Jvm.Stand Jvm.Free Jvm.LawKit
section New
variable {p : Program} {l : Launch} {e : Env} {R : Room} {s : State} {m : MethodId} {args : Array Value} {below : List Frame} {meth : Method} {c : Code} {T : State} {locs : List Loc} {cells slots : Nat}
theorem retI (X : Stand p l e R s m args below meth c T locs cells slots) (hx : p.tables.exec = Jvm.exec) {pc : Nat} {Ls : Array Slot} {z : Int32} {rest : List Value} (hret : meth.sig.returnType = some .int) (hd : decode c.code pc = .ok (.ireturn, 1)) {fs : List Frame}
    (hl : ∀ (f : JFrame) (acts : List Action), f.method = m → f.locked = none → f.entered = [] → (doReturn e (T.setTop f) acts (some (.int z))).1 = T.setFrames fs) : Steps p.tables e below (T.setTop (mkF m pc Ls (.int z :: rest))) (T.setFrames fs) :=
  retOut X hx hret rfl (Or.inl ⟨rfl, Or.inl rfl, _, rfl⟩) hd hl
theorem own_sta_keep {Z : State} {h h' : Heap} {C n d : String} {w : Value} {ws : List Addr} (F : Sta Z h C n d w) (K : Keep h h' ws) (ns : ∀ x ∈ ws, ∀ cell : Cell, h[x]? = some cell → cell.vm.isStatics = false) : Sta Z h' C n d w := by
  obtain ⟨cf, i, k, f, st, cell, h1, h2, h3, h4, h5, h6, h7⟩ := F
  refine ⟨cf, i, k, f, st, cell, h1, h2, h3, h4, K.2.1 st cell h5 (fun hm => ?_), h6, h7⟩
  rw [ns st hm cell h5] at h6
  cases h6
theorem own_selp {s : State} {args : Array Value} {w y : MethodName} (hs : (Cond.selects w.cls w w).before args s = true) (e : w.cls = y.cls) (hp : s.PrivateAt y) (hi : (Cond.instanceMethod y).before args s = true) (hy : y.cls ≠ "java/lang/invoke/MethodHandle" ∧ y.cls ≠ "java/lang/invoke/VarHandle") : (Cond.selects y.cls y y).before args s = true := by
  obtain ⟨c2, r2, m2, q1, q2, q3, q4, kP, hkP, hkPi⟩ := Cond.selects_spec hs
  exact selects_self_of_private (c := m2.cls) (by rw [← e]; exact findClass_of_methodNamed q3) hkP hkPi hp hi hy
end New
end Jvm.RoadKit
namespace Jvm.Pilot.@@N@@
open Jvm Jvm.ClassFile Sem Op Lib Jvm.Free Jvm.Stand Jvm.LawKit Jvm.RoadKit Bundle Jvm.Pilot.@@N@@.Jvm.D
theorem d1_0 : decode jdk_42_method_3_code 0 = .ok (.aload_n 0, 1) := by decide +kernel
theorem d1_1 : decode jdk_42_method_3_code 1 = .ok (.aload_n 1, 1) := by decide +kernel
theorem d1_2 : decode jdk_42_method_3_code 2 = .ok (.iconst 0, 1) := by decide +kernel
theorem d1_3 : decode jdk_42_method_3_code 3 = .ok (.aload_n 1, 1) := by decide +kernel
theorem d1_4 : decode jdk_42_method_3_code 4 = .ok (.arraylength, 1) := by decide +kernel
theorem d1_5 : decode jdk_42_method_3_code 5 = .ok (.aconst_null, 1) := by decide +kernel
theorem d1_6 : decode jdk_42_method_3_code 6 = .ok (.invokespecial 27, 3) := by decide +kernel
theorem d1_9 : decode jdk_42_method_3_code 9 = .ok (.return_, 1) := by decide +kernel
theorem d2_0 : decode jdk_42_method_149_code 0 = .ok (.aload_n 0, 1) := by decide +kernel
theorem d2_1 : decode jdk_42_method_149_code 1 = .ok (.invokespecial 1, 3) := by decide +kernel
theorem d2_4 : decode jdk_42_method_149_code 4 = .ok (.iload_n 3, 1) := by decide +kernel
theorem d2_5 : decode jdk_42_method_149_code 5 = .ok (.ifCond .ne 22, 3) := by decide +kernel
theorem d2_27 : decode jdk_42_method_149_code 27 = .ok (.getstatic 38, 3) := by decide +kernel
theorem d2_30 : decode jdk_42_method_149_code 30 = .ok (.ifCond .eq 28, 3) := by decide +kernel
theorem d2_33 : decode jdk_42_method_149_code 33 = .ok (.aload_n 1, 1) := by decide +kernel
theorem d2_34 : decode jdk_42_method_149_code 34 = .ok (.iload_n 2, 1) := by decide +kernel
theorem d2_35 : decode jdk_42_method_149_code 35 = .ok (.iload_n 3, 1) := by decide +kernel
theorem d2_36 : decode jdk_42_method_149_code 36 = .ok (.invokestatic 177, 3) := by decide +kernel
theorem d2_39 : decode jdk_42_method_149_code 39 = .ok (.astore 5, 2) := by decide +kernel
theorem d2_41 : decode jdk_42_method_149_code 41 = .ok (.aload_n 0, 1) := by decide +kernel
theorem d2_42 : decode jdk_42_method_149_code 42 = .ok (.aload 5, 2) := by decide +kernel
theorem d2_44 : decode jdk_42_method_149_code 44 = .ok (.iload_n 3, 1) := by decide +kernel
theorem d2_45 : decode jdk_42_method_149_code 45 = .ok (.invokestatic 47, 3) := by decide +kernel
theorem d2_48 : decode jdk_42_method_149_code 48 = .ok (.putfield 15, 3) := by decide +kernel
theorem d2_51 : decode jdk_42_method_149_code 51 = .ok (.aload_n 0, 1) := by decide +kernel
theorem d2_52 : decode jdk_42_method_149_code 52 = .ok (.aload 5, 2) := by decide +kernel
theorem d2_54 : decode jdk_42_method_149_code 54 = .ok (.putfield 9, 3) := by decide +kernel
theorem d2_57 : decode jdk_42_method_149_code 57 = .ok (.return_, 1) := by decide +kernel
theorem d4_0 : decode jdk_52_method_16_code 0 = .ok (.iload_n 2, 1) := by decide +kernel
theorem d4_1 : decode jdk_52_method_16_code 1 = .ok (.newarray .byte, 2) := by decide +kernel
theorem d4_3 : decode jdk_52_method_16_code 3 = .ok (.astore_n 3, 1) := by decide +kernel
theorem d4_4 : decode jdk_52_method_16_code 4 = .ok (.aload_n 0, 1) := by decide +kernel
theorem d4_5 : decode jdk_52_method_16_code 5 = .ok (.iload_n 1, 1) := by decide +kernel
theorem d4_6 : decode jdk_52_method_16_code 6 = .ok (.aload_n 3, 1) := by decide +kernel
theorem d4_7 : decode jdk_52_method_16_code 7 = .ok (.iconst 0, 1) := by decide +kernel
theorem d4_8 : decode jdk_52_method_16_code 8 = .ok (.iload_n 2, 1) := by decide +kernel
theorem d4_9 : decode jdk_52_method_16_code 9 = .ok (.invokestatic 115, 3) := by decide +kernel
theorem d4_12 : decode jdk_52_method_16_code 12 = .ok (.istore 4, 2) := by decide +kernel
theorem d4_14 : decode jdk_52_method_16_code 14 = .ok (.iload 4, 2) := by decide +kernel
theorem d4_16 : decode jdk_52_method_16_code 16 = .ok (.iload_n 2, 1) := by decide +kernel
theorem d4_17 : decode jdk_52_method_16_code 17 = .ok (.if_icmp .eq 40, 3) := by decide +kernel
theorem d4_57 : decode jdk_52_method_16_code 57 = .ok (.aload_n 3, 1) := by decide +kernel
theorem d4_58 : decode jdk_52_method_16_code 58 = .ok (.areturn, 1) := by decide +kernel
theorem d5_0 : decode jdk_52_method_21_code 0 = .ok (.iconst 0, 1) := by decide +kernel
theorem d5_1 : decode jdk_52_method_21_code 1 = .ok (.istore 5, 2) := by decide +kernel
theorem d5_3 : decode jdk_52_method_21_code 3 = .ok (.iload 5, 2) := by decide +kernel
theorem d5_5 : decode jdk_52_method_21_code 5 = .ok (.iload 4, 2) := by decide +kernel
theorem d5_7 : decode jdk_52_method_21_code 7 = .ok (.if_icmp .ge 37, 3) := by decide +kernel
theorem d5_10 : decode jdk_52_method_21_code 10 = .ok (.aload_n 0, 1) := by decide +kernel
theorem d5_11 : decode jdk_52_method_21_code 11 = .ok (.iload_n 1, 1) := by decide +kernel
theorem d5_12 : decode jdk_52_method_21_code 12 = .ok (.caload, 1) := by decide +kernel
theorem d5_13 : decode jdk_52_method_21_code 13 = .ok (.istore 6, 2) := by decide +kernel
theorem d5_15 : decode jdk_52_method_21_code 15 = .ok (.iload 6, 2) := by decide +kernel
theorem d5_17 : decode jdk_52_method_21_code 17 = .ok (.sipush 255, 3) := by decide +kernel
theorem d5_20 : decode jdk_52_method_21_code 20 = .ok (.if_icmp .le 6, 3) := by decide +kernel
theorem d5_26 : decode jdk_52_method_21_code 26 = .ok (.aload_n 2, 1) := by decide +kernel
theorem d5_27 : decode jdk_52_method_21_code 27 = .ok (.iload_n 3, 1) := by decide +kernel
theorem d5_28 : decode jdk_52_method_21_code 28 = .ok (.iload 6, 2) := by decide +kernel
theorem d5_30 : decode jdk_52_method_21_code 30 = .ok (.i2b, 1) := by decide +kernel
theorem d5_31 : decode jdk_52_method_21_code 31 = .ok (.bastore, 1) := by decide +kernel
theorem d5_32 : decode jdk_52_method_21_code 32 = .ok (.iinc 1 1, 3) := by decide +kernel
theorem d5_35 : decode jdk_52_method_21_code 35 = .ok (.iinc 3 1, 3) := by decide +kernel
theorem d5_38 : decode jdk_52_method_21_code 38 = .ok (.iinc 5 1, 3) := by decide +kernel
theorem d5_41 : decode jdk_52_method_21_code 41 = .ok (.goto (-38), 3) := by decide +kernel
theorem d5_44 : decode jdk_52_method_21_code 44 = .ok (.iload 4, 2) := by decide +kernel
theorem d5_46 : decode jdk_52_method_21_code 46 = .ok (.ireturn, 1) := by decide +kernel
theorem d6_0 : decode jdk_52_method_15_code 0 = .ok (.iload_n 1, 1) := by decide +kernel
theorem d6_1 : decode jdk_52_method_15_code 1 = .ok (.aload_n 0, 1) := by decide +kernel
theorem d6_2 : decode jdk_52_method_15_code 2 = .ok (.arraylength, 1) := by decide +kernel
theorem d6_3 : decode jdk_52_method_15_code 3 = .ok (.isub, 1) := by decide +kernel
theorem d6_4 : decode jdk_52_method_15_code 4 = .ok (.bipush 31, 2) := by decide +kernel
theorem d6_6 : decode jdk_52_method_15_code 6 = .ok (.iushr, 1) := by decide +kernel
theorem d6_7 : decode jdk_52_method_15_code 7 = .ok (.i2b, 1) := by decide +kernel
theorem d6_8 : decode jdk_52_method_15_code 8 = .ok (.ireturn, 1) := by decide +kernel
theorem d7_0 : decode jdk_38_method_2_code 0 = .ok (.aload_n 0, 1) := by decide +kernel
theorem d7_1 : decode jdk_38_method_2_code 1 = .ok (.invokespecial 1, 3) := by decide +kernel
theorem d7_4 : decode jdk_38_method_2_code 4 = .ok (.aload_n 0, 1) := by decide +kernel
theorem d7_5 : decode jdk_38_method_2_code 5 = .ok (.getstatic 39, 3) := by decide +kernel
theorem d7_8 : decode jdk_38_method_2_code 8 = .ok (.putfield 9, 3) := by decide +kernel
theorem d7_11 : decode jdk_38_method_2_code 11 = .ok (.return_, 1) := by decide +kernel
theorem d8_0 : decode jdk_39_method_1_code 0 = .ok (.aload_n 0, 1) := by decide +kernel
theorem d8_1 : decode jdk_39_method_1_code 1 = .ok (.invokespecial 1, 3) := by decide +kernel
theorem d8_4 : decode jdk_39_method_1_code 4 = .ok (.aload_n 0, 1) := by decide +kernel
theorem d8_5 : decode jdk_39_method_1_code 5 = .ok (.iconst 0, 1) := by decide +kernel
theorem d8_6 : decode jdk_39_method_1_code 6 = .ok (.putfield 7, 3) := by decide +kernel
theorem d8_9 : decode jdk_39_method_1_code 9 = .ok (.return_, 1) := by decide +kernel
theorem d9_0 : decode jdk_22_method_1_code 0 = .ok (.aload_n 0, 1) := by decide +kernel
theorem d9_1 : decode jdk_22_method_1_code 1 = .ok (.invokespecial 1, 3) := by decide +kernel
theorem d9_4 : decode jdk_22_method_1_code 4 = .ok (.return_, 1) := by decide +kernel
theorem d10_0 : decode jdk_38_method_25_code 0 = .ok (.aload_n 0, 1) := by decide +kernel
theorem d10_1 : decode jdk_38_method_25_code 1 = .ok (.dup, 1) := by decide +kernel
theorem d10_2 : decode jdk_38_method_25_code 2 = .ok (.getfield 63, 3) := by decide +kernel
theorem d10_5 : decode jdk_38_method_25_code 5 = .ok (.iconst 1, 1) := by decide +kernel
theorem d10_6 : decode jdk_38_method_25_code 6 = .ok (.iadd, 1) := by decide +kernel
theorem d10_7 : decode jdk_38_method_25_code 7 = .ok (.putfield 63, 3) := by decide +kernel
theorem d10_10 : decode jdk_38_method_25_code 10 = .ok (.aload_n 0, 1) := by decide +kernel
theorem d10_11 : decode jdk_38_method_25_code 11 = .ok (.aload_n 1, 1) := by decide +kernel
theorem d10_12 : decode jdk_38_method_25_code 12 = .ok (.aload_n 0, 1) := by decide +kernel
theorem d10_13 : decode jdk_38_method_25_code 13 = .ok (.getfield 9, 3) := by decide +kernel
theorem d10_16 : decode jdk_38_method_25_code 16 = .ok (.aload_n 0, 1) := by decide +kernel
theorem d10_17 : decode jdk_38_method_25_code 17 = .ok (.getfield 48, 3) := by decide +kernel
theorem d10_20 : decode jdk_38_method_25_code 20 = .ok (.invokevirtual 131, 3) := by decide +kernel
theorem d10_23 : decode jdk_38_method_25_code 23 = .ok (.iconst 1, 1) := by decide +kernel
theorem d10_24 : decode jdk_38_method_25_code 24 = .ok (.ireturn, 1) := by decide +kernel
theorem d11_0 : decode jdk_38_method_24_code 0 = .ok (.iload_n 3, 1) := by decide +kernel
theorem d11_1 : decode jdk_38_method_24_code 1 = .ok (.aload_n 2, 1) := by decide +kernel
theorem d11_2 : decode jdk_38_method_24_code 2 = .ok (.arraylength, 1) := by decide +kernel
theorem d11_3 : decode jdk_38_method_24_code 3 = .ok (.if_icmp .ne 8, 3) := by decide +kernel
theorem d11_6 : decode jdk_38_method_24_code 6 = .ok (.aload_n 0, 1) := by decide +kernel
theorem d11_7 : decode jdk_38_method_24_code 7 = .ok (.invokevirtual 129, 3) := by decide +kernel
theorem d11_10 : decode jdk_38_method_24_code 10 = .ok (.astore_n 2, 1) := by decide +kernel
theorem d11_11 : decode jdk_38_method_24_code 11 = .ok (.aload_n 2, 1) := by decide +kernel
theorem d11_12 : decode jdk_38_method_24_code 12 = .ok (.iload_n 3, 1) := by decide +kernel
theorem d11_13 : decode jdk_38_method_24_code 13 = .ok (.aload_n 1, 1) := by decide +kernel
theorem d11_14 : decode jdk_38_method_24_code 14 = .ok (.aastore, 1) := by decide +kernel
theorem d11_15 : decode jdk_38_method_24_code 15 = .ok (.aload_n 0, 1) := by decide +kernel
theorem d11_16 : decode jdk_38_method_24_code 16 = .ok (.iload_n 3, 1) := by decide +kernel
theorem d11_17 : decode jdk_38_method_24_code 17 = .ok (.iconst 1, 1) := by decide +kernel
theorem d11_18 : decode jdk_38_method_24_code 18 = .ok (.iadd, 1) := by decide +kernel
theorem d11_19 : decode jdk_38_method_24_code 19 = .ok (.putfield 48, 3) := by decide +kernel
theorem d11_22 : decode jdk_38_method_24_code 22 = .ok (.return_, 1) := by decide +kernel
theorem d12_0 : decode jdk_38_method_7_code 0 = .ok (.aload_n 0, 1) := by decide +kernel
theorem d12_1 : decode jdk_38_method_7_code 1 = .ok (.aload_n 0, 1) := by decide +kernel
theorem d12_2 : decode jdk_38_method_7_code 2 = .ok (.getfield 48, 3) := by decide +kernel
theorem d12_5 : decode jdk_38_method_7_code 5 = .ok (.iconst 1, 1) := by decide +kernel
theorem d12_6 : decode jdk_38_method_7_code 6 = .ok (.iadd, 1) := by decide +kernel
theorem d12_7 : decode jdk_38_method_7_code 7 = .ok (.invokevirtual 69, 3) := by decide +kernel
theorem d12_10 : decode jdk_38_method_7_code 10 = .ok (.areturn, 1) := by decide +kernel
theorem d13_0 : decode jdk_38_method_6_code 0 = .ok (.aload_n 0, 1) := by decide +kernel
theorem d13_1 : decode jdk_38_method_6_code 1 = .ok (.getfield 9, 3) := by decide +kernel
theorem d13_4 : decode jdk_38_method_6_code 4 = .ok (.arraylength, 1) := by decide +kernel
theorem d13_5 : decode jdk_38_method_6_code 5 = .ok (.istore_n 2, 1) := by decide +kernel
theorem d13_6 : decode jdk_38_method_6_code 6 = .ok (.iload_n 2, 1) := by decide +kernel
theorem d13_7 : decode jdk_38_method_6_code 7 = .ok (.ifCond .gt 13, 3) := by decide +kernel
theorem d13_10 : decode jdk_38_method_6_code 10 = .ok (.aload_n 0, 1) := by decide +kernel
theorem d13_11 : decode jdk_38_method_6_code 11 = .ok (.getfield 9, 3) := by decide +kernel
theorem d13_14 : decode jdk_38_method_6_code 14 = .ok (.getstatic 39, 3) := by decide +kernel
theorem d13_17 : decode jdk_38_method_6_code 17 = .ok (.if_acmp .eq 28, 3) := by decide +kernel
theorem d13_45 : decode jdk_38_method_6_code 45 = .ok (.aload_n 0, 1) := by decide +kernel
theorem d13_46 : decode jdk_38_method_6_code 46 = .ok (.bipush 10, 2) := by decide +kernel
theorem d13_48 : decode jdk_38_method_6_code 48 = .ok (.iload_n 1, 1) := by decide +kernel
theorem d13_49 : decode jdk_38_method_6_code 49 = .ok (.invokestatic 79, 3) := by decide +kernel
theorem d13_52 : decode jdk_38_method_6_code 52 = .ok (.anewarray 7, 3) := by decide +kernel
theorem d13_55 : decode jdk_38_method_6_code 55 = .ok (.dup_x1, 1) := by decide +kernel
theorem d13_56 : decode jdk_38_method_6_code 56 = .ok (.putfield 9, 3) := by decide +kernel
theorem d13_59 : decode jdk_38_method_6_code 59 = .ok (.areturn, 1) := by decide +kernel
theorem d14_0 : decode jdk_29_method_65_code 0 = .ok (.iload_n 0, 1) := by decide +kernel
theorem d14_1 : decode jdk_29_method_65_code 1 = .ok (.iload_n 1, 1) := by decide +kernel
theorem d14_2 : decode jdk_29_method_65_code 2 = .ok (.if_icmp .lt 7, 3) := by decide +kernel
theorem d14_5 : decode jdk_29_method_65_code 5 = .ok (.iload_n 0, 1) := by decide +kernel
theorem d14_6 : decode jdk_29_method_65_code 6 = .ok (.goto 4, 3) := by decide +kernel
theorem d14_10 : decode jdk_29_method_65_code 10 = .ok (.ireturn, 1) := by decide +kernel
theorem d15_0 : decode prog_5_method_1_code 0 = .ok (.aload_n 0, 1) := by decide +kernel
theorem d15_1 : decode prog_5_method_1_code 1 = .ok (.invokespecial 1, 3) := by decide +kernel
theorem d15_4 : decode prog_5_method_1_code 4 = .ok (.aload_n 0, 1) := by decide +kernel
theorem d15_5 : decode prog_5_method_1_code 5 = .ok (.aload_n 1, 1) := by decide +kernel
theorem d15_6 : decode prog_5_method_1_code 6 = .ok (.putfield 7, 3) := by decide +kernel
theorem d15_9 : decode prog_5_method_1_code 9 = .ok (.return_, 1) := by decide +kernel
theorem d16_0 : decode prog_5_method_3_code 0 = .ok (.iload_n 2, 1) := by decide +kernel
theorem d16_1 : decode prog_5_method_3_code 1 = .ok (.ifCond .ne 10, 3) := by decide +kernel
theorem d16_4 : decode prog_5_method_3_code 4 = .ok (.invokestatic 13, 3) := by decide +kernel
theorem d16_7 : decode prog_5_method_3_code 7 = .ok (.astore_n 3, 1) := by decide +kernel
theorem d16_8 : decode prog_5_method_3_code 8 = .ok (.goto 19, 3) := by decide +kernel
theorem d16_11 : decode prog_5_method_3_code 11 = .ok (.aload_n 1, 1) := by decide +kernel
theorem d16_12 : decode prog_5_method_3_code 12 = .ok (.iload_n 2, 1) := by decide +kernel
theorem d16_13 : decode prog_5_method_3_code 13 = .ok (.iconst 1, 1) := by decide +kernel
theorem d16_14 : decode prog_5_method_3_code 14 = .ok (.isub, 1) := by decide +kernel
theorem d16_15 : decode prog_5_method_3_code 15 = .ok (.invokeinterface 19 2, 5) := by decide +kernel
theorem d16_20 : decode prog_5_method_3_code 20 = .ok (.checkcast 23, 3) := by decide +kernel
theorem d16_23 : decode prog_5_method_3_code 23 = .ok (.invokestatic 25, 3) := by decide +kernel
theorem d16_26 : decode prog_5_method_3_code 26 = .ok (.astore_n 3, 1) := by decide +kernel
theorem d16_27 : decode prog_5_method_3_code 27 = .ok (.aload_n 3, 1) := by decide +kernel
theorem d16_28 : decode prog_5_method_3_code 28 = .ok (.areturn, 1) := by decide +kernel
theorem d17_0 : decode jdk_38_method_20_code 0 = .ok (.iload_n 1, 1) := by decide +kernel
theorem d17_1 : decode jdk_38_method_20_code 1 = .ok (.aload_n 0, 1) := by decide +kernel
theorem d17_2 : decode jdk_38_method_20_code 2 = .ok (.getfield 48, 3) := by decide +kernel
theorem d17_5 : decode jdk_38_method_20_code 5 = .ok (.invokestatic 118, 3) := by decide +kernel
theorem d17_8 : decode jdk_38_method_20_code 8 = .ok (.pop, 1) := by decide +kernel
theorem d17_9 : decode jdk_38_method_20_code 9 = .ok (.aload_n 0, 1) := by decide +kernel
theorem d17_10 : decode jdk_38_method_20_code 10 = .ok (.iload_n 1, 1) := by decide +kernel
theorem d17_11 : decode jdk_38_method_20_code 11 = .ok (.invokevirtual 123, 3) := by decide +kernel
theorem d17_14 : decode jdk_38_method_20_code 14 = .ok (.areturn, 1) := by decide +kernel
theorem d18_0 : decode jdk_31_method_17_code 0 = .ok (.iload_n 0, 1) := by decide +kernel
theorem d18_1 : decode jdk_31_method_17_code 1 = .ok (.iload_n 1, 1) := by decide +kernel
theorem d18_2 : decode jdk_31_method_17_code 2 = .ok (.aconst_null, 1) := by decide +kernel
theorem d18_3 : decode jdk_31_method_17_code 3 = .ok (.invokestatic 105, 3) := by decide +kernel
theorem d18_6 : decode jdk_31_method_17_code 6 = .ok (.ireturn, 1) := by decide +kernel
theorem d19_0 : decode jdk_41_method_11_code 0 = .ok (.iload_n 0, 1) := by decide +kernel
theorem d19_1 : decode jdk_41_method_11_code 1 = .ok (.ifCond .lt 8, 3) := by decide +kernel
theorem d19_4 : decode jdk_41_method_11_code 4 = .ok (.iload_n 0, 1) := by decide +kernel
theorem d19_5 : decode jdk_41_method_11_code 5 = .ok (.iload_n 1, 1) := by decide +kernel
theorem d19_6 : decode jdk_41_method_11_code 6 = .ok (.if_icmp .lt 10, 3) := by decide +kernel
theorem d19_16 : decode jdk_41_method_11_code 16 = .ok (.iload_n 0, 1) := by decide +kernel
theorem d19_17 : decode jdk_41_method_11_code 17 = .ok (.ireturn, 1) := by decide +kernel
theorem d20_0 : decode jdk_38_method_18_code 0 = .ok (.aload_n 0, 1) := by decide +kernel
theorem d20_1 : decode jdk_38_method_18_code 1 = .ok (.getfield 9, 3) := by decide +kernel
theorem d20_4 : decode jdk_38_method_18_code 4 = .ok (.iload_n 1, 1) := by decide +kernel
theorem d20_5 : decode jdk_38_method_18_code 5 = .ok (.aaload, 1) := by decide +kernel
theorem d20_6 : decode jdk_38_method_18_code 6 = .ok (.areturn, 1) := by decide +kernel
theorem d21_0 : decode jdk_40_method_37_code 0 = .ok (.new 96, 3) := by decide +kernel
theorem d21_3 : decode jdk_40_method_37_code 3 = .ok (.dup, 1) := by decide +kernel
theorem d21_4 : decode jdk_40_method_37_code 4 = .ok (.aload_n 0, 1) := by decide +kernel
theorem d21_5 : decode jdk_40_method_37_code 5 = .ok (.invokespecial 98, 3) := by decide +kernel
theorem d21_8 : decode jdk_40_method_37_code 8 = .ok (.areturn, 1) := by decide +kernel
theorem d22_0 : decode jdk_44_method_1_code 0 = .ok (.aload_n 0, 1) := by decide +kernel
theorem d22_1 : decode jdk_44_method_1_code 1 = .ok (.invokespecial 1, 3) := by decide +kernel
theorem d22_4 : decode jdk_44_method_1_code 4 = .ok (.aload_n 0, 1) := by decide +kernel
theorem d22_5 : decode jdk_44_method_1_code 5 = .ok (.aload_n 1, 1) := by decide +kernel
theorem d22_6 : decode jdk_44_method_1_code 6 = .ok (.invokestatic 7, 3) := by decide +kernel
theorem d22_9 : decode jdk_44_method_1_code 9 = .ok (.putfield 13, 3) := by decide +kernel
theorem d22_12 : decode jdk_44_method_1_code 12 = .ok (.aload_n 0, 1) := by decide +kernel
theorem d22_13 : decode jdk_44_method_1_code 13 = .ok (.getstatic 19, 3) := by decide +kernel
theorem d22_16 : decode jdk_44_method_1_code 16 = .ok (.putfield 24, 3) := by decide +kernel
theorem d22_19 : decode jdk_44_method_1_code 19 = .ok (.return_, 1) := by decide +kernel
theorem d23_0 : decode jdk_46_method_1_code 0 = .ok (.aload_n 0, 1) := by decide +kernel
theorem d23_1 : decode jdk_46_method_1_code 1 = .ok (.invokespecial 1, 3) := by decide +kernel
theorem d23_4 : decode jdk_46_method_1_code 4 = .ok (.return_, 1) := by decide +kernel
theorem d24_0 : decode jdk_47_method_1_code 0 = .ok (.aload_n 0, 1) := by decide +kernel
theorem d24_1 : decode jdk_47_method_1_code 1 = .ok (.invokespecial 1, 3) := by decide +kernel
theorem d24_4 : decode jdk_47_method_1_code 4 = .ok (.return_, 1) := by decide +kernel
theorem d25_0 : decode jdk_31_method_10_code 0 = .ok (.aload_n 0, 1) := by decide +kernel
theorem d25_1 : decode jdk_31_method_10_code 1 = .ok (.ifnonnull 11, 3) := by decide +kernel
theorem d25_12 : decode jdk_31_method_10_code 12 = .ok (.aload_n 0, 1) := by decide +kernel
theorem d25_13 : decode jdk_31_method_10_code 13 = .ok (.areturn, 1) := by decide +kernel
theorem d26_0 : decode jdk_44_method_3_code 0 = .ok (.aload_n 0, 1) := by decide +kernel
theorem d26_1 : decode jdk_44_method_3_code 1 = .ok (.getfield 24, 3) := by decide +kernel
theorem d26_4 : decode jdk_44_method_3_code 4 = .ok (.getstatic 19, 3) := by decide +kernel
theorem d26_7 : decode jdk_44_method_3_code 7 = .ok (.if_acmp .eq 7, 3) := by decide +kernel
theorem d26_14 : decode jdk_44_method_3_code 14 = .ok (.iconst 1, 1) := by decide +kernel
theorem d26_15 : decode jdk_44_method_3_code 15 = .ok (.ireturn, 1) := by decide +kernel
theorem d27_0 : decode jdk_44_method_5_code 0 = .ok (.iload_n 1, 1) := by decide +kernel
theorem d27_1 : decode jdk_44_method_5_code 1 = .ok (.ifCond .ne 8, 3) := by decide +kernel
theorem d27_4 : decode jdk_44_method_5_code 4 = .ok (.aload_n 0, 1) := by decide +kernel
theorem d27_5 : decode jdk_44_method_5_code 5 = .ok (.getfield 13, 3) := by decide +kernel
theorem d27_8 : decode jdk_44_method_5_code 8 = .ok (.areturn, 1) := by decide +kernel
theorem d28_0 : decode jdk_42_method_66_code 0 = .ok (.aload_n 0, 1) := by decide +kernel
theorem d28_1 : decode jdk_42_method_66_code 1 = .ok (.aload_n 1, 1) := by decide +kernel
theorem d28_2 : decode jdk_42_method_66_code 2 = .ok (.if_acmp .ne 5, 3) := by decide +kernel
theorem d28_5 : decode jdk_42_method_66_code 5 = .ok (.iconst 1, 1) := by decide +kernel
theorem d28_6 : decode jdk_42_method_66_code 6 = .ok (.ireturn, 1) := by decide +kernel
theorem d29_0 : decode jdk_40_method_36_code 0 = .ok (.getstatic 90, 3) := by decide +kernel
theorem d29_3 : decode jdk_40_method_36_code 3 = .ok (.areturn, 1) := by decide +kernel
theorem d30_0 : decode jdk_45_method_3_code 0 = .ok (.aload_n 0, 1) := by decide +kernel
theorem d30_1 : decode jdk_45_method_3_code 1 = .ok (.getfield 7, 3) := by decide +kernel
theorem d30_4 : decode jdk_45_method_3_code 4 = .ok (.arraylength, 1) := by decide +kernel
theorem d30_5 : decode jdk_45_method_3_code 5 = .ok (.ireturn, 1) := by decide +kernel
theorem pn_0 : plainName "java/lang/StringUTF16" = true := by first | (simp [plainName, overriddenIn]; done) | decide +kernel
theorem pd_1 : parseMethodDescriptor "([CI[BII)I" = some ⟨[(.array .char), .int, (.array .byte), .int, .int], some .int⟩ := by decide +kernel
theorem pn_2 : plainName "java/lang/String" = true := by first | (simp [plainName, overriddenIn]; done) | decide +kernel
theorem pd_3 : parseMethodDescriptor "([CII)[B" = some ⟨[(.array .char), .int, .int], some (.array .byte)⟩ := by decide +kernel
theorem pd_4 : parseMethodDescriptor "([BI)B" = some ⟨[(.array .byte), .int], some .byte⟩ := by decide +kernel
theorem pd_5 : parseMethodDescriptor "([CIILjava/lang/Void;)V" = some ⟨[(.array .char), .int, .int, (.object "java/lang/Void")], none⟩ := by decide +kernel
theorem pn_6 : plainName "java/util/AbstractCollection" = true := by first | (simp [plainName, overriddenIn]; done) | decide +kernel
theorem pn_7 : plainName "java/util/AbstractList" = true := by first | (simp [plainName, overriddenIn]; done) | decide +kernel
theorem pd_8 : parseMethodDescriptor "()V" = some ⟨[], none⟩ := by decide +kernel
theorem pn_9 : plainName "java/util/ArrayList" = true := by first | (simp [plainName, overriddenIn]; done) | decide +kernel
theorem pd_10 : parseMethodDescriptor "(II)I" = some ⟨[.int, .int], some .int⟩ := by decide +kernel
theorem pd_11 : parseMethodDescriptor "(I)[Ljava/lang/Object;" = some ⟨[.int], some (.array (.object "java/lang/Object"))⟩ := by decide +kernel
theorem pd_12 : parseMethodDescriptor "()[Ljava/lang/Object;" = some ⟨[], some (.array (.object "java/lang/Object"))⟩ := by decide +kernel
theorem pd_13 : parseMethodDescriptor "(Ljava/lang/Object;[Ljava/lang/Object;I)V" = some ⟨[(.object "java/lang/Object"), (.array (.object "java/lang/Object")), .int], none⟩ := by decide +kernel
theorem pn_14 : plainName "jdk/internal/util/Preconditions" = true := by first | (simp [plainName, overriddenIn]; done) | decide +kernel
theorem pn_15 : plainName "java/util/Objects" = true := by first | (simp [plainName, overriddenIn]; done) | decide +kernel
theorem pd_16 : parseMethodDescriptor "(IILjava/util/function/BiFunction;)I" = some ⟨[.int, .int, (.object "java/util/function/BiFunction")], some .int⟩ := by decide +kernel
theorem pd_17 : parseMethodDescriptor "(I)Ljava/lang/Object;" = some ⟨[.int], some (.object "java/lang/Object")⟩ := by decide +kernel
theorem pn_18 : plainName "java/util/ImmutableCollections$AbstractImmutableCollection" = true := by first | (simp [plainName, overriddenIn]; done) | decide +kernel
theorem pn_19 : plainName "java/util/ImmutableCollections$AbstractImmutableList" = true := by first | (simp [plainName, overriddenIn]; done) | decide +kernel
theorem pn_20 : plainName "java/util/ImmutableCollections$List12" = true := by first | (simp [plainName, overriddenIn]; done) | decide +kernel
theorem pd_21 : parseMethodDescriptor "(Ljava/lang/Object;)Ljava/lang/Object;" = some ⟨[(.object "java/lang/Object")], some (.object "java/lang/Object")⟩ := by decide +kernel
theorem pn_22 : plainName "java/util/List" = true := by first | (simp [plainName, overriddenIn]; done) | decide +kernel
theorem pd_23 : parseMethodDescriptor "(Ljava/lang/Object;)V" = some ⟨[(.object "java/lang/Object")], none⟩ := by decide +kernel
theorem pn_24 : plainName "com/example/dvarapala/dvarapala/lock/ExclusiveRule" = true := by first | (simp [plainName, overriddenIn]; done) | decide +kernel
theorem pd_25 : parseMethodDescriptor "()Ljava/util/List;" = some ⟨[], some (.object "java/util/List")⟩ := by decide +kernel
theorem pd_26 : parseMethodDescriptor "(Ljava/lang/Object;)Ljava/util/List;" = some ⟨[(.object "java/lang/Object")], some (.object "java/util/List")⟩ := by decide +kernel
theorem pn_27 : plainName "java/util/ImmutableCollections$ListN" = true := by first | (simp [plainName, overriddenIn]; done) | decide +kernel
theorem pn_28 : plainName "com/example/dvarapala/dvarapala/lock/ExclusiveRuleBlockersPinLaw" = true := by first | (simp [plainName, overriddenIn]; done) | decide +kernel
theorem pd_29 : parseMethodDescriptor "([C)V" = some ⟨[(.array .char)], none⟩ := by decide +kernel
theorem pd_30 : parseMethodDescriptor "(Ljava/lang/Object;)Z" = some ⟨[(.object "java/lang/Object")], some .boolean⟩ := by decide +kernel
theorem pd_31 : parseMethodDescriptor "(Ljava/lang/String;)V" = some ⟨[(.object "java/lang/String")], none⟩ := by decide +kernel
theorem pd_32 : parseMethodDescriptor "(Ljava/util/List;I)Ljava/util/List;" = some ⟨[(.object "java/util/List"), .int], some (.object "java/util/List")⟩ := by decide +kernel
theorem pd_33 : parseMethodDescriptor "()I" = some ⟨[], some .int⟩ := by decide +kernel
theorem own_ncs {args : Array Value} {s : State} {t : Term} {x : Int32} (h : t.eval args s none [] s = some (.int x)) (n : (Cond.eq t (.int 0)).value args s none s [] = some (!true)) : ¬ x = (0 : Int32) := by
  rintro rfl
  rw [eq_i h (Term.int_eval 0) rfl] at n
  cases n
theorem own_c255 {y c : Int32} (e : c = ((y &&& (255 : Int32)).toUInt32.toUInt16.toUInt32.toInt32)) : ¬ (255 : Int32) < nar .char c := by
  have h1 := c_mask y 255 8 (by decide) (by decide)
  have h2 := c_i2c (y &&& (255 : Int32))
  have h3 := c_i2c c
  rw [← e] at h2
  rw [Int32.lt_iff_toInt_lt]
  show ¬ (255 : Int32).toInt < (c.toUInt32.toUInt16.toUInt32.toInt32).toInt
  have z : (255 : Int32).toInt = 255 := rfl
  omega
def own_ch (x : Int32) : Int32 := nar .char ((x &&& (255 : Int32)).toUInt32.toUInt16.toUInt32.toInt32)
theorem own_chn (x : Int32) : nar .char (own_ch x) = own_ch x := by
  have h : ∀ y : Int32, nar .char (nar .char y) = nar .char y := fun y => by
    have a := c_i2c y
    have b := c_i2c (y.toUInt32.toUInt16.toUInt32.toInt32)
    rw [← Int32.toInt_inj]
    show (y.toUInt32.toUInt16.toUInt32.toInt32.toUInt32.toUInt16.toUInt32.toInt32).toInt = (y.toUInt32.toUInt16.toUInt32.toInt32).toInt
    omega
  exact h _
theorem own_len {args : Array Value} {Z : State} {t : Term} {x : Addr} {cl : Cell} {ty : FieldType} {v : Int32} (ht : t.eval args Z none [] Z = some (.ref x)) (ha : Arr Z Z.heap x cl ty) (h : (Term.length t).eval args Z none [] Z = some (.int v)) : cl.slots.size < 2 ^ 31 ∧ cl.slots.size.toInt32 = v := by
  have q := ha.fin (Vm.Alike.refl _)
  simpa [Term.eval, ht, q] using h
theorem own_p4 {p a : Int32} (e : a = ((p &&& (2147483647 : Int32)) % (4 : Int32))) : a = 0 ∨ a = 1 ∨ a = 2 ∨ a = 3 := by
  have h1 := c_mask p 2147483647 31 (by decide) (by decide)
  have h3 := (c_irem (p &&& (2147483647 : Int32)) 4 4 rfl).1 (by omega)
  rw [← e] at h3
  simp only [← Int32.toInt_inj]
  have z0 : (0 : Int32).toInt = 0 := rfl
  have z1 : (1 : Int32).toInt = 1 := rfl
  have z2 : (2 : Int32).toInt = 2 := rfl
  have z3 : (3 : Int32).toInt = 3 := rfl
  omega
abbrev sN0 : String := "java/util/ImmutableCollections$ListN"
abbrev sN1 : String := "java/util/ImmutableCollections"
abbrev sN2 : String := "com/example/dvarapala/dvarapala/lock/ExclusiveRule"
abbrev sN3 : String := "java/util/ImmutableCollections$List12"
abbrev sN4 : String := "DEFAULTCAPACITY_EMPTY_ELEMENTDATA"
abbrev sN5 : String := "Ljava/util/ImmutableCollections$ListN;"
abbrev sN6 : String := "(Ljava/util/List;I)Ljava/util/List;"
abbrev sN7 : String := "(Ljava/lang/Object;[Ljava/lang/Object;I)V"
abbrev sN8 : String := "jdk/internal/util/Preconditions"
abbrev sN9 : String := "(IILjava/util/function/BiFunction;)I"
theorem ef_rmCompI1 (m : MethodId) (x0 : Addr) (x1 : Int32) (x2 : Addr) (x3 : Int32) (x4 : Int32) : entryFrame m #[(.ref x0), (.int x1), (.ref x2), (.int x3), (.int x4)] 7 = mkF m 0 #[rv x0, iv x1, rv x2, iv x3, iv x4, .unset, .unset] [] := by first | (simp [entryFrame, mkF, argsToLocals, Value.category]; done) | rfl
def Q_rmCompI1 (Z : State) (a1 : Addr) (k1 : ClassId) (a3 : Addr) (k3 : ClassId) (x0 : Int32) (h0 : Heap) (n0 : Nat) (v : Option Value) (h : Heap) (L : List Loc) : Prop := v = some (.int (1 : Int32)) ∧ Fr n0 L ∧ Keep h0 h [a3] ∧ (Arv Z h a3 k3 .byte (1 : Int32) [(.int (nar .byte (x0.toInt8.toInt32)))] (.int (0 : Int32)))
set_option maxRecDepth 65536 in
set_option maxHeartbeats 40000000 in
theorem rmCompI1 (l : Launch) (Z : State) (a0 : Array Value) (hw : ∀ d ∈ tables_1, d.before a0 Z = true) (ws : List Jvm.Cond) (a1 : Addr) (k1 : ClassId) (a3 : Addr) (k3 : ClassId) (x0 : Int32) (h0 : Heap) (n0 : Nat) (Z0 : n0 ≤ h0.size) (A_a1 : Arv Z h0 a1 k1 .char (1 : Int32) [(.int x0)] (.int (0 : Int32))) (A_a3 : Arv Z h0 a3 k3 .byte (1 : Int32) [(.int (0 : Int32))] (.int (0 : Int32))) (g_a3 : n0 ≤ a3) (ne_a1_a3 : a1 ≠ a3) (hx0 : ¬ (255 : Int32) < x0) :
    MetFree l (⟨"java/lang/StringUTF16", "compress", "([CI[BII)I"⟩ : MethodName) (head1 (Jvm.Cond.code (⟨"java/lang/StringUTF16", "compress", "([CI[BII)I"⟩ : MethodName) jdk_52_method_21_code 7 (some .int) :: ws) ({ frames := 0, cells := 0, slots := 0, locals := 0 } : Room)) (fun a U => a = #[(.ref a1), (.int (0 : Int32)), (.ref a3), (.int (0 : Int32)), (.int (1 : Int32))] ∧ Z.Warmed39 U.vm ∧ U.heap = h0) (fun _ _ _ _ _ => True) (fun _ U o U' => ∃ v L, o = .returned v ∧ Q_rmCompI1 Z a1 k1 a3 k3 x0 h0 n0 v U'.heap L ∧ FrameEnd U o U' L ({ frames := 0, cells := 0, slots := 0, locals := 0 } : Room).cells ({ frames := 0, cells := 0, slots := 0, locals := 0 } : Room).slots) := by
  refine MetFree.of_bodySF (plainFor_of_name pn_0) hisR ?_
  intro p e s m args below meth c s₁ Bd hml0 hP hK
  obtain ⟨rfl, hZ, hh⟩ := hP
  have hx := Bd.exec
  have hby := Bd.bytes
  have hml : c.maxLocals = 7 := hml0
  have hown : s.vm.findClass "java/lang/StringUTF16" = some m.cls := findClass_of_methodNamed Bd.named
  have hnm := (name_of_methodNamed Bd.named Bd.method).1
  have X0 : Stand p l e ({ frames := 0, cells := 0, slots := 0, locals := 0 } : Room) s m #[(.ref a1), (.int (0 : Int32)), (.ref a3), (.int (0 : Int32)), (.int (1 : Int32))] below meth c s₁ [] 0 0 := Stand.of_body Bd
  have e0 : s₁.heap = h0 := by rw [← hh, Bd.state]; rfl
  have N0 := Fr.nil n0
  obtain ⟨f0, hf0⟩ : ∃ f : JFrame, f = mkF m 0 #[rv a1, iv (0 : Int32), rv a3, iv (0 : Int32), iv (1 : Int32), .unset, .unset] [] := ⟨_, rfl⟩
  have pre0 : ∀ t, Steps p.tables e below (s₁.setTop f0) t → Steps p.tables e below (s₁.setTop (entryFrame m #[(.ref a1), (.int (0 : Int32)), (.ref a3), (.int (0 : Int32)), (.int (1 : Int32))] 7)) t := fun t k => castTop ((ef_rmCompI1 m a1 (0 : Int32) a3 (0 : Int32) (1 : Int32)).trans hf0.symm) k
  have R0 : ∀ t, Steps p.tables e below (s₁.setTop (mkF m 0 #[rv a1, iv (0 : Int32), rv a3, iv (0 : Int32), iv (1 : Int32), .unset, .unset] [])) t → Steps p.tables e below (s₁.setTop f0) t := by rw [hf0]; exact fun t k => k
  have R1 : ∀ t, Steps p.tables e below (s₁.setTop (mkF m 12 #[rv a1, iv (0 : Int32), rv a3, iv (0 : Int32), iv (1 : Int32), iv (0 : Int32), .unset] [(.int (0 : Int32)), (.ref a1)])) t → Steps p.tables e below (s₁.setTop f0) t := fun t k => R0 t (by
    show Steps p.tables e below (s₁.setTop (mkF m 0 #[rv a1, iv (0 : Int32), rv a3, iv (0 : Int32), iv (1 : Int32), .unset, .unset] [])) _
    refine XS.iconst X0.here hx rfl (hb hby d5_0) ?_
    show Steps p.tables e below (s₁.setTop (mkF m 1 #[rv a1, iv (0 : Int32), rv a3, iv (0 : Int32), iv (1 : Int32), .unset, .unset] [(.int (0 : Int32))])) _
    refine XS.istore X0.here hx rfl (hb hby d5_1) rfl (l' := #[rv a1, iv (0 : Int32), rv a3, iv (0 : Int32), iv (1 : Int32), iv (0 : Int32), .unset]) rfl ?_
    show Steps p.tables e below (s₁.setTop (mkF m 3 #[rv a1, iv (0 : Int32), rv a3, iv (0 : Int32), iv (1 : Int32), iv (0 : Int32), .unset] [])) _
    refine XS.iload X0.here hx rfl (hb hby d5_3) rfl  ?_
    show Steps p.tables e below (s₁.setTop (mkF m 5 #[rv a1, iv (0 : Int32), rv a3, iv (0 : Int32), iv (1 : Int32), iv (0 : Int32), .unset] [(.int (0 : Int32))])) _
    refine XS.iload X0.here hx rfl (hb hby d5_5) rfl  ?_
    show Steps p.tables e below (s₁.setTop (mkF m 7 #[rv a1, iv (0 : Int32), rv a3, iv (0 : Int32), iv (1 : Int32), iv (0 : Int32), .unset] [(.int (1 : Int32)), (.int (0 : Int32))])) _
    refine XS.icmpNo X0.here hx rfl (hb hby d5_7) rfl (tlt (by decide : (0 : Int32) < (1 : Int32))).2.1 ?_
    show Steps p.tables e below (s₁.setTop (mkF m 10 #[rv a1, iv (0 : Int32), rv a3, iv (0 : Int32), iv (1 : Int32), iv (0 : Int32), .unset] [])) _
    refine XS.aloadN X0.here hx rfl (hb hby d5_10) rfl rfl ?_
    show Steps p.tables e below (s₁.setTop (mkF m 11 #[rv a1, iv (0 : Int32), rv a3, iv (0 : Int32), iv (1 : Int32), iv (0 : Int32), .unset] [(.ref a1)])) _
    refine XS.iloadN X0.here hx rfl (hb hby d5_11) rfl  ?_
    exact k)
  obtain ⟨cl2, Ar2, q2, S2, n2_, H2, G2⟩ := id A_a1
  have hin2 : ¬ ((0 : Int32) < 0 ∨ cl2.slots.size ≤ ((0 : Int32)).toNatClampNeg) := inb_of S2 ⟨by decide, by decide⟩
  have hat2 : cl2.slots[((0 : Int32)).toNatClampNeg]? = some (.int x0) := Has.at H2 hin2 rfl
  have R3 : ∀ t, Steps p.tables e below (s₁.setTop (mkF m 13 #[rv a1, iv (0 : Int32), rv a3, iv (0 : Int32), iv (1 : Int32), iv (0 : Int32), .unset] [(.int x0)])) t → Steps p.tables e below (s₁.setTop f0) t := fun t k => R1 t (X0.caload hx (j := (0 : Int32)) (v := (.int x0)) (by rw [e0]; exact Ar2.1) (State.isArrayOf_alike hZ.alike Ar2.2.1) Ar2.2.2 hin2 hat2 (g := (mkF m 12 #[rv a1, iv (0 : Int32), rv a3, iv (0 : Int32), iv (1 : Int32), iv (0 : Int32), .unset] [(.int (0 : Int32)), (.ref a1)])) rfl rfl (hb hby d5_12) _ k)
  have R4 : ∀ t, Steps p.tables e below (s₁.setTop (mkF m 31 #[rv a1, iv (0 : Int32), rv a3, iv (0 : Int32), iv (1 : Int32), iv (0 : Int32), iv x0] [(.int (x0.toInt8.toInt32)), (.int (0 : Int32)), (.ref a3)])) t → Steps p.tables e below (s₁.setTop f0) t := fun t k => R3 t (by
    show Steps p.tables e below (s₁.setTop (mkF m 13 #[rv a1, iv (0 : Int32), rv a3, iv (0 : Int32), iv (1 : Int32), iv (0 : Int32), .unset] [(.int x0)])) _
    refine XS.istore X0.here hx rfl (hb hby d5_13) rfl (l' := #[rv a1, iv (0 : Int32), rv a3, iv (0 : Int32), iv (1 : Int32), iv (0 : Int32), iv x0]) rfl ?_
    show Steps p.tables e below (s₁.setTop (mkF m 15 #[rv a1, iv (0 : Int32), rv a3, iv (0 : Int32), iv (1 : Int32), iv (0 : Int32), iv x0] [])) _
    refine XS.iload X0.here hx rfl (hb hby d5_15) rfl  ?_
    show Steps p.tables e below (s₁.setTop (mkF m 17 #[rv a1, iv (0 : Int32), rv a3, iv (0 : Int32), iv (1 : Int32), iv (0 : Int32), iv x0] [(.int x0)])) _
    refine XS.sipush X0.here hx rfl (hb hby d5_17) ?_
    show Steps p.tables e below (s₁.setTop (mkF m 20 #[rv a1, iv (0 : Int32), rv a3, iv (0 : Int32), iv (1 : Int32), iv (0 : Int32), iv x0] [(.int (255 : Int32)), (.int x0)])) _
    refine XS.icmpYes X0.here hx rfl (pc0 := 20) (pc' := 26) rfl (hb hby d5_20) rfl (flt hx0).2.2.2 (by decide) (by decide) ?_
    show Steps p.tables e below (s₁.setTop (mkF m 26 #[rv a1, iv (0 : Int32), rv a3, iv (0 : Int32), iv (1 : Int32), iv (0 : Int32), iv x0] [])) _
    refine XS.aloadN X0.here hx rfl (hb hby d5_26) rfl rfl ?_
    show Steps p.tables e below (s₁.setTop (mkF m 27 #[rv a1, iv (0 : Int32), rv a3, iv (0 : Int32), iv (1 : Int32), iv (0 : Int32), iv x0] [(.ref a3)])) _
    refine XS.iloadN X0.here hx rfl (hb hby d5_27) rfl  ?_
    show Steps p.tables e below (s₁.setTop (mkF m 28 #[rv a1, iv (0 : Int32), rv a3, iv (0 : Int32), iv (1 : Int32), iv (0 : Int32), iv x0] [(.int (0 : Int32)), (.ref a3)])) _
    refine XS.iload X0.here hx rfl (hb hby d5_28) rfl  ?_
    show Steps p.tables e below (s₁.setTop (mkF m 30 #[rv a1, iv (0 : Int32), rv a3, iv (0 : Int32), iv (1 : Int32), iv (0 : Int32), iv x0] [(.int x0), (.int (0 : Int32)), (.ref a3)])) _
    refine XS.i2b X0.here hx rfl (hb hby d5_30) rfl ?_
    exact k)
  obtain ⟨cl5, Ar5, q5, S5, n5_, H5, G5⟩ := id A_a3
  have hin5 : ¬ ((0 : Int32) < 0 ∨ cl5.slots.size ≤ ((0 : Int32)).toNatClampNeg) := inb_of S5 ⟨by decide, by decide⟩
  obtain ⟨T5, h5, X5, e5, W5, st5⟩ := stB X0 hx hZ e0 Ar5 (j := (0 : Int32)) hin5 (g := (mkF m 31 #[rv a1, iv (0 : Int32), rv a3, iv (0 : Int32), iv (1 : Int32), iv (0 : Int32), iv x0] [(.int (x0.toInt8.toInt32)), (.int (0 : Int32)), (.ref a3)])) rfl rfl (hb hby d5_31)
  have f5_A_a1 : Arv Z h5 a1 k1 .char (1 : Int32) [(.int x0)] (.int (0 : Int32)) := A_a1.other W5 ne_a1_a3
  have z5 : n0 ≤ h5.size := by rw [W5.size]; exact Z0
  have K5 : Keep h0 h5 [a3] := (Keep.refl h0 [a3]).wr W5 (Or.inl (List.mem_of_getElem? (i := 0) rfl))
  have v5 : Arv Z h5 a3 k3 .byte (1 : Int32) [(.int (nar .byte (x0.toInt8.toInt32)))] (.int (0 : Int32)) := Arv.set Ar5 q5 S5 n5_ H5 G5 (fits_nar_byte _) W5 0 rfl (Nat.le_of_ble_eq_true rfl)
  have N5 := Fr.snoc X5 N0 g_a3
  have R6 : ∀ t, Steps p.tables e below (T5.setTop (mkF m 32 #[rv a1, iv (0 : Int32), rv a3, iv (0 : Int32), iv (1 : Int32), iv (0 : Int32), iv x0] [])) t → Steps p.tables e below (s₁.setTop f0) t := fun t k => R4 t (st5 t k)
  have R7 : ∀ t, Steps p.tables e below (T5.setTop (mkF m 46 #[rv a1, iv (1 : Int32), rv a3, iv (1 : Int32), iv (1 : Int32), iv (1 : Int32), iv x0] [(.int (1 : Int32))])) t → Steps p.tables e below (s₁.setTop f0) t := fun t k => R6 t (by
    show Steps p.tables e below (T5.setTop (mkF m 32 #[rv a1, iv (0 : Int32), rv a3, iv (0 : Int32), iv (1 : Int32), iv (0 : Int32), iv x0] [])) _
    refine XS.iinc X5.here hx rfl (hb hby d5_32) rfl (l' := #[rv a1, iv (1 : Int32), rv a3, iv (0 : Int32), iv (1 : Int32), iv (0 : Int32), iv x0]) rfl ?_
    show Steps p.tables e below (T5.setTop (mkF m 35 #[rv a1, iv (1 : Int32), rv a3, iv (0 : Int32), iv (1 : Int32), iv (0 : Int32), iv x0] [])) _
    refine XS.iinc X5.here hx rfl (hb hby d5_35) rfl (l' := #[rv a1, iv (1 : Int32), rv a3, iv (1 : Int32), iv (1 : Int32), iv (0 : Int32), iv x0]) rfl ?_
    show Steps p.tables e below (T5.setTop (mkF m 38 #[rv a1, iv (1 : Int32), rv a3, iv (1 : Int32), iv (1 : Int32), iv (0 : Int32), iv x0] [])) _
    refine XS.iinc X5.here hx rfl (hb hby d5_38) rfl (l' := #[rv a1, iv (1 : Int32), rv a3, iv (1 : Int32), iv (1 : Int32), iv (1 : Int32), iv x0]) rfl ?_
    show Steps p.tables e below (T5.setTop (mkF m 41 #[rv a1, iv (1 : Int32), rv a3, iv (1 : Int32), iv (1 : Int32), iv (1 : Int32), iv x0] [])) _
    refine XS.goto X5.here hx rfl (pc0 := 41) (pc' := 3) rfl (hb hby d5_41) (by decide) (by decide) ?_
    show Steps p.tables e below (T5.setTop (mkF m 3 #[rv a1, iv (1 : Int32), rv a3, iv (1 : Int32), iv (1 : Int32), iv (1 : Int32), iv x0] [])) _
    refine XS.iload X5.here hx rfl (hb hby d5_3) rfl  ?_
    show Steps p.tables e below (T5.setTop (mkF m 5 #[rv a1, iv (1 : Int32), rv a3, iv (1 : Int32), iv (1 : Int32), iv (1 : Int32), iv x0] [(.int (1 : Int32))])) _
    refine XS.iload X5.here hx rfl (hb hby d5_5) rfl  ?_
    show Steps p.tables e below (T5.setTop (mkF m 7 #[rv a1, iv (1 : Int32), rv a3, iv (1 : Int32), iv (1 : Int32), iv (1 : Int32), iv x0] [(.int (1 : Int32)), (.int (1 : Int32))])) _
    refine XS.icmpYes X5.here hx rfl (pc0 := 7) (pc' := 44) rfl (hb hby d5_7) rfl (flt (by decide : ¬ ((1 : Int32) < (1 : Int32)))).2.1 (by decide) (by decide) ?_
    show Steps p.tables e below (T5.setTop (mkF m 44 #[rv a1, iv (1 : Int32), rv a3, iv (1 : Int32), iv (1 : Int32), iv (1 : Int32), iv x0] [])) _
    refine XS.iload X5.here hx rfl (hb hby d5_44) rfl  ?_
    exact k)
  obtain ⟨fs, hr, hrun, hended, hW, hsame⟩ := X5.leave (v := some (.int (1 : Int32))) (fun h => by rw [Bd.returns] at h; cases h)
  refine ⟨_, _, pre0 _ (R7 _ ?_), hrun, hended, _, _, rfl, ?_, ⟨_, rfl⟩, hW, hsame.mono (by decide) (by decide)⟩
  · show Steps p.tables e below (T5.setTop (mkF m 46 #[rv a1, iv (1 : Int32), rv a3, iv (1 : Int32), iv (1 : Int32), iv (1 : Int32), iv x0] [(.int (1 : Int32))])) _
    exact retI X5 hx Bd.returns (hb hby d5_46) hr
  · show Q_rmCompI1 Z a1 k1 a3 k3 x0 h0 n0 _ T5.heap _
    rw [e5]
    exact ⟨rfl, N5, K5, v5⟩
theorem ef_rmComp1 (m : MethodId) (x0 : Addr) (x1 : Int32) (x2 : Int32) : entryFrame m #[(.ref x0), (.int x1), (.int x2)] 6 = mkF m 0 #[rv x0, iv x1, iv x2, .unset, .unset, .unset] [] := by first | (simp [entryFrame, mkF, argsToLocals, Value.category]; done) | rfl
def Q_rmComp1 (Z : State) (a1 : Addr) (k1 : ClassId) (x0 : Int32) (h0 : Heap) (n0 : Nat) (v : Option Value) (h : Heap) (L : List Loc) : Prop := ∃ b : Addr, ∃ kb : ClassId, v = some (.ref b) ∧ Fr n0 L ∧ Keep h0 h [] ∧ (Arv Z h b kb .byte (1 : Int32) [(.int (nar .byte (x0.toInt8.toInt32)))] (.int (0 : Int32))) ∧ (h0.size ≤ b)
set_option maxRecDepth 65536 in
set_option maxHeartbeats 40000000 in
theorem rmComp1 (l : Launch) (Z : State) (a0 : Array Value) (hw : ∀ d ∈ tables_1, d.before a0 Z = true) (ws : List Jvm.Cond) (a1 : Addr) (k1 : ClassId) (x0 : Int32) (h0 : Heap) (n0 : Nat) (Z0 : n0 ≤ h0.size) (A_a1 : Arv Z h0 a1 k1 .char (1 : Int32) [(.int x0)] (.int (0 : Int32))) (hx0 : ¬ (255 : Int32) < x0) :
    MetFree l (⟨"java/lang/StringUTF16", "compress", "([CII)[B"⟩ : MethodName) (head1 (Jvm.Cond.code (⟨"java/lang/StringUTF16", "compress", "([CII)[B"⟩ : MethodName) jdk_52_method_16_code 6 (some (.array .byte)) :: ws) ({ frames := 1, cells := 1, slots := 1, locals := 18 } : Room)) (fun a U => a = #[(.ref a1), (.int (0 : Int32)), (.int (1 : Int32))] ∧ Z.Warmed39 U.vm ∧ U.heap = h0) (fun _ _ _ _ _ => True) (fun _ U o U' => ∃ v L, o = .returned v ∧ Q_rmComp1 Z a1 k1 x0 h0 n0 v U'.heap L ∧ FrameEnd U o U' L ({ frames := 1, cells := 1, slots := 1, locals := 18 } : Room).cells ({ frames := 1, cells := 1, slots := 1, locals := 18 } : Room).slots) := by
  refine MetFree.of_bodySF (plainFor_of_name pn_0) hisR ?_
  intro p e s m args below meth c s₁ Bd hml0 hP hK
  obtain ⟨rfl, hZ, hh⟩ := hP
  have hx := Bd.exec
  have hby := Bd.bytes
  have hml : c.maxLocals = 6 := hml0
  have hown : s.vm.findClass "java/lang/StringUTF16" = some m.cls := findClass_of_methodNamed Bd.named
  have hnm := (name_of_methodNamed Bd.named Bd.method).1
  have X0 : Stand p l e ({ frames := 1, cells := 1, slots := 1, locals := 18 } : Room) s m #[(.ref a1), (.int (0 : Int32)), (.int (1 : Int32))] below meth c s₁ [] 0 0 := Stand.of_body Bd
  have e0 : s₁.heap = h0 := by rw [← hh, Bd.state]; rfl
  have N0 := Fr.nil n0
  obtain ⟨f0, hf0⟩ : ∃ f : JFrame, f = mkF m 0 #[rv a1, iv (0 : Int32), iv (1 : Int32), .unset, .unset, .unset] [] := ⟨_, rfl⟩
  have pre0 : ∀ t, Steps p.tables e below (s₁.setTop f0) t → Steps p.tables e below (s₁.setTop (entryFrame m #[(.ref a1), (.int (0 : Int32)), (.int (1 : Int32))] 6)) t := fun t k => castTop ((ef_rmComp1 m a1 (0 : Int32) (1 : Int32)).trans hf0.symm) k
  have R0 : ∀ t, Steps p.tables e below (s₁.setTop (mkF m 0 #[rv a1, iv (0 : Int32), iv (1 : Int32), .unset, .unset, .unset] [])) t → Steps p.tables e below (s₁.setTop f0) t := by rw [hf0]; exact fun t k => k
  have R1 : ∀ t, Steps p.tables e below (s₁.setTop (mkF m 1 #[rv a1, iv (0 : Int32), iv (1 : Int32), .unset, .unset, .unset] [(.int (1 : Int32))])) t → Steps p.tables e below (s₁.setTop f0) t := fun t k => R0 t (by
    show Steps p.tables e below (s₁.setTop (mkF m 0 #[rv a1, iv (0 : Int32), iv (1 : Int32), .unset, .unset, .unset] [])) _
    refine XS.iloadN X0.here hx rfl (hb hby d4_0) rfl  ?_
    exact k)
  obtain ⟨T2, h2, k2, X2, e2, E2, A2, st2⟩ := newP X0 hx hZ (hw _ (List.mem_of_getElem? (i := 19) rfl)) e0 (g := (mkF m 1 #[rv a1, iv (0 : Int32), iv (1 : Int32), .unset, .unset, .unset] [(.int (1 : Int32))])) rfl (hb hby d4_1) rfl (by decide) (cap := 1) (by decide) (by decide) (by decide) (by decide)
  obtain ⟨b2, g2⟩ : ∃ z, z = h0.size := ⟨_, rfl⟩
  rw [← g2] at A2 st2
  have g_b2 : n0 ≤ b2 := Nat.le_trans Z0 (Nat.le_of_eq g2.symm)
  have sz_b2 : h0.size ≤ b2 := Nat.le_trans (Keep.refl h0 []).1 (Nat.le_of_eq g2.symm)
  have ne_a1_b2 : a1 ≠ b2 := Nat.ne_of_lt (Nat.lt_of_lt_of_le A_a1.lt (Nat.le_of_eq g2.symm))
  have f2_A_a1 : Arv Z h2 a1 k1 .char (1 : Int32) [(.int x0)] (.int (0 : Int32)) := A_a1.ext E2
  have z2 : n0 ≤ h2.size := Nat.le_trans Z0 E2.1
  have K2 : Keep h0 h2 [] := (Keep.refl h0 []).ext E2
  have v2 : Arv Z h2 b2 k2 .byte (1 : Int32) [(.int (0 : Int32))] (.int (0 : Int32)) := (Arv.new A2 (by decide)).pad (pad_rep [] (.int (0 : Int32)) 1)
  have R3 : ∀ t, Steps p.tables e below (T2.setTop (mkF m 3 #[rv a1, iv (0 : Int32), iv (1 : Int32), .unset, .unset, .unset] [(.ref b2)])) t → Steps p.tables e below (s₁.setTop f0) t := fun t k => R1 t (st2 t k)
  have R4 : ∀ t, Steps p.tables e below (T2.setTop (mkF m 9 #[rv a1, iv (0 : Int32), iv (1 : Int32), rv b2, .unset, .unset] [(.int (1 : Int32)), (.int (0 : Int32)), (.ref b2), (.int (0 : Int32)), (.ref a1)])) t → Steps p.tables e below (s₁.setTop f0) t := fun t k => R3 t (by
    show Steps p.tables e below (T2.setTop (mkF m 3 #[rv a1, iv (0 : Int32), iv (1 : Int32), .unset, .unset, .unset] [(.ref b2)])) _
    refine XS.astoreN X2.here hx rfl (hb hby d4_3) rfl rfl (l' := #[rv a1, iv (0 : Int32), iv (1 : Int32), rv b2, .unset, .unset]) rfl ?_
    show Steps p.tables e below (T2.setTop (mkF m 4 #[rv a1, iv (0 : Int32), iv (1 : Int32), rv b2, .unset, .unset] [])) _
    refine XS.aloadN X2.here hx rfl (hb hby d4_4) rfl rfl ?_
    show Steps p.tables e below (T2.setTop (mkF m 5 #[rv a1, iv (0 : Int32), iv (1 : Int32), rv b2, .unset, .unset] [(.ref a1)])) _
    refine XS.iloadN X2.here hx rfl (hb hby d4_5) rfl  ?_
    show Steps p.tables e below (T2.setTop (mkF m 6 #[rv a1, iv (0 : Int32), iv (1 : Int32), rv b2, .unset, .unset] [(.int (0 : Int32)), (.ref a1)])) _
    refine XS.aloadN X2.here hx rfl (hb hby d4_6) rfl rfl ?_
    show Steps p.tables e below (T2.setTop (mkF m 7 #[rv a1, iv (0 : Int32), iv (1 : Int32), rv b2, .unset, .unset] [(.ref b2), (.int (0 : Int32)), (.ref a1)])) _
    refine XS.iconst X2.here hx rfl (hb hby d4_7) ?_
    show Steps p.tables e below (T2.setTop (mkF m 8 #[rv a1, iv (0 : Int32), iv (1 : Int32), rv b2, .unset, .unset] [(.int (0 : Int32)), (.ref b2), (.int (0 : Int32)), (.ref a1)])) _
    refine XS.iloadN X2.here hx rfl (hb hby d4_8) rfl  ?_
    exact k)
  obtain ⟨_, _, ⟨T5, L5, k5, n5⟩, -, X5, ⟨Lc5, hQ5, l5, y5, z5⟩, st5⟩ := Jvm.LawKit.callS X2 hx (y := (⟨"java/lang/StringUTF16", "compress", "([CI[BII)I"⟩ : MethodName)) hown (mvT hZ (hw _ (List.mem_of_getElem? (i := 20) rfl))) (mvT hZ (hw _ (List.mem_of_getElem? (i := 21) rfl))) (mvT hZ (hw _ (List.mem_of_getElem? (i := 17) rfl))) (mvT hZ (hw _ (List.mem_of_getElem? (i := 22) rfl))) (by decide) (backOf (W := 0) (rmCompI1 l Z a0 hw [] a1 k1 b2 k2 x0 h2 n0 z2 f2_A_a1 v2 g_b2 ne_a1_b2 hx0) hZ (hw _ (List.mem_of_getElem? (i := 22) rfl)) (hw _ (List.mem_of_getElem? (i := 17) rfl)) (by decide) (by decide)) (g := (mkF m 9 #[rv a1, iv (0 : Int32), iv (1 : Int32), rv b2, .unset, .unset] [(.int (1 : Int32)), (.int (0 : Int32)), (.ref b2), (.int (0 : Int32)), (.ref a1)])) rfl (by rw [hml]; rfl) (argsL := [(.ref a1), (.int (0 : Int32)), (.ref b2), (.int (0 : Int32)), (.int (1 : Int32))]) (rest := []) (lenOf pd_1 rfl) rfl (by show 2 * 0 + _ ≤ _; exact Nat.le_of_eq rfl) (hb hby d4_9) (fun _ _ => ⟨rfl, e2, (by decide : 1 + 0 ≤ _), (by decide : 1 + 0 ≤ _)⟩)
  dsimp only [Pt.U, Pt.locs, Pt.cells, Pt.slots] at X5 l5 y5 z5 st5 hQ5
  subst l5 y5 z5
  obtain ⟨rfl, N5q, p5_0, p5_1⟩ := hQ5
  have N5 := Fr.app N0 N5q
  have f5_A_a1 : Arv Z T5.heap a1 k1 .char (1 : Int32) [(.int x0)] (.int (0 : Int32)) := f2_A_a1.keep p5_0 (ninS ne_a1_b2 nin0)
  have z5 : n0 ≤ T5.heap.size := Nat.le_trans z2 p5_0.1
  have K5 : Keep h0 T5.heap [] := K2.trans p5_0 (allS (Or.inr sz_b2) all0)
  have R6 : ∀ t, Steps p.tables e below (T5.setTop (mkF m 12 #[rv a1, iv (0 : Int32), iv (1 : Int32), rv b2, .unset, .unset] [(.int (1 : Int32))])) t → Steps p.tables e below (s₁.setTop f0) t := fun t k => R4 t (st5 t k)
  have R7 : ∀ t, Steps p.tables e below (T5.setTop (mkF m 58 #[rv a1, iv (0 : Int32), iv (1 : Int32), rv b2, iv (1 : Int32), .unset] [(.ref b2)])) t → Steps p.tables e below (s₁.setTop f0) t := fun t k => R6 t (by
    show Steps p.tables e below (T5.setTop (mkF m 12 #[rv a1, iv (0 : Int32), iv (1 : Int32), rv b2, .unset, .unset] [(.int (1 : Int32))])) _
    refine XS.istore X5.here hx rfl (hb hby d4_12) rfl (l' := #[rv a1, iv (0 : Int32), iv (1 : Int32), rv b2, iv (1 : Int32), .unset]) rfl ?_
    show Steps p.tables e below (T5.setTop (mkF m 14 #[rv a1, iv (0 : Int32), iv (1 : Int32), rv b2, iv (1 : Int32), .unset] [])) _
    refine XS.iload X5.here hx rfl (hb hby d4_14) rfl  ?_
    show Steps p.tables e below (T5.setTop (mkF m 16 #[rv a1, iv (0 : Int32), iv (1 : Int32), rv b2, iv (1 : Int32), .unset] [(.int (1 : Int32))])) _
    refine XS.iloadN X5.here hx rfl (hb hby d4_16) rfl  ?_
    show Steps p.tables e below (T5.setTop (mkF m 17 #[rv a1, iv (0 : Int32), iv (1 : Int32), rv b2, iv (1 : Int32), .unset] [(.int (1 : Int32)), (.int (1 : Int32))])) _
    refine XS.icmpYes X5.here hx rfl (pc0 := 17) (pc' := 57) rfl (hb hby d4_17) rfl (teq (by decide : (1 : Int32) = (1 : Int32))).1 (by decide) (by decide) ?_
    show Steps p.tables e below (T5.setTop (mkF m 57 #[rv a1, iv (0 : Int32), iv (1 : Int32), rv b2, iv (1 : Int32), .unset] [])) _
    refine XS.aloadN X5.here hx rfl (hb hby d4_57) rfl rfl ?_
    exact k)
  obtain ⟨fs, hr, hrun, hended, hW, hsame⟩ := X5.leave (v := some (.ref b2)) (fun h => by rw [Bd.returns] at h; cases h)
  refine ⟨_, _, pre0 _ (R7 _ ?_), hrun, hended, _, _, rfl, ?_, ⟨_, rfl⟩, hW, hsame.mono (by decide) (by decide)⟩
  · show Steps p.tables e below (T5.setTop (mkF m 58 #[rv a1, iv (0 : Int32), iv (1 : Int32), rv b2, iv (1 : Int32), .unset] [(.ref b2)])) _
    exact retOut X5 hx (t := (.array .byte)) Bd.returns rfl (Or.inr (Or.inr (Or.inr (Or.inr ⟨rfl, rfl, rfl⟩)))) (hb hby d4_58) hr
  · show Q_rmComp1 Z a1 k1 x0 h0 n0 _ T5.heap _
    exact ⟨b2, k2, rfl, N5, K5, p5_1, sz_b2⟩
theorem ef_rmCfal1 (m : MethodId) (x0 : Addr) (x1 : Int32) : entryFrame m #[(.ref x0), (.int x1)] 2 = mkF m 0 #[rv x0, iv x1] [] := by first | (simp [entryFrame, mkF, argsToLocals, Value.category]; done) | rfl
def Q_rmCfal1 (Z : State) (a1 : Addr) (k1 : ClassId) (vs : List Value) (h0 : Heap) (n0 : Nat) (v : Option Value) (h : Heap) (L : List Loc) : Prop := v = some (.int (0 : Int32)) ∧ Fr n0 L ∧ h = h0
set_option maxRecDepth 65536 in
set_option maxHeartbeats 40000000 in
theorem rmCfal1 (l : Launch) (Z : State) (a0 : Array Value) (hw : ∀ d ∈ tables_1, d.before a0 Z = true) (ws : List Jvm.Cond) (a1 : Addr) (k1 : ClassId) (vs : List Value) (h0 : Heap) (n0 : Nat) (Z0 : n0 ≤ h0.size) (A_a1 : Arv Z h0 a1 k1 .byte (1 : Int32) vs (.int (0 : Int32))) :
    MetFree l (⟨"java/lang/StringUTF16", "coderFromArrayLen", "([BI)B"⟩ : MethodName) (head1 (Jvm.Cond.code (⟨"java/lang/StringUTF16", "coderFromArrayLen", "([BI)B"⟩ : MethodName) jdk_52_method_15_code 2 (some .byte) :: ws) ({ frames := 0, cells := 0, slots := 0, locals := 0 } : Room)) (fun a U => a = #[(.ref a1), (.int (1 : Int32))] ∧ Z.Warmed39 U.vm ∧ U.heap = h0) (fun _ _ _ _ _ => True) (fun _ U o U' => ∃ v L, o = .returned v ∧ Q_rmCfal1 Z a1 k1 vs h0 n0 v U'.heap L ∧ FrameEnd U o U' L ({ frames := 0, cells := 0, slots := 0, locals := 0 } : Room).cells ({ frames := 0, cells := 0, slots := 0, locals := 0 } : Room).slots) := by
  refine MetFree.of_bodySF (plainFor_of_name pn_0) hisR ?_
  intro p e s m args below meth c s₁ Bd hml0 hP hK
  obtain ⟨rfl, hZ, hh⟩ := hP
  have hx := Bd.exec
  have hby := Bd.bytes
  have hml : c.maxLocals = 2 := hml0
  have hown : s.vm.findClass "java/lang/StringUTF16" = some m.cls := findClass_of_methodNamed Bd.named
  have hnm := (name_of_methodNamed Bd.named Bd.method).1
  have X0 : Stand p l e ({ frames := 0, cells := 0, slots := 0, locals := 0 } : Room) s m #[(.ref a1), (.int (1 : Int32))] below meth c s₁ [] 0 0 := Stand.of_body Bd
  have e0 : s₁.heap = h0 := by rw [← hh, Bd.state]; rfl
  have N0 := Fr.nil n0
  obtain ⟨f0, hf0⟩ : ∃ f : JFrame, f = mkF m 0 #[rv a1, iv (1 : Int32)] [] := ⟨_, rfl⟩
  have pre0 : ∀ t, Steps p.tables e below (s₁.setTop f0) t → Steps p.tables e below (s₁.setTop (entryFrame m #[(.ref a1), (.int (1 : Int32))] 2)) t := fun t k => castTop ((ef_rmCfal1 m a1 (1 : Int32)).trans hf0.symm) k
  have R0 : ∀ t, Steps p.tables e below (s₁.setTop (mkF m 0 #[rv a1, iv (1 : Int32)] [])) t → Steps p.tables e below (s₁.setTop f0) t := by rw [hf0]; exact fun t k => k
  have R1 : ∀ t, Steps p.tables e below (s₁.setTop (mkF m 2 #[rv a1, iv (1 : Int32)] [(.ref a1), (.int (1 : Int32))])) t → Steps p.tables e below (s₁.setTop f0) t := fun t k => R0 t (by
    show Steps p.tables e below (s₁.setTop (mkF m 0 #[rv a1, iv (1 : Int32)] [])) _
    refine XS.iloadN X0.here hx rfl (hb hby d6_0) rfl  ?_
    show Steps p.tables e below (s₁.setTop (mkF m 1 #[rv a1, iv (1 : Int32)] [(.int (1 : Int32))])) _
    refine XS.aloadN X0.here hx rfl (hb hby d6_1) rfl rfl ?_
    exact k)
  obtain ⟨cl2, Ar2, -, S2, N2_, -, -⟩ := id A_a1
  have R3 : ∀ t, Steps p.tables e below (s₁.setTop (mkF m 3 #[rv a1, iv (1 : Int32)] [(.int (1 : Int32)), (.int (1 : Int32))])) t → Steps p.tables e below (s₁.setTop f0) t := fun t k => R1 t (X0.arraylength hx (by rw [e0]; exact Ar2.1) (State.isArrayOf_alike hZ.alike Ar2.2.1) (g := (mkF m 2 #[rv a1, iv (1 : Int32)] [(.ref a1), (.int (1 : Int32))])) rfl rfl (hb hby d6_2) _ (by rw [len_of S2 N2_]; exact k))
  have R4 : ∀ t, Steps p.tables e below (s₁.setTop (mkF m 7 #[rv a1, iv (1 : Int32)] [(.int (((0 : Int32).toUInt32 >>> ((31 : Int32) &&& 31).toUInt32).toInt32))])) t → Steps p.tables e below (s₁.setTop f0) t := fun t k => R3 t (by
    show Steps p.tables e below (s₁.setTop (mkF m 3 #[rv a1, iv (1 : Int32)] [(.int (1 : Int32)), (.int (1 : Int32))])) _
    refine XS.isub X0.here hx rfl (hb hby d6_3) rfl ?_
    show Steps p.tables e below (s₁.setTop (mkF m 4 #[rv a1, iv (1 : Int32)] [(.int (0 : Int32))])) _
    refine XS.bipush X0.here hx rfl (hb hby d6_4) ?_
    show Steps p.tables e below (s₁.setTop (mkF m 6 #[rv a1, iv (1 : Int32)] [(.int (31 : Int32)), (.int (0 : Int32))])) _
    refine XS.iushr X0.here hx rfl (hb hby d6_6) rfl ?_
    exact k)
  have R5 : ∀ t, Steps p.tables e below (s₁.setTop (mkF m 7 #[rv a1, iv (1 : Int32)] [(.int (0 : Int32))])) t → Steps p.tables e below (s₁.setTop f0) t := by have q := R4; rw [((by decide) : (((0 : Int32).toUInt32 >>> ((31 : Int32) &&& 31).toUInt32).toInt32) = (0 : Int32))] at q; exact q
  have R6 : ∀ t, Steps p.tables e below (s₁.setTop (mkF m 8 #[rv a1, iv (1 : Int32)] [(.int ((0 : Int32).toInt8.toInt32))])) t → Steps p.tables e below (s₁.setTop f0) t := fun t k => R5 t (by
    show Steps p.tables e below (s₁.setTop (mkF m 7 #[rv a1, iv (1 : Int32)] [(.int (0 : Int32))])) _
    refine XS.i2b X0.here hx rfl (hb hby d6_7) rfl ?_
    exact k)
  have R7 : ∀ t, Steps p.tables e below (s₁.setTop (mkF m 8 #[rv a1, iv (1 : Int32)] [(.int (0 : Int32))])) t → Steps p.tables e below (s₁.setTop f0) t := by have q := R6; rw [((by decide) : ((0 : Int32).toInt8.toInt32) = (0 : Int32))] at q; exact q
  obtain ⟨fs, hr, hrun, hended, hW, hsame⟩ := X0.leave (v := some (.int (0 : Int32))) (fun h => by rw [Bd.returns] at h; cases h)
  refine ⟨_, _, pre0 _ (R7 _ ?_), hrun, hended, _, _, rfl, ?_, ⟨_, rfl⟩, hW, hsame.mono (by decide) (by decide)⟩
  · show Steps p.tables e below (s₁.setTop (mkF m 8 #[rv a1, iv (1 : Int32)] [(.int (0 : Int32))])) _
    exact retN X0 hx (t := .byte) Bd.returns (by simp) (hb hby d6_8) hr
  · show Q_rmCfal1 Z a1 k1 vs h0 n0 _ s₁.heap _
    rw [e0]
    exact ⟨(by decide), N0, rfl⟩
theorem ef_rmStrV1 (m : MethodId) (x0 : Addr) (x1 : Addr) (x2 : Int32) (x3 : Int32) : entryFrame m #[(.ref x0), (.ref x1), (.int x2), (.int x3), .null] 6 = mkF m 0 #[rv x0, rv x1, iv x2, iv x3, .val .null, .unset] [] := by first | (simp [entryFrame, mkF, argsToLocals, Value.category]; done) | rfl
def Q_rmStrV1 (Z : State) (a1 : Addr) (a2 : Addr) (u1 : Value) (u2 : Value) (k2 : ClassId) (x0 : Int32) (cs : Int32) (h0 : Heap) (n0 : Nat) (v : Option Value) (h : Heap) (L : List Loc) : Prop := ∃ b : Addr, ∃ kb : ClassId, v = none ∧ Fr n0 L ∧ Keep h0 h [a1] ∧ (Fld Z h a1 "java/lang/String" "value" "[B" (.ref b)) ∧ (Fld Z h a1 "java/lang/String" "coder" "B" (.int (0 : Int32))) ∧ (Arv Z h b kb .byte (1 : Int32) [(.int (nar .byte (x0.toInt8.toInt32)))] (.int (0 : Int32))) ∧ (h0.size ≤ b)
set_option maxRecDepth 65536 in
set_option maxHeartbeats 40000000 in
theorem rmStrV1 (l : Launch) (Z : State) (a0 : Array Value) (hw : ∀ d ∈ tables_1, d.before a0 Z = true) (ws : List Jvm.Cond) (a1 : Addr) (a2 : Addr) (u1 : Value) (u2 : Value) (k2 : ClassId) (x0 : Int32) (cs : Int32) (h0 : Heap) (n0 : Nat) (Z0 : n0 ≤ h0.size) (E_a1 : Exa Z h0 a1 "java/lang/String") (F_value_a1 : Fld Z h0 a1 "java/lang/String" "value" "[B" u1) (F_coder_a1 : Fld Z h0 a1 "java/lang/String" "coder" "B" u2) (g_a1 : n0 ≤ a1) (A_a2 : Arv Z h0 a2 k2 .char (1 : Int32) [(.int x0)] (.int (0 : Int32))) (ne_a1_a2 : a1 ≠ a2) (S_String_COMPACT_STRINGS : Sta Z h0 "java/lang/String" "COMPACT_STRINGS" "Z" (.int cs)) (hcs : ¬ cs = (0 : Int32)) (hx0 : ¬ (255 : Int32) < x0) :
    MetFree l (⟨"java/lang/String", "<init>", "([CIILjava/lang/Void;)V"⟩ : MethodName) (head1 (Jvm.Cond.code (⟨"java/lang/String", "<init>", "([CIILjava/lang/Void;)V"⟩ : MethodName) jdk_42_method_149_code 6 none :: ws) ({ frames := 2, cells := 1, slots := 1, locals := 35 } : Room)) (fun a U => a = #[(.ref a1), (.ref a2), (.int (0 : Int32)), (.int (1 : Int32)), .null] ∧ Z.Warmed39 U.vm ∧ U.heap = h0) (fun _ _ _ _ _ => True) (fun _ U o U' => ∃ v L, o = .returned v ∧ Q_rmStrV1 Z a1 a2 u1 u2 k2 x0 cs h0 n0 v U'.heap L ∧ FrameEnd U o U' L ({ frames := 2, cells := 1, slots := 1, locals := 35 } : Room).cells ({ frames := 2, cells := 1, slots := 1, locals := 35 } : Room).slots) := by
  refine MetFree.of_bodySF (plainFor_of_name pn_2) hisR ?_
  intro p e s m args below meth c s₁ Bd hml0 hP hK
  obtain ⟨rfl, hZ, hh⟩ := hP
  have hx := Bd.exec
  have hby := Bd.bytes
  have hml : c.maxLocals = 6 := hml0
  have hown : s.vm.findClass "java/lang/String" = some m.cls := findClass_of_methodNamed Bd.named
  have hnm := (name_of_methodNamed Bd.named Bd.method).1
  have X0 : Stand p l e ({ frames := 2, cells := 1, slots := 1, locals := 35 } : Room) s m #[(.ref a1), (.ref a2), (.int (0 : Int32)), (.int (1 : Int32)), .null] below meth c s₁ [] 0 0 := Stand.of_body Bd
  have e0 : s₁.heap = h0 := by rw [← hh, Bd.state]; rfl
  have N0 := Fr.nil n0
  obtain ⟨f0, hf0⟩ : ∃ f : JFrame, f = mkF m 0 #[rv a1, rv a2, iv (0 : Int32), iv (1 : Int32), .val .null, .unset] [] := ⟨_, rfl⟩
  have pre0 : ∀ t, Steps p.tables e below (s₁.setTop f0) t → Steps p.tables e below (s₁.setTop (entryFrame m #[(.ref a1), (.ref a2), (.int (0 : Int32)), (.int (1 : Int32)), .null] 6)) t := fun t k => castTop ((ef_rmStrV1 m a1 a2 (0 : Int32) (1 : Int32)).trans hf0.symm) k
  have R0 : ∀ t, Steps p.tables e below (s₁.setTop (mkF m 0 #[rv a1, rv a2, iv (0 : Int32), iv (1 : Int32), .val .null, .unset] [])) t → Steps p.tables e below (s₁.setTop f0) t := by rw [hf0]; exact fun t k => k
  have R1 : ∀ t, Steps p.tables e below (s₁.setTop (mkF m 1 #[rv a1, rv a2, iv (0 : Int32), iv (1 : Int32), .val .null, .unset] [(.ref a1)])) t → Steps p.tables e below (s₁.setTop f0) t := fun t k => R0 t (by
    show Steps p.tables e below (s₁.setTop (mkF m 0 #[rv a1, rv a2, iv (0 : Int32), iv (1 : Int32), .val .null, .unset] [])) _
    refine XS.aloadN X0.here hx rfl (hb hby d2_0) rfl rfl ?_
    exact k)
  obtain ⟨T2, X2, e2, st2⟩ := initO X0 hx hZ hown (hw _ (List.mem_of_getElem? (i := 11) rfl)) (hw _ (List.mem_of_getElem? (i := 12) rfl)) (hw _ (List.mem_of_getElem? (i := 13) rfl)) e0 (g := (mkF m 1 #[rv a1, rv a2, iv (0 : Int32), iv (1 : Int32), .val .null, .unset] [(.ref a1)])) rfl (by rw [hml]; rfl) rfl (hb hby d2_1) (by decide) (W := 0) (by show 2 * 0 + _ ≤ _; exact Nat.le_of_eq rfl) (by decide)
  have R3 : ∀ t, Steps p.tables e below (T2.setTop (mkF m 4 #[rv a1, rv a2, iv (0 : Int32), iv (1 : Int32), .val .null, .unset] [])) t → Steps p.tables e below (s₁.setTop f0) t := fun t k => R1 t (st2 t k)
  have R4 : ∀ t, Steps p.tables e below (T2.setTop (mkF m 27 #[rv a1, rv a2, iv (0 : Int32), iv (1 : Int32), .val .null, .unset] [])) t → Steps p.tables e below (s₁.setTop f0) t := fun t k => R3 t (by
    show Steps p.tables e below (T2.setTop (mkF m 4 #[rv a1, rv a2, iv (0 : Int32), iv (1 : Int32), .val .null, .unset] [])) _
    refine XS.iloadN X2.here hx rfl (hb hby d2_4) rfl  ?_
    show Steps p.tables e below (T2.setTop (mkF m 5 #[rv a1, rv a2, iv (0 : Int32), iv (1 : Int32), .val .null, .unset] [(.int (1 : Int32))])) _
    refine XS.ifYes X2.here hx rfl (pc0 := 5) (pc' := 27) rfl (hb hby d2_5) rfl ((if0 _ _).trans (feq (by decide : ¬ ((1 : Int32) = (0 : Int32)))).2) (by decide) (by decide) ?_
    exact k)
  obtain ⟨T5, X5, e5, st5⟩ := getS2 X2 hx hZ hown (host := "") (Or.inl (hw _ (List.mem_of_getElem? (i := 14) rfl))) Via.refl e2 S_String_COMPACT_STRINGS (g := (mkF m 27 #[rv a1, rv a2, iv (0 : Int32), iv (1 : Int32), .val .null, .unset] [])) rfl (hb hby d2_27)
  have R6 : ∀ t, Steps p.tables e below (T5.setTop (mkF m 30 #[rv a1, rv a2, iv (0 : Int32), iv (1 : Int32), .val .null, .unset] [(.int cs)])) t → Steps p.tables e below (s₁.setTop f0) t := fun t k => R4 t (st5 t k)
  have R7 : ∀ t, Steps p.tables e below (T5.setTop (mkF m 36 #[rv a1, rv a2, iv (0 : Int32), iv (1 : Int32), .val .null, .unset] [(.int (1 : Int32)), (.int (0 : Int32)), (.ref a2)])) t → Steps p.tables e below (s₁.setTop f0) t := fun t k => R6 t (by
    show Steps p.tables e below (T5.setTop (mkF m 30 #[rv a1, rv a2, iv (0 : Int32), iv (1 : Int32), .val .null, .unset] [(.int cs)])) _
    refine XS.ifNo X5.here hx rfl (hb hby d2_30) rfl ((if0 _ _).trans (feq hcs).1) ?_
    show Steps p.tables e below (T5.setTop (mkF m 33 #[rv a1, rv a2, iv (0 : Int32), iv (1 : Int32), .val .null, .unset] [])) _
    refine XS.aloadN X5.here hx rfl (hb hby d2_33) rfl rfl ?_
    show Steps p.tables e below (T5.setTop (mkF m 34 #[rv a1, rv a2, iv (0 : Int32), iv (1 : Int32), .val .null, .unset] [(.ref a2)])) _
    refine XS.iloadN X5.here hx rfl (hb hby d2_34) rfl  ?_
    show Steps p.tables e below (T5.setTop (mkF m 35 #[rv a1, rv a2, iv (0 : Int32), iv (1 : Int32), .val .null, .unset] [(.int (0 : Int32)), (.ref a2)])) _
    refine XS.iloadN X5.here hx rfl (hb hby d2_35) rfl  ?_
    exact k)
  obtain ⟨_, _, ⟨T8, L8, k8, n8⟩, -, X8, ⟨Lc8, hQ8, l8, y8, z8⟩, st8⟩ := Jvm.LawKit.callS X5 hx (y := (⟨"java/lang/StringUTF16", "compress", "([CII)[B"⟩ : MethodName)) hown (mvT hZ (hw _ (List.mem_of_getElem? (i := 15) rfl))) (mvT hZ (hw _ (List.mem_of_getElem? (i := 16) rfl))) (mvT hZ (hw _ (List.mem_of_getElem? (i := 17) rfl))) (mvT hZ (hw _ (List.mem_of_getElem? (i := 18) rfl))) (by decide) (backOf (W := 0) (rmComp1 l Z a0 hw [] a2 k2 x0 h0 n0 Z0 A_a2 hx0) hZ (hw _ (List.mem_of_getElem? (i := 18) rfl)) (hw _ (List.mem_of_getElem? (i := 17) rfl)) (by decide) (by decide)) (g := (mkF m 36 #[rv a1, rv a2, iv (0 : Int32), iv (1 : Int32), .val .null, .unset] [(.int (1 : Int32)), (.int (0 : Int32)), (.ref a2)])) rfl (by rw [hml]; rfl) (argsL := [(.ref a2), (.int (0 : Int32)), (.int (1 : Int32))]) (rest := []) (lenOf pd_3 rfl) rfl (by show 2 * 0 + _ ≤ _; exact Nat.le_of_eq rfl) (hb hby d2_36) (fun _ _ => ⟨rfl, e5, (by decide : 0 + 1 ≤ _), (by decide : 0 + 1 ≤ _)⟩)
  dsimp only [Pt.U, Pt.locs, Pt.cells, Pt.slots] at X8 l8 y8 z8 st8 hQ8
  subst l8 y8 z8
  obtain ⟨b_8, kb_8, rfl, N8q, p8_0, p8_1, p8_2⟩ := hQ8
  have N8 := Fr.app N0 N8q
  have f8_E_a1 : Exa Z T8.heap a1 "java/lang/String" := E_a1.keep p8_0
  have f8_F_value_a1 : Fld Z T8.heap a1 "java/lang/String" "value" "[B" u1 := F_value_a1.keep p8_0 nin0
  have f8_F_coder_a1 : Fld Z T8.heap a1 "java/lang/String" "coder" "B" u2 := F_coder_a1.keep p8_0 nin0
  have f8_A_a2 : Arv Z T8.heap a2 k2 .char (1 : Int32) [(.int x0)] (.int (0 : Int32)) := A_a2.keep p8_0 nin0
  have f8_S_String_COMPACT_STRINGS : Sta Z T8.heap "java/lang/String" "COMPACT_STRINGS" "Z" (.int cs) := own_sta_keep S_String_COMPACT_STRINGS p8_0 ns0
  have z8 : n0 ≤ T8.heap.size := Nat.le_trans Z0 p8_0.1
  have K8 : Keep h0 T8.heap [a1] := (Keep.refl h0 [a1]).trans p8_0 all0
  have g_b_8 : n0 ≤ b_8 := Nat.le_trans Z0 p8_2
  have sz_b_8 : h0.size ≤ b_8 := Nat.le_trans (Keep.refl h0 [a1]).1 p8_2
  have ne_a1_b_8 : a1 ≠ b_8 := Nat.ne_of_lt (Nat.lt_of_lt_of_le E_a1.lt p8_2)
  have ne_a2_b_8 : a2 ≠ b_8 := Nat.ne_of_lt (Nat.lt_of_lt_of_le A_a2.lt p8_2)
  have R9 : ∀ t, Steps p.tables e below (T8.setTop (mkF m 39 #[rv a1, rv a2, iv (0 : Int32), iv (1 : Int32), .val .null, .unset] [(.ref b_8)])) t → Steps p.tables e below (s₁.setTop f0) t := fun t k => R7 t (st8 t k)
  have R10 : ∀ t, Steps p.tables e below (T8.setTop (mkF m 45 #[rv a1, rv a2, iv (0 : Int32), iv (1 : Int32), .val .null, rv b_8] [(.int (1 : Int32)), (.ref b_8), (.ref a1)])) t → Steps p.tables e below (s₁.setTop f0) t := fun t k => R9 t (by
    show Steps p.tables e below (T8.setTop (mkF m 39 #[rv a1, rv a2, iv (0 : Int32), iv (1 : Int32), .val .null, .unset] [(.ref b_8)])) _
    refine XS.astore X8.here hx rfl (hb hby d2_39) rfl rfl (l' := #[rv a1, rv a2, iv (0 : Int32), iv (1 : Int32), .val .null, rv b_8]) rfl ?_
    show Steps p.tables e below (T8.setTop (mkF m 41 #[rv a1, rv a2, iv (0 : Int32), iv (1 : Int32), .val .null, rv b_8] [])) _
    refine XS.aloadN X8.here hx rfl (hb hby d2_41) rfl rfl ?_
    show Steps p.tables e below (T8.setTop (mkF m 42 #[rv a1, rv a2, iv (0 : Int32), iv (1 : Int32), .val .null, rv b_8] [(.ref a1)])) _
    refine XS.aload X8.here hx rfl (hb hby d2_42) rfl rfl ?_
    show Steps p.tables e below (T8.setTop (mkF m 44 #[rv a1, rv a2, iv (0 : Int32), iv (1 : Int32), .val .null, rv b_8] [(.ref b_8), (.ref a1)])) _
    refine XS.iloadN X8.here hx rfl (hb hby d2_44) rfl  ?_
    exact k)
  obtain ⟨_, _, ⟨T11, L11, k11, n11⟩, -, X11, ⟨Lc11, hQ11, l11, y11, z11⟩, st11⟩ := Jvm.LawKit.callS X8 hx (y := (⟨"java/lang/StringUTF16", "coderFromArrayLen", "([BI)B"⟩ : MethodName)) hown (mvT hZ (hw _ (List.mem_of_getElem? (i := 23) rfl))) (mvT hZ (hw _ (List.mem_of_getElem? (i := 24) rfl))) (mvT hZ (hw _ (List.mem_of_getElem? (i := 17) rfl))) (mvT hZ (hw _ (List.mem_of_getElem? (i := 25) rfl))) (by decide) (backOf (W := 1) (rmCfal1 l Z a0 hw [] b_8 kb_8 [(.int (nar .byte (x0.toInt8.toInt32)))] T8.heap n0 z8 p8_1) hZ (hw _ (List.mem_of_getElem? (i := 25) rfl)) (hw _ (List.mem_of_getElem? (i := 17) rfl)) (by decide) (by decide)) (g := (mkF m 45 #[rv a1, rv a2, iv (0 : Int32), iv (1 : Int32), .val .null, rv b_8] [(.int (1 : Int32)), (.ref b_8), (.ref a1)])) rfl (by rw [hml]; rfl) (argsL := [(.ref b_8), (.int (1 : Int32))]) (rest := [(.ref a1)]) (lenOf pd_4 rfl) rfl (by show 2 * 0 + _ ≤ _; exact Nat.le_of_eq rfl) (hb hby d2_45) (fun _ _ => ⟨rfl, rfl, (by decide : 1 + 0 ≤ _), (by decide : 1 + 0 ≤ _)⟩)
  dsimp only [Pt.U, Pt.locs, Pt.cells, Pt.slots] at X11 l11 y11 z11 st11 hQ11
  subst l11 y11 z11
  obtain ⟨rfl, N11q, p11_0⟩ := hQ11
  have N11 := Fr.app N8 N11q
  have R12 : ∀ t, Steps p.tables e below (T11.setTop (mkF m 48 #[rv a1, rv a2, iv (0 : Int32), iv (1 : Int32), .val .null, rv b_8] [(.int (0 : Int32)), (.ref a1)])) t → Steps p.tables e below (s₁.setTop f0) t := fun t k => R10 t (st11 t k)
  obtain ⟨T13, h13, X13, e13, W13, st13⟩ := putFN X11 hx hZ hown (hw _ (List.mem_of_getElem? (i := 26) rfl)) Via.refl p11_0 f8_F_coder_a1 f8_E_a1 (Or.inr ⟨(hw _ (List.mem_of_getElem? (i := 27) rfl)), rfl, hnm⟩) (hw _ (List.mem_of_getElem? (i := 1) rfl)) (ty := .byte) (v' := (.int (0 : Int32))) (by decide) rfl rfl (g := (mkF m 48 #[rv a1, rv a2, iv (0 : Int32), iv (1 : Int32), .val .null, rv b_8] [(.int (0 : Int32)), (.ref a1)])) rfl rfl (hb hby d2_48)
  have fw13 : Fld Z h13 a1 "java/lang/String" "coder" "B" (.int (0 : Int32)) := f8_F_coder_a1.same W13
  have f13_E_a1 : Exa Z h13 a1 "java/lang/String" := f8_E_a1.wr W13
  have f13_F_value_a1 : Fld Z h13 a1 "java/lang/String" "value" "[B" u1 := f8_F_value_a1.other W13 (Or.inr (slot_ne (Or.inr (hw _ (List.mem_of_getElem? (i := 29) rfl))) (Or.inr (hw _ (List.mem_of_getElem? (i := 27) rfl))) (by decide) (t := (.array .byte)) (t' := .byte) (by decide) (by decide)))
  have f13_A_a2 : Arv Z h13 a2 k2 .char (1 : Int32) [(.int x0)] (.int (0 : Int32)) := f8_A_a2.other W13 (Ne.symm ne_a1_a2)
  have f13_S_String_COMPACT_STRINGS : Sta Z h13 "java/lang/String" "COMPACT_STRINGS" "Z" (.int cs) := f8_S_String_COMPACT_STRINGS.wr W13
  have f13_A_b_8 : Arv Z h13 b_8 kb_8 .byte (1 : Int32) [(.int (nar .byte (x0.toInt8.toInt32)))] (.int (0 : Int32)) := p8_1.other W13 (Ne.symm ne_a1_b_8)
  have z13 : n0 ≤ h13.size := by rw [W13.size]; exact z8
  have K13 : Keep h0 h13 [a1] := K8.wr W13 (Or.inl (List.mem_of_getElem? (i := 0) rfl))
  have N13 := Fr.snoc X13 N11 g_a1
  have R14 : ∀ t, Steps p.tables e below (T13.setTop (mkF m 51 #[rv a1, rv a2, iv (0 : Int32), iv (1 : Int32), .val .null, rv b_8] [])) t → Steps p.tables e below (s₁.setTop f0) t := fun t k => R12 t (st13 t k)
  have R15 : ∀ t, Steps p.tables e below (T13.setTop (mkF m 54 #[rv a1, rv a2, iv (0 : Int32), iv (1 : Int32), .val .null, rv b_8] [(.ref b_8), (.ref a1)])) t → Steps p.tables e below (s₁.setTop f0) t := fun t k => R14 t (by
    show Steps p.tables e below (T13.setTop (mkF m 51 #[rv a1, rv a2, iv (0 : Int32), iv (1 : Int32), .val .null, rv b_8] [])) _
    refine XS.aloadN X13.here hx rfl (hb hby d2_51) rfl rfl ?_
    show Steps p.tables e below (T13.setTop (mkF m 52 #[rv a1, rv a2, iv (0 : Int32), iv (1 : Int32), .val .null, rv b_8] [(.ref a1)])) _
    refine XS.aload X13.here hx rfl (hb hby d2_52) rfl rfl ?_
    exact k)
  obtain ⟨T16, h16, X16, e16, W16, st16⟩ := putF X13 hx hZ hown (host := "") (Or.inl (hw _ (List.mem_of_getElem? (i := 28) rfl))) Via.refl e13 f13_F_value_a1 f13_E_a1 (Or.inr ⟨(hw _ (List.mem_of_getElem? (i := 29) rfl)), rfl, hnm⟩) (hw _ (List.mem_of_getElem? (i := 1) rfl)) (ty := (.array .byte)) (by decide) rfl rfl (g := (mkF m 54 #[rv a1, rv a2, iv (0 : Int32), iv (1 : Int32), .val .null, rv b_8] [(.ref b_8), (.ref a1)])) rfl rfl (hb hby d2_54)
  have fw16 : Fld Z h16 a1 "java/lang/String" "value" "[B" (.ref b_8) := f13_F_value_a1.same W16
  have f16_E_a1 : Exa Z h16 a1 "java/lang/String" := f13_E_a1.wr W16
  have f16_F_coder_a1 : Fld Z h16 a1 "java/lang/String" "coder" "B" (.int (0 : Int32)) := fw13.other W16 (Or.inr (slot_ne (Or.inr (hw _ (List.mem_of_getElem? (i := 27) rfl))) (Or.inr (hw _ (List.mem_of_getElem? (i := 29) rfl))) (by decide) (t := .byte) (t' := (.array .byte)) (by decide) (by decide)))
  have f16_A_a2 : Arv Z h16 a2 k2 .char (1 : Int32) [(.int x0)] (.int (0 : Int32)) := f13_A_a2.other W16 (Ne.symm ne_a1_a2)
  have f16_S_String_COMPACT_STRINGS : Sta Z h16 "java/lang/String" "COMPACT_STRINGS" "Z" (.int cs) := f13_S_String_COMPACT_STRINGS.wr W16
  have f16_A_b_8 : Arv Z h16 b_8 kb_8 .byte (1 : Int32) [(.int (nar .byte (x0.toInt8.toInt32)))] (.int (0 : Int32)) := f13_A_b_8.other W16 (Ne.symm ne_a1_b_8)
  have z16 : n0 ≤ h16.size := by rw [W16.size]; exact z13
  have K16 : Keep h0 h16 [a1] := K13.wr W16 (Or.inl (List.mem_of_getElem? (i := 0) rfl))
  have N16 := Fr.snoc X16 N13 g_a1
  have R17 : ∀ t, Steps p.tables e below (T16.setTop (mkF m 57 #[rv a1, rv a2, iv (0 : Int32), iv (1 : Int32), .val .null, rv b_8] [])) t → Steps p.tables e below (s₁.setTop f0) t := fun t k => R15 t (st16 t k)
  obtain ⟨fs, hr, hrun, hended, hW, hsame⟩ := X16.leave (v := none) (fun _ => rfl)
  refine ⟨_, _, pre0 _ (R17 _ ?_), hrun, hended, _, _, rfl, ?_, ⟨_, rfl⟩, hW, hsame.mono (by decide) (by decide)⟩
  · show Steps p.tables e below (T16.setTop (mkF m 57 #[rv a1, rv a2, iv (0 : Int32), iv (1 : Int32), .val .null, rv b_8] [])) _
    exact X16.returnOut hx Bd.returns (hb hby d2_57) hr
  · show Q_rmStrV1 Z a1 a2 u1 u2 k2 x0 cs h0 n0 _ T16.heap _
    rw [e16]
    exact ⟨b_8, kb_8, rfl, N16, K16, fw16, f16_F_coder_a1, f16_A_b_8, sz_b_8⟩
theorem ef_rmStr1 (m : MethodId) (x0 : Addr) (x1 : Addr) : entryFrame m #[(.ref x0), (.ref x1)] 2 = mkF m 0 #[rv x0, rv x1] [] := by first | (simp [entryFrame, mkF, argsToLocals, Value.category]; done) | rfl
def Q_rmStr1 (Z : State) (a1 : Addr) (a2 : Addr) (u1 : Value) (u2 : Value) (k2 : ClassId) (x0 : Int32) (cs : Int32) (h0 : Heap) (n0 : Nat) (v : Option Value) (h : Heap) (L : List Loc) : Prop := ∃ b : Addr, ∃ kb : ClassId, v = none ∧ Fr n0 L ∧ Keep h0 h [a1] ∧ (Fld Z h a1 "java/lang/String" "value" "[B" (.ref b)) ∧ (Fld Z h a1 "java/lang/String" "coder" "B" (.int (0 : Int32))) ∧ (Arv Z h b kb .byte (1 : Int32) [(.int (nar .byte (x0.toInt8.toInt32)))] (.int (0 : Int32))) ∧ (h0.size ≤ b)
set_option maxRecDepth 65536 in
set_option maxHeartbeats 40000000 in
theorem rmStr1 (l : Launch) (Z : State) (a0 : Array Value) (hw : ∀ d ∈ tables_1, d.before a0 Z = true) (ws : List Jvm.Cond) (a1 : Addr) (a2 : Addr) (u1 : Value) (u2 : Value) (k2 : ClassId) (x0 : Int32) (cs : Int32) (h0 : Heap) (n0 : Nat) (Z0 : n0 ≤ h0.size) (E_a1 : Exa Z h0 a1 "java/lang/String") (F_value_a1 : Fld Z h0 a1 "java/lang/String" "value" "[B" u1) (F_coder_a1 : Fld Z h0 a1 "java/lang/String" "coder" "B" u2) (g_a1 : n0 ≤ a1) (A_a2 : Arv Z h0 a2 k2 .char (1 : Int32) [(.int x0)] (.int (0 : Int32))) (ne_a1_a2 : a1 ≠ a2) (S_String_COMPACT_STRINGS : Sta Z h0 "java/lang/String" "COMPACT_STRINGS" "Z" (.int cs)) (hcs : ¬ cs = (0 : Int32)) (hx0 : ¬ (255 : Int32) < x0) :
    MetFree l (⟨"java/lang/String", "<init>", "([C)V"⟩ : MethodName) (head1 (Jvm.Cond.code (⟨"java/lang/String", "<init>", "([C)V"⟩ : MethodName) jdk_42_method_3_code 2 none :: ws) ({ frames := 3, cells := 1, slots := 1, locals := 52 } : Room)) (fun a U => a = #[(.ref a1), (.ref a2)] ∧ Z.Warmed39 U.vm ∧ U.heap = h0) (fun _ _ _ _ _ => True) (fun _ U o U' => ∃ v L, o = .returned v ∧ Q_rmStr1 Z a1 a2 u1 u2 k2 x0 cs h0 n0 v U'.heap L ∧ FrameEnd U o U' L ({ frames := 3, cells := 1, slots := 1, locals := 52 } : Room).cells ({ frames := 3, cells := 1, slots := 1, locals := 52 } : Room).slots) := by
  refine MetFree.of_bodySF (plainFor_of_name pn_2) hisR ?_
  intro p e s m args below meth c s₁ Bd hml0 hP hK
  obtain ⟨rfl, hZ, hh⟩ := hP
  have hx := Bd.exec
  have hby := Bd.bytes
  have hml : c.maxLocals = 2 := hml0
  have hown : s.vm.findClass "java/lang/String" = some m.cls := findClass_of_methodNamed Bd.named
  have hnm := (name_of_methodNamed Bd.named Bd.method).1
  have X0 : Stand p l e ({ frames := 3, cells := 1, slots := 1, locals := 52 } : Room) s m #[(.ref a1), (.ref a2)] below meth c s₁ [] 0 0 := Stand.of_body Bd
  have e0 : s₁.heap = h0 := by rw [← hh, Bd.state]; rfl
  have N0 := Fr.nil n0
  obtain ⟨f0, hf0⟩ : ∃ f : JFrame, f = mkF m 0 #[rv a1, rv a2] [] := ⟨_, rfl⟩
  have pre0 : ∀ t, Steps p.tables e below (s₁.setTop f0) t → Steps p.tables e below (s₁.setTop (entryFrame m #[(.ref a1), (.ref a2)] 2)) t := fun t k => castTop ((ef_rmStr1 m a1 a2).trans hf0.symm) k
  have R0 : ∀ t, Steps p.tables e below (s₁.setTop (mkF m 0 #[rv a1, rv a2] [])) t → Steps p.tables e below (s₁.setTop f0) t := by rw [hf0]; exact fun t k => k
  have R1 : ∀ t, Steps p.tables e below (s₁.setTop (mkF m 4 #[rv a1, rv a2] [(.ref a2), (.int (0 : Int32)), (.ref a2), (.ref a1)])) t → Steps p.tables e below (s₁.setTop f0) t := fun t k => R0 t (by
    show Steps p.tables e below (s₁.setTop (mkF m 0 #[rv a1, rv a2] [])) _
    refine XS.aloadN X0.here hx rfl (hb hby d1_0) rfl rfl ?_
    show Steps p.tables e below (s₁.setTop (mkF m 1 #[rv a1, rv a2] [(.ref a1)])) _
    refine XS.aloadN X0.here hx rfl (hb hby d1_1) rfl rfl ?_
    show Steps p.tables e below (s₁.setTop (mkF m 2 #[rv a1, rv a2] [(.ref a2), (.ref a1)])) _
    refine XS.iconst X0.here hx rfl (hb hby d1_2) ?_
    show Steps p.tables e below (s₁.setTop (mkF m 3 #[rv a1, rv a2] [(.int (0 : Int32)), (.ref a2), (.ref a1)])) _
    refine XS.aloadN X0.here hx rfl (hb hby d1_3) rfl rfl ?_
    exact k)
  obtain ⟨cl2, Ar2, -, S2, N2_, -, -⟩ := id A_a2
  have R3 : ∀ t, Steps p.tables e below (s₁.setTop (mkF m 5 #[rv a1, rv a2] [(.int (1 : Int32)), (.int (0 : Int32)), (.ref a2), (.ref a1)])) t → Steps p.tables e below (s₁.setTop f0) t := fun t k => R1 t (X0.arraylength hx (by rw [e0]; exact Ar2.1) (State.isArrayOf_alike hZ.alike Ar2.2.1) (g := (mkF m 4 #[rv a1, rv a2] [(.ref a2), (.int (0 : Int32)), (.ref a2), (.ref a1)])) rfl rfl (hb hby d1_4) _ (by rw [len_of S2 N2_]; exact k))
  have R4 : ∀ t, Steps p.tables e below (s₁.setTop (mkF m 6 #[rv a1, rv a2] [.null, (.int (1 : Int32)), (.int (0 : Int32)), (.ref a2), (.ref a1)])) t → Steps p.tables e below (s₁.setTop f0) t := fun t k => R3 t (by
    show Steps p.tables e below (s₁.setTop (mkF m 5 #[rv a1, rv a2] [(.int (1 : Int32)), (.int (0 : Int32)), (.ref a2), (.ref a1)])) _
    refine XS.aconstNull X0.here hx rfl (hb hby d1_5) ?_
    exact k)
  obtain ⟨_, _, ⟨T5, L5, k5, n5⟩, -, X5, ⟨Lc5, hQ5, l5, y5, z5⟩, st5⟩ := X0.specialBack hx (y := (⟨"java/lang/String", "<init>", "([CIILjava/lang/Void;)V"⟩ : MethodName)) rfl hown (mvT hZ (hw _ (List.mem_of_getElem? (i := 7) rfl))) (mvT hZ (hw _ (List.mem_of_getElem? (i := 8) rfl))) (mvT hZ (hw _ (List.mem_of_getElem? (i := 10) rfl))) (by decide) (backOf (W := 0) (rmStrV1 l Z a0 hw [] a1 a2 u1 u2 k2 x0 cs h0 n0 Z0 E_a1 F_value_a1 F_coder_a1 g_a1 A_a2 ne_a1_a2 S_String_COMPACT_STRINGS hcs hx0) hZ (hw _ (List.mem_of_getElem? (i := 10) rfl)) (hw _ (List.mem_of_getElem? (i := 2) rfl)) (by decide) (by decide)) (g := (mkF m 6 #[rv a1, rv a2] [.null, (.int (1 : Int32)), (.int (0 : Int32)), (.ref a2), (.ref a1)])) rfl (by rw [hml]; rfl) (Steps.refl _) (a := a1) (argsL := [(.ref a2), (.int (0 : Int32)), (.int (1 : Int32)), .null]) (rest := []) (lenOf pd_5 rfl) rfl (by show 2 * 0 + _ ≤ _; exact Nat.le_of_eq rfl) (hb hby d1_6) (fun _ _ => ⟨rfl, e0, (by decide : 0 + 1 ≤ _), (by decide : 0 + 1 ≤ _)⟩)
  dsimp only [Pt.U, Pt.locs, Pt.cells, Pt.slots] at X5 l5 y5 z5 st5 hQ5
  subst l5 y5 z5
  obtain ⟨b_5, kb_5, rfl, N5q, p5_0, p5_1, p5_2, p5_3, p5_4⟩ := hQ5
  have N5 := Fr.app N0 N5q
  have f5_E_a1 : Exa Z T5.heap a1 "java/lang/String" := E_a1.keep p5_0
  have f5_A_a2 : Arv Z T5.heap a2 k2 .char (1 : Int32) [(.int x0)] (.int (0 : Int32)) := A_a2.keep p5_0 (ninS (Ne.symm ne_a1_a2) nin0)
  have f5_S_String_COMPACT_STRINGS : Sta Z T5.heap "java/lang/String" "COMPACT_STRINGS" "Z" (.int cs) := own_sta_keep S_String_COMPACT_STRINGS p5_0 (nsS E_a1.nostat ns0)
  have z5 : n0 ≤ T5.heap.size := Nat.le_trans Z0 p5_0.1
  have K5 : Keep h0 T5.heap [a1] := (Keep.refl h0 [a1]).trans p5_0 (allS (Or.inl (List.mem_of_getElem? (i := 0) rfl)) all0)
  have g_b_5 : n0 ≤ b_5 := Nat.le_trans Z0 p5_4
  have sz_b_5 : h0.size ≤ b_5 := Nat.le_trans (Keep.refl h0 [a1]).1 p5_4
  have ne_a1_b_5 : a1 ≠ b_5 := Nat.ne_of_lt (Nat.lt_of_lt_of_le E_a1.lt p5_4)
  have ne_a2_b_5 : a2 ≠ b_5 := Nat.ne_of_lt (Nat.lt_of_lt_of_le A_a2.lt p5_4)
  have R6 : ∀ t, Steps p.tables e below (T5.setTop (mkF m 9 #[rv a1, rv a2] [])) t → Steps p.tables e below (s₁.setTop f0) t := fun t k => R4 t (st5.trans k)
  obtain ⟨fs, hr, hrun, hended, hW, hsame⟩ := X5.leave (v := none) (fun _ => rfl)
  refine ⟨_, _, pre0 _ (R6 _ ?_), hrun, hended, _, _, rfl, ?_, ⟨_, rfl⟩, hW, hsame.mono (by decide) (by decide)⟩
  · show Steps p.tables e below (T5.setTop (mkF m 9 #[rv a1, rv a2] [])) _
    exact X5.returnOut hx Bd.returns (hb hby d1_9) hr
  · show Q_rmStr1 Z a1 a2 u1 u2 k2 x0 cs h0 n0 _ T5.heap _
    exact ⟨b_5, kb_5, rfl, N5, K5, p5_1, p5_2, p5_3, sz_b_5⟩
theorem ef_rmAci (m : MethodId) (x0 : Addr) : entryFrame m #[(.ref x0)] 1 = mkF m 0 #[rv x0] [] := by first | (simp [entryFrame, mkF, argsToLocals, Value.category]; done) | rfl
def Q_rmAci (Z : State) (a1 : Addr) (h0 : Heap) (n0 : Nat) (v : Option Value) (h : Heap) (L : List Loc) : Prop := v = none ∧ Fr n0 L ∧ h = h0
set_option maxRecDepth 65536 in
set_option maxHeartbeats 40000000 in
theorem rmAci (l : Launch) (Z : State) (a0 : Array Value) (hw : ∀ d ∈ tables_1, d.before a0 Z = true) (ws : List Jvm.Cond) (a1 : Addr) (h0 : Heap) (n0 : Nat) (Z0 : n0 ≤ h0.size) :
    MetFree l (⟨"java/util/AbstractCollection", "<init>", "()V"⟩ : MethodName) (head1 (Jvm.Cond.code (⟨"java/util/AbstractCollection", "<init>", "()V"⟩ : MethodName) jdk_22_method_1_code 1 none :: ws) ({ frames := 1, cells := 0, slots := 0, locals := 12 } : Room)) (fun a U => a = #[(.ref a1)] ∧ Z.Warmed39 U.vm ∧ U.heap = h0) (fun _ _ _ _ _ => True) (fun _ U o U' => ∃ v L, o = .returned v ∧ Q_rmAci Z a1 h0 n0 v U'.heap L ∧ FrameEnd U o U' L ({ frames := 1, cells := 0, slots := 0, locals := 12 } : Room).cells ({ frames := 1, cells := 0, slots := 0, locals := 12 } : Room).slots) := by
  refine MetFree.of_bodySF (plainFor_of_name pn_6) hisR ?_
  intro p e s m args below meth c s₁ Bd hml0 hP hK
  obtain ⟨rfl, hZ, hh⟩ := hP
  have hx := Bd.exec
  have hby := Bd.bytes
  have hml : c.maxLocals = 1 := hml0
  have hown : s.vm.findClass "java/util/AbstractCollection" = some m.cls := findClass_of_methodNamed Bd.named
  have hnm := (name_of_methodNamed Bd.named Bd.method).1
  have X0 : Stand p l e ({ frames := 1, cells := 0, slots := 0, locals := 12 } : Room) s m #[(.ref a1)] below meth c s₁ [] 0 0 := Stand.of_body Bd
  have e0 : s₁.heap = h0 := by rw [← hh, Bd.state]; rfl
  have N0 := Fr.nil n0
  obtain ⟨f0, hf0⟩ : ∃ f : JFrame, f = mkF m 0 #[rv a1] [] := ⟨_, rfl⟩
  have pre0 : ∀ t, Steps p.tables e below (s₁.setTop f0) t → Steps p.tables e below (s₁.setTop (entryFrame m #[(.ref a1)] 1)) t := fun t k => castTop ((ef_rmAci m a1).trans hf0.symm) k
  have R0 : ∀ t, Steps p.tables e below (s₁.setTop (mkF m 0 #[rv a1] [])) t → Steps p.tables e below (s₁.setTop f0) t := by rw [hf0]; exact fun t k => k
  have R1 : ∀ t, Steps p.tables e below (s₁.setTop (mkF m 1 #[rv a1] [(.ref a1)])) t → Steps p.tables e below (s₁.setTop f0) t := fun t k => R0 t (by
    show Steps p.tables e below (s₁.setTop (mkF m 0 #[rv a1] [])) _
    refine XS.aloadN X0.here hx rfl (hb hby d9_0) rfl rfl ?_
    exact k)
  obtain ⟨T2, X2, e2, st2⟩ := initO X0 hx hZ hown (hw _ (List.mem_of_getElem? (i := 48) rfl)) (hw _ (List.mem_of_getElem? (i := 12) rfl)) (hw _ (List.mem_of_getElem? (i := 13) rfl)) e0 (g := (mkF m 1 #[rv a1] [(.ref a1)])) rfl (by rw [hml]; rfl) rfl (hb hby d9_1) (by decide) (W := 0) (by show 2 * 0 + _ ≤ _; exact Nat.le_of_eq rfl) (by decide)
  have R3 : ∀ t, Steps p.tables e below (T2.setTop (mkF m 4 #[rv a1] [])) t → Steps p.tables e below (s₁.setTop f0) t := fun t k => R1 t (st2 t k)
  obtain ⟨fs, hr, hrun, hended, hW, hsame⟩ := X2.leave (v := none) (fun _ => rfl)
  refine ⟨_, _, pre0 _ (R3 _ ?_), hrun, hended, _, _, rfl, ?_, ⟨_, rfl⟩, hW, hsame.mono (by decide) (by decide)⟩
  · show Steps p.tables e below (T2.setTop (mkF m 4 #[rv a1] [])) _
    exact X2.returnOut hx Bd.returns (hb hby d9_4) hr
  · show Q_rmAci Z a1 h0 n0 _ T2.heap _
    rw [e2]
    exact ⟨rfl, N0, rfl⟩
theorem ef_rmAli (m : MethodId) (x0 : Addr) : entryFrame m #[(.ref x0)] 1 = mkF m 0 #[rv x0] [] := by first | (simp [entryFrame, mkF, argsToLocals, Value.category]; done) | rfl
def Q_rmAli (Z : State) (a1 : Addr) (u1 : Value) (u2 : Value) (u3 : Value) (h0 : Heap) (n0 : Nat) (v : Option Value) (h : Heap) (L : List Loc) : Prop := v = none ∧ Fr n0 L ∧ Keep h0 h [a1] ∧ (Fld Z h a1 "java/util/AbstractList" "modCount" "I" (.int (0 : Int32))) ∧ (Fld Z h a1 "java/util/ArrayList" "elementData" "[Ljava/lang/Object;" u2) ∧ (Fld Z h a1 "java/util/ArrayList" "size" "I" u3)
set_option maxRecDepth 65536 in
set_option maxHeartbeats 40000000 in
theorem rmAli (l : Launch) (Z : State) (a0 : Array Value) (hw : ∀ d ∈ tables_1, d.before a0 Z = true) (ws : List Jvm.Cond) (a1 : Addr) (u1 : Value) (u2 : Value) (u3 : Value) (h0 : Heap) (n0 : Nat) (Z0 : n0 ≤ h0.size) (E_a1 : Exa Z h0 a1 "java/util/ArrayList") (F_modCount_a1 : Fld Z h0 a1 "java/util/AbstractList" "modCount" "I" u1) (F_elementData_a1 : Fld Z h0 a1 "java/util/ArrayList" "elementData" "[Ljava/lang/Object;" u2) (F_size_a1 : Fld Z h0 a1 "java/util/ArrayList" "size" "I" u3) (g_a1 : n0 ≤ a1) :
    MetFree l (⟨"java/util/AbstractList", "<init>", "()V"⟩ : MethodName) (head1 (Jvm.Cond.code (⟨"java/util/AbstractList", "<init>", "()V"⟩ : MethodName) jdk_39_method_1_code 1 none :: ws) ({ frames := 2, cells := 0, slots := 0, locals := 24 } : Room)) (fun a U => a = #[(.ref a1)] ∧ Z.Warmed39 U.vm ∧ U.heap = h0) (fun _ _ _ _ _ => True) (fun _ U o U' => ∃ v L, o = .returned v ∧ Q_rmAli Z a1 u1 u2 u3 h0 n0 v U'.heap L ∧ FrameEnd U o U' L ({ frames := 2, cells := 0, slots := 0, locals := 24 } : Room).cells ({ frames := 2, cells := 0, slots := 0, locals := 24 } : Room).slots) := by
  refine MetFree.of_bodySF (plainFor_of_name pn_7) hisR ?_
  intro p e s m args below meth c s₁ Bd hml0 hP hK
  obtain ⟨rfl, hZ, hh⟩ := hP
  have hx := Bd.exec
  have hby := Bd.bytes
  have hml : c.maxLocals = 1 := hml0
  have hown : s.vm.findClass "java/util/AbstractList" = some m.cls := findClass_of_methodNamed Bd.named
  have hnm := (name_of_methodNamed Bd.named Bd.method).1
  have X0 : Stand p l e ({ frames := 2, cells := 0, slots := 0, locals := 24 } : Room) s m #[(.ref a1)] below meth c s₁ [] 0 0 := Stand.of_body Bd
  have e0 : s₁.heap = h0 := by rw [← hh, Bd.state]; rfl
  have N0 := Fr.nil n0
  obtain ⟨f0, hf0⟩ : ∃ f : JFrame, f = mkF m 0 #[rv a1] [] := ⟨_, rfl⟩
  have pre0 : ∀ t, Steps p.tables e below (s₁.setTop f0) t → Steps p.tables e below (s₁.setTop (entryFrame m #[(.ref a1)] 1)) t := fun t k => castTop ((ef_rmAli m a1).trans hf0.symm) k
  have R0 : ∀ t, Steps p.tables e below (s₁.setTop (mkF m 0 #[rv a1] [])) t → Steps p.tables e below (s₁.setTop f0) t := by rw [hf0]; exact fun t k => k
  have R1 : ∀ t, Steps p.tables e below (s₁.setTop (mkF m 1 #[rv a1] [(.ref a1)])) t → Steps p.tables e below (s₁.setTop f0) t := fun t k => R0 t (by
    show Steps p.tables e below (s₁.setTop (mkF m 0 #[rv a1] [])) _
    refine XS.aloadN X0.here hx rfl (hb hby d8_0) rfl rfl ?_
    exact k)
  obtain ⟨_, _, ⟨T2, L2, k2, n2⟩, -, X2, ⟨Lc2, hQ2, l2, y2, z2⟩, st2⟩ := X0.specialBack hx (y := (⟨"java/util/AbstractCollection", "<init>", "()V"⟩ : MethodName)) rfl hown (mvT hZ (hw _ (List.mem_of_getElem? (i := 42) rfl))) (mvT hZ (hw _ (List.mem_of_getElem? (i := 43) rfl))) (mvT hZ (hw _ (List.mem_of_getElem? (i := 47) rfl))) (by decide) (backOf (W := 0) (rmAci l Z a0 hw [] a1 h0 n0 Z0) hZ (hw _ (List.mem_of_getElem? (i := 47) rfl)) (hw _ (List.mem_of_getElem? (i := 46) rfl)) (by decide) (by decide)) (g := (mkF m 1 #[rv a1] [(.ref a1)])) rfl (by rw [hml]; rfl) (Steps.refl _) (a := a1) (argsL := []) (rest := []) (lenOf pd_8 rfl) rfl (by show 2 * 0 + _ ≤ _; exact Nat.le_of_eq rfl) (hb hby d8_1) (fun _ _ => ⟨rfl, e0, (by decide : 0 + 0 ≤ _), (by decide : 0 + 0 ≤ _)⟩)
  dsimp only [Pt.U, Pt.locs, Pt.cells, Pt.slots] at X2 l2 y2 z2 st2 hQ2
  subst l2 y2 z2
  obtain ⟨rfl, N2q, p2_0⟩ := hQ2
  have N2 := Fr.app N0 N2q
  have R3 : ∀ t, Steps p.tables e below (T2.setTop (mkF m 4 #[rv a1] [])) t → Steps p.tables e below (s₁.setTop f0) t := fun t k => R1 t (st2.trans k)
  have R4 : ∀ t, Steps p.tables e below (T2.setTop (mkF m 6 #[rv a1] [(.int (0 : Int32)), (.ref a1)])) t → Steps p.tables e below (s₁.setTop f0) t := fun t k => R3 t (by
    show Steps p.tables e below (T2.setTop (mkF m 4 #[rv a1] [])) _
    refine XS.aloadN X2.here hx rfl (hb hby d8_4) rfl rfl ?_
    show Steps p.tables e below (T2.setTop (mkF m 5 #[rv a1] [(.ref a1)])) _
    refine XS.iconst X2.here hx rfl (hb hby d8_5) ?_
    exact k)
  obtain ⟨T5, h5, X5, e5, W5, st5⟩ := putF X2 hx hZ hown (host := "") (Or.inl (hw _ (List.mem_of_getElem? (i := 49) rfl))) Via.refl p2_0 F_modCount_a1 E_a1 (Or.inl (hw _ (List.mem_of_getElem? (i := 50) rfl))) (hw _ (List.mem_of_getElem? (i := 31) rfl)) (ty := .int) (by decide) rfl rfl (g := (mkF m 6 #[rv a1] [(.int (0 : Int32)), (.ref a1)])) rfl rfl (hb hby d8_6)
  have fw5 : Fld Z h5 a1 "java/util/AbstractList" "modCount" "I" (.int (0 : Int32)) := F_modCount_a1.same W5
  have f5_E_a1 : Exa Z h5 a1 "java/util/ArrayList" := E_a1.wr W5
  have f5_F_elementData_a1 : Fld Z h5 a1 "java/util/ArrayList" "elementData" "[Ljava/lang/Object;" u2 := F_elementData_a1.other W5 (Or.inr (slot_ne (Or.inl (hw _ (List.mem_of_getElem? (i := 53) rfl))) (Or.inl (hw _ (List.mem_of_getElem? (i := 50) rfl))) (by decide) (t := (.array (.object "java/lang/Object"))) (t' := .int) (by decide) (by decide)))
  have f5_F_size_a1 : Fld Z h5 a1 "java/util/ArrayList" "size" "I" u3 := F_size_a1.other W5 (Or.inr (slot_ne (Or.inl (hw _ (List.mem_of_getElem? (i := 62) rfl))) (Or.inl (hw _ (List.mem_of_getElem? (i := 50) rfl))) (by decide) (t := .int) (t' := .int) (by decide) (by decide)))
  have z5 : n0 ≤ h5.size := by rw [W5.size]; exact Z0
  have K5 : Keep h0 h5 [a1] := (Keep.refl h0 [a1]).wr W5 (Or.inl (List.mem_of_getElem? (i := 0) rfl))
  have N5 := Fr.snoc X5 N2 g_a1
  have R6 : ∀ t, Steps p.tables e below (T5.setTop (mkF m 9 #[rv a1] [])) t → Steps p.tables e below (s₁.setTop f0) t := fun t k => R4 t (st5 t k)
  obtain ⟨fs, hr, hrun, hended, hW, hsame⟩ := X5.leave (v := none) (fun _ => rfl)
  refine ⟨_, _, pre0 _ (R6 _ ?_), hrun, hended, _, _, rfl, ?_, ⟨_, rfl⟩, hW, hsame.mono (by decide) (by decide)⟩
  · show Steps p.tables e below (T5.setTop (mkF m 9 #[rv a1] [])) _
    exact X5.returnOut hx Bd.returns (hb hby d8_9) hr
  · show Q_rmAli Z a1 u1 u2 u3 h0 n0 _ T5.heap _
    rw [e5]
    exact ⟨rfl, N5, K5, fw5, f5_F_elementData_a1, f5_F_size_a1⟩
theorem ef_rmAri (m : MethodId) (x0 : Addr) : entryFrame m #[(.ref x0)] 1 = mkF m 0 #[rv x0] [] := by first | (simp [entryFrame, mkF, argsToLocals, Value.category]; done) | rfl
def Q_rmAri (Z : State) (a1 : Addr) (u1 : Value) (u2 : Value) (u3 : Value) (dc : Addr) (h0 : Heap) (n0 : Nat) (v : Option Value) (h : Heap) (L : List Loc) : Prop := v = none ∧ Fr n0 L ∧ Keep h0 h [a1] ∧ (Fld Z h a1 "java/util/AbstractList" "modCount" "I" (.int (0 : Int32))) ∧ (Fld Z h a1 "java/util/ArrayList" "elementData" "[Ljava/lang/Object;" (.ref dc)) ∧ (Fld Z h a1 "java/util/ArrayList" "size" "I" u3)
set_option maxRecDepth 65536 in
set_option maxHeartbeats 40000000 in
theorem rmAri (l : Launch) (Z : State) (a0 : Array Value) (hw : ∀ d ∈ tables_1, d.before a0 Z = true) (ws : List Jvm.Cond) (a1 : Addr) (u1 : Value) (u2 : Value) (u3 : Value) (dc : Addr) (h0 : Heap) (n0 : Nat) (Z0 : n0 ≤ h0.size) (E_a1 : Exa Z h0 a1 "java/util/ArrayList") (F_modCount_a1 : Fld Z h0 a1 "java/util/AbstractList" "modCount" "I" u1) (F_elementData_a1 : Fld Z h0 a1 "java/util/ArrayList" "elementData" "[Ljava/lang/Object;" u2) (F_size_a1 : Fld Z h0 a1 "java/util/ArrayList" "size" "I" u3) (g_a1 : n0 ≤ a1) (S_ArrayList_DEFAULTCAPACITY_EMPTY_ELEMENTDATA : Sta Z h0 "java/util/ArrayList" sN4 "[Ljava/lang/Object;" (.ref dc)) :
    MetFree l (⟨"java/util/ArrayList", "<init>", "()V"⟩ : MethodName) (head1 (Jvm.Cond.code (⟨"java/util/ArrayList", "<init>", "()V"⟩ : MethodName) jdk_38_method_2_code 1 none :: ws) ({ frames := 3, cells := 0, slots := 0, locals := 36 } : Room)) (fun a U => a = #[(.ref a1)] ∧ Z.Warmed39 U.vm ∧ U.heap = h0) (fun _ _ _ _ _ => True) (fun _ U o U' => ∃ v L, o = .returned v ∧ Q_rmAri Z a1 u1 u2 u3 dc h0 n0 v U'.heap L ∧ FrameEnd U o U' L ({ frames := 3, cells := 0, slots := 0, locals := 36 } : Room).cells ({ frames := 3, cells := 0, slots := 0, locals := 36 } : Room).slots) := by
  refine MetFree.of_bodySF (plainFor_of_name pn_9) hisR ?_
  intro p e s m args below meth c s₁ Bd hml0 hP hK
  obtain ⟨rfl, hZ, hh⟩ := hP
  have hx := Bd.exec
  have hby := Bd.bytes
  have hml : c.maxLocals = 1 := hml0
  have hown : s.vm.findClass "java/util/ArrayList" = some m.cls := findClass_of_methodNamed Bd.named
  have hnm := (name_of_methodNamed Bd.named Bd.method).1
  have X0 : Stand p l e ({ frames := 3, cells := 0, slots := 0, locals := 36 } : Room) s m #[(.ref a1)] below meth c s₁ [] 0 0 := Stand.of_body Bd
  have e0 : s₁.heap = h0 := by rw [← hh, Bd.state]; rfl
  have N0 := Fr.nil n0
  obtain ⟨f0, hf0⟩ : ∃ f : JFrame, f = mkF m 0 #[rv a1] [] := ⟨_, rfl⟩
  have pre0 : ∀ t, Steps p.tables e below (s₁.setTop f0) t → Steps p.tables e below (s₁.setTop (entryFrame m #[(.ref a1)] 1)) t := fun t k => castTop ((ef_rmAri m a1).trans hf0.symm) k
  have R0 : ∀ t, Steps p.tables e below (s₁.setTop (mkF m 0 #[rv a1] [])) t → Steps p.tables e below (s₁.setTop f0) t := by rw [hf0]; exact fun t k => k
  have R1 : ∀ t, Steps p.tables e below (s₁.setTop (mkF m 1 #[rv a1] [(.ref a1)])) t → Steps p.tables e below (s₁.setTop f0) t := fun t k => R0 t (by
    show Steps p.tables e below (s₁.setTop (mkF m 0 #[rv a1] [])) _
    refine XS.aloadN X0.here hx rfl (hb hby d7_0) rfl rfl ?_
    exact k)
  obtain ⟨_, _, ⟨T2, L2, k2, n2⟩, -, X2, ⟨Lc2, hQ2, l2, y2, z2⟩, st2⟩ := X0.specialBack hx (y := (⟨"java/util/AbstractList", "<init>", "()V"⟩ : MethodName)) rfl hown (mvT hZ (hw _ (List.mem_of_getElem? (i := 36) rfl))) (mvT hZ (hw _ (List.mem_of_getElem? (i := 37) rfl))) (mvT hZ (hw _ (List.mem_of_getElem? (i := 41) rfl))) (by decide) (backOf (W := 0) (rmAli l Z a0 hw [] a1 u1 u2 u3 h0 n0 Z0 E_a1 F_modCount_a1 F_elementData_a1 F_size_a1 g_a1) hZ (hw _ (List.mem_of_getElem? (i := 41) rfl)) (hw _ (List.mem_of_getElem? (i := 40) rfl)) (by decide) (by decide)) (g := (mkF m 1 #[rv a1] [(.ref a1)])) rfl (by rw [hml]; rfl) (Steps.refl _) (a := a1) (argsL := []) (rest := []) (lenOf pd_8 rfl) rfl (by show 2 * 0 + _ ≤ _; exact Nat.le_of_eq rfl) (hb hby d7_1) (fun _ _ => ⟨rfl, e0, (by decide : 0 + 0 ≤ _), (by decide : 0 + 0 ≤ _)⟩)
  dsimp only [Pt.U, Pt.locs, Pt.cells, Pt.slots] at X2 l2 y2 z2 st2 hQ2
  subst l2 y2 z2
  obtain ⟨rfl, N2q, p2_0, p2_1, p2_2, p2_3⟩ := hQ2
  have N2 := Fr.app N0 N2q
  have f2_E_a1 : Exa Z T2.heap a1 "java/util/ArrayList" := E_a1.keep p2_0
  have f2_S_ArrayList_DEFAULTCAPACITY_EMPTY_ELEMENTDATA : Sta Z T2.heap "java/util/ArrayList" sN4 "[Ljava/lang/Object;" (.ref dc) := own_sta_keep S_ArrayList_DEFAULTCAPACITY_EMPTY_ELEMENTDATA p2_0 (nsS E_a1.nostat ns0)
  have z2 : n0 ≤ T2.heap.size := Nat.le_trans Z0 p2_0.1
  have K2 : Keep h0 T2.heap [a1] := (Keep.refl h0 [a1]).trans p2_0 (allS (Or.inl (List.mem_of_getElem? (i := 0) rfl)) all0)
  have R3 : ∀ t, Steps p.tables e below (T2.setTop (mkF m 4 #[rv a1] [])) t → Steps p.tables e below (s₁.setTop f0) t := fun t k => R1 t (st2.trans k)
  have R4 : ∀ t, Steps p.tables e below (T2.setTop (mkF m 5 #[rv a1] [(.ref a1)])) t → Steps p.tables e below (s₁.setTop f0) t := fun t k => R3 t (by
    show Steps p.tables e below (T2.setTop (mkF m 4 #[rv a1] [])) _
    refine XS.aloadN X2.here hx rfl (hb hby d7_4) rfl rfl ?_
    exact k)
  obtain ⟨T5, X5, e5, st5⟩ := getS2 X2 hx hZ hown (host := "") (Or.inl (hw _ (List.mem_of_getElem? (i := 51) rfl))) Via.refl rfl f2_S_ArrayList_DEFAULTCAPACITY_EMPTY_ELEMENTDATA (g := (mkF m 5 #[rv a1] [(.ref a1)])) rfl (hb hby d7_5)
  have R6 : ∀ t, Steps p.tables e below (T5.setTop (mkF m 8 #[rv a1] [(.ref dc), (.ref a1)])) t → Steps p.tables e below (s₁.setTop f0) t := fun t k => R4 t (st5 t k)
  obtain ⟨T7, h7, X7, e7, W7, st7⟩ := putF X5 hx hZ hown (host := "") (Or.inl (hw _ (List.mem_of_getElem? (i := 52) rfl))) Via.refl e5 p2_2 f2_E_a1 (Or.inl (hw _ (List.mem_of_getElem? (i := 53) rfl))) (hw _ (List.mem_of_getElem? (i := 31) rfl)) (ty := (.array (.object "java/lang/Object"))) (by decide) rfl rfl (g := (mkF m 8 #[rv a1] [(.ref dc), (.ref a1)])) rfl rfl (hb hby d7_8)
  have fw7 : Fld Z h7 a1 "java/util/ArrayList" "elementData" "[Ljava/lang/Object;" (.ref dc) := p2_2.same W7
  have f7_E_a1 : Exa Z h7 a1 "java/util/ArrayList" := f2_E_a1.wr W7
  have f7_S_ArrayList_DEFAULTCAPACITY_EMPTY_ELEMENTDATA : Sta Z h7 "java/util/ArrayList" sN4 "[Ljava/lang/Object;" (.ref dc) := f2_S_ArrayList_DEFAULTCAPACITY_EMPTY_ELEMENTDATA.wr W7
  have f7_F_modCount_a1 : Fld Z h7 a1 "java/util/AbstractList" "modCount" "I" (.int (0 : Int32)) := p2_1.other W7 (Or.inr (slot_ne (Or.inl (hw _ (List.mem_of_getElem? (i := 50) rfl))) (Or.inl (hw _ (List.mem_of_getElem? (i := 53) rfl))) (by decide) (t := .int) (t' := (.array (.object "java/lang/Object"))) (by decide) (by decide)))
  have f7_F_size_a1 : Fld Z h7 a1 "java/util/ArrayList" "size" "I" u3 := p2_3.other W7 (Or.inr (slot_ne (Or.inl (hw _ (List.mem_of_getElem? (i := 62) rfl))) (Or.inl (hw _ (List.mem_of_getElem? (i := 53) rfl))) (by decide) (t := .int) (t' := (.array (.object "java/lang/Object"))) (by decide) (by decide)))
  have z7 : n0 ≤ h7.size := by rw [W7.size]; exact z2
  have K7 : Keep h0 h7 [a1] := K2.wr W7 (Or.inl (List.mem_of_getElem? (i := 0) rfl))
  have N7 := Fr.snoc X7 N2 g_a1
  have R8 : ∀ t, Steps p.tables e below (T7.setTop (mkF m 11 #[rv a1] [])) t → Steps p.tables e below (s₁.setTop f0) t := fun t k => R6 t (st7 t k)
  obtain ⟨fs, hr, hrun, hended, hW, hsame⟩ := X7.leave (v := none) (fun _ => rfl)
  refine ⟨_, _, pre0 _ (R8 _ ?_), hrun, hended, _, _, rfl, ?_, ⟨_, rfl⟩, hW, hsame.mono (by decide) (by decide)⟩
  · show Steps p.tables e below (T7.setTop (mkF m 11 #[rv a1] [])) _
    exact X7.returnOut hx Bd.returns (hb hby d7_11) hr
  · show Q_rmAri Z a1 u1 u2 u3 dc h0 n0 _ T7.heap _
    rw [e7]
    exact ⟨rfl, N7, K7, f7_F_modCount_a1, fw7, f7_F_size_a1⟩
theorem ef_rmMax (m : MethodId) (x0 : Int32) (x1 : Int32) : entryFrame m #[(.int x0), (.int x1)] 2 = mkF m 0 #[iv x0, iv x1] [] := by first | (simp [entryFrame, mkF, argsToLocals, Value.category]; done) | rfl
def Q_rmMax (Z : State)  (h0 : Heap) (n0 : Nat) (v : Option Value) (h : Heap) (L : List Loc) : Prop := v = some (.int (10 : Int32)) ∧ Fr n0 L ∧ h = h0
set_option maxRecDepth 65536 in
set_option maxHeartbeats 40000000 in
theorem rmMax (l : Launch) (Z : State) (a0 : Array Value) (hw : ∀ d ∈ tables_1, d.before a0 Z = true) (ws : List Jvm.Cond)  (h0 : Heap) (n0 : Nat) (Z0 : n0 ≤ h0.size) :
    MetFree l (⟨"java/lang/Math", "max", "(II)I"⟩ : MethodName) (head1 (Jvm.Cond.code (⟨"java/lang/Math", "max", "(II)I"⟩ : MethodName) jdk_29_method_65_code 2 (some .int) :: ws) ({ frames := 0, cells := 0, slots := 0, locals := 0 } : Room)) (fun a U => a = #[(.int (10 : Int32)), (.int (1 : Int32))] ∧ Z.Warmed39 U.vm ∧ U.heap = h0) (fun _ _ _ _ _ => True) (fun _ U o U' => ∃ v L, o = .returned v ∧ Q_rmMax Z  h0 n0 v U'.heap L ∧ FrameEnd U o U' L ({ frames := 0, cells := 0, slots := 0, locals := 0 } : Room).cells ({ frames := 0, cells := 0, slots := 0, locals := 0 } : Room).slots) := by
  refine MetFree.of_bodySF (Jvm.Free.JP.mathPlain rfl (by decide +kernel)) hisR ?_
  intro p e s m args below meth c s₁ Bd hml0 hP hK
  obtain ⟨rfl, hZ, hh⟩ := hP
  have hx := Bd.exec
  have hby := Bd.bytes
  have hml : c.maxLocals = 2 := hml0
  have hown : s.vm.findClass "java/lang/Math" = some m.cls := findClass_of_methodNamed Bd.named
  have hnm := (name_of_methodNamed Bd.named Bd.method).1
  have X0 : Stand p l e ({ frames := 0, cells := 0, slots := 0, locals := 0 } : Room) s m #[(.int (10 : Int32)), (.int (1 : Int32))] below meth c s₁ [] 0 0 := Stand.of_body Bd
  have e0 : s₁.heap = h0 := by rw [← hh, Bd.state]; rfl
  have N0 := Fr.nil n0
  obtain ⟨f0, hf0⟩ : ∃ f : JFrame, f = mkF m 0 #[iv (10 : Int32), iv (1 : Int32)] [] := ⟨_, rfl⟩
  have pre0 : ∀ t, Steps p.tables e below (s₁.setTop f0) t → Steps p.tables e below (s₁.setTop (entryFrame m #[(.int (10 : Int32)), (.int (1 : Int32))] 2)) t := fun t k => castTop ((ef_rmMax m (10 : Int32) (1 : Int32)).trans hf0.symm) k
  have R0 : ∀ t, Steps p.tables e below (s₁.setTop (mkF m 0 #[iv (10 : Int32), iv (1 : Int32)] [])) t → Steps p.tables e below (s₁.setTop f0) t := by rw [hf0]; exact fun t k => k
  have R1 : ∀ t, Steps p.tables e below (s₁.setTop (mkF m 10 #[iv (10 : Int32), iv (1 : Int32)] [(.int (10 : Int32))])) t → Steps p.tables e below (s₁.setTop f0) t := fun t k => R0 t (by
    show Steps p.tables e below (s₁.setTop (mkF m 0 #[iv (10 : Int32), iv (1 : Int32)] [])) _
    refine XS.iloadN X0.here hx rfl (hb hby d14_0) rfl  ?_
    show Steps p.tables e below (s₁.setTop (mkF m 1 #[iv (10 : Int32), iv (1 : Int32)] [(.int (10 : Int32))])) _
    refine XS.iloadN X0.here hx rfl (hb hby d14_1) rfl  ?_
    show Steps p.tables e below (s₁.setTop (mkF m 2 #[iv (10 : Int32), iv (1 : Int32)] [(.int (1 : Int32)), (.int (10 : Int32))])) _
    refine XS.icmpNo X0.here hx rfl (hb hby d14_2) rfl (flt (by decide : ¬ ((10 : Int32) < (1 : Int32)))).1 ?_
    show Steps p.tables e below (s₁.setTop (mkF m 5 #[iv (10 : Int32), iv (1 : Int32)] [])) _
    refine XS.iloadN X0.here hx rfl (hb hby d14_5) rfl  ?_
    show Steps p.tables e below (s₁.setTop (mkF m 6 #[iv (10 : Int32), iv (1 : Int32)] [(.int (10 : Int32))])) _
    refine XS.goto X0.here hx rfl (pc0 := 6) (pc' := 10) rfl (hb hby d14_6) (by decide) (by decide) ?_
    exact k)
  obtain ⟨fs, hr, hrun, hended, hW, hsame⟩ := X0.leave (v := some (.int (10 : Int32))) (fun h => by rw [Bd.returns] at h; cases h)
  refine ⟨_, _, pre0 _ (R1 _ ?_), hrun, hended, _, _, rfl, ?_, ⟨_, rfl⟩, hW, hsame.mono (by decide) (by decide)⟩
  · show Steps p.tables e below (s₁.setTop (mkF m 10 #[iv (10 : Int32), iv (1 : Int32)] [(.int (10 : Int32))])) _
    exact retI X0 hx Bd.returns (hb hby d14_10) hr
  · show Q_rmMax Z  h0 n0 _ s₁.heap _
    rw [e0]
    exact ⟨rfl, N0, rfl⟩
theorem ef_rmGrow1 (m : MethodId) (x0 : Addr) (x1 : Int32) : entryFrame m #[(.ref x0), (.int x1)] 4 = mkF m 0 #[rv x0, iv x1, .unset, .unset] [] := by first | (simp [entryFrame, mkF, argsToLocals, Value.category]; done) | rfl
def Q_rmGrow1 (Z : State) (a1 : Addr) (mo : Int32) (dc : Addr) (kdc : ClassId) (h0 : Heap) (n0 : Nat) (v : Option Value) (h : Heap) (L : List Loc) : Prop := ∃ b : Addr, ∃ kb : ClassId, v = some (.ref b) ∧ Fr n0 L ∧ Keep h0 h [a1] ∧ (Fld Z h a1 "java/util/AbstractList" "modCount" "I" (.int mo)) ∧ (Fld Z h a1 "java/util/ArrayList" "elementData" "[Ljava/lang/Object;" (.ref b)) ∧ (Fld Z h a1 "java/util/ArrayList" "size" "I" (.int (0 : Int32))) ∧ (Arv Z h b kb (.object "java/lang/Object") (10 : Int32) [.null, .null, .null, .null, .null, .null, .null, .null, .null, .null] .null) ∧ (h0.size ≤ b) ∧ (Ovr Z kb "java/lang/Object")
set_option maxRecDepth 65536 in
set_option maxHeartbeats 40000000 in
theorem rmGrow1 (l : Launch) (Z : State) (a0 : Array Value) (hw : ∀ d ∈ tables_1, d.before a0 Z = true) (ws : List Jvm.Cond) (a1 : Addr) (mo : Int32) (dc : Addr) (kdc : ClassId) (h0 : Heap) (n0 : Nat) (Z0 : n0 ≤ h0.size) (E_a1 : Exa Z h0 a1 "java/util/ArrayList") (F_modCount_a1 : Fld Z h0 a1 "java/util/AbstractList" "modCount" "I" (.int mo)) (F_elementData_a1 : Fld Z h0 a1 "java/util/ArrayList" "elementData" "[Ljava/lang/Object;" (.ref dc)) (F_size_a1 : Fld Z h0 a1 "java/util/ArrayList" "size" "I" (.int (0 : Int32))) (g_a1 : n0 ≤ a1) (S_ArrayList_DEFAULTCAPACITY_EMPTY_ELEMENTDATA : Sta Z h0 "java/util/ArrayList" sN4 "[Ljava/lang/Object;" (.ref dc)) (A_dc : Arv Z h0 dc kdc (.object "java/lang/Object") (0 : Int32) [] .null) (ne_a1_dc : a1 ≠ dc) :
    MetFree l (⟨"java/util/ArrayList", "grow", "(I)[Ljava/lang/Object;"⟩ : MethodName) (head1 (Jvm.Cond.code (⟨"java/util/ArrayList", "grow", "(I)[Ljava/lang/Object;"⟩ : MethodName) jdk_38_method_6_code 4 (some (.array (.object "java/lang/Object"))) :: ws) ({ frames := 1, cells := 1, slots := 10, locals := 14 } : Room)) (fun a U => a = #[(.ref a1), (.int (1 : Int32))] ∧ Z.Warmed39 U.vm ∧ U.heap = h0) (fun _ _ _ _ _ => True) (fun _ U o U' => ∃ v L, o = .returned v ∧ Q_rmGrow1 Z a1 mo dc kdc h0 n0 v U'.heap L ∧ FrameEnd U o U' L ({ frames := 1, cells := 1, slots := 10, locals := 14 } : Room).cells ({ frames := 1, cells := 1, slots := 10, locals := 14 } : Room).slots) := by
  refine MetFree.of_bodySF (plainFor_of_name pn_9) hisR ?_
  intro p e s m args below meth c s₁ Bd hml0 hP hK
  obtain ⟨rfl, hZ, hh⟩ := hP
  have hx := Bd.exec
  have hby := Bd.bytes
  have hml : c.maxLocals = 4 := hml0
  have hown : s.vm.findClass "java/util/ArrayList" = some m.cls := findClass_of_methodNamed Bd.named
  have hnm := (name_of_methodNamed Bd.named Bd.method).1
  have X0 : Stand p l e ({ frames := 1, cells := 1, slots := 10, locals := 14 } : Room) s m #[(.ref a1), (.int (1 : Int32))] below meth c s₁ [] 0 0 := Stand.of_body Bd
  have e0 : s₁.heap = h0 := by rw [← hh, Bd.state]; rfl
  have N0 := Fr.nil n0
  obtain ⟨f0, hf0⟩ : ∃ f : JFrame, f = mkF m 0 #[rv a1, iv (1 : Int32), .unset, .unset] [] := ⟨_, rfl⟩
  have pre0 : ∀ t, Steps p.tables e below (s₁.setTop f0) t → Steps p.tables e below (s₁.setTop (entryFrame m #[(.ref a1), (.int (1 : Int32))] 4)) t := fun t k => castTop ((ef_rmGrow1 m a1 (1 : Int32)).trans hf0.symm) k
  have R0 : ∀ t, Steps p.tables e below (s₁.setTop (mkF m 0 #[rv a1, iv (1 : Int32), .unset, .unset] [])) t → Steps p.tables e below (s₁.setTop f0) t := by rw [hf0]; exact fun t k => k
  have R1 : ∀ t, Steps p.tables e below (s₁.setTop (mkF m 1 #[rv a1, iv (1 : Int32), .unset, .unset] [(.ref a1)])) t → Steps p.tables e below (s₁.setTop f0) t := fun t k => R0 t (by
    show Steps p.tables e below (s₁.setTop (mkF m 0 #[rv a1, iv (1 : Int32), .unset, .unset] [])) _
    refine XS.aloadN X0.here hx rfl (hb hby d13_0) rfl rfl ?_
    exact k)
  obtain ⟨T2, X2, e2, st2⟩ := getF X0 hx hZ hown (host := "") (Or.inl (hw _ (List.mem_of_getElem? (i := 52) rfl))) Via.refl e0 F_elementData_a1 (g := (mkF m 1 #[rv a1, iv (1 : Int32), .unset, .unset] [(.ref a1)])) rfl rfl (hb hby d13_1)
  have R3 : ∀ t, Steps p.tables e below (T2.setTop (mkF m 4 #[rv a1, iv (1 : Int32), .unset, .unset] [(.ref dc)])) t → Steps p.tables e below (s₁.setTop f0) t := fun t k => R1 t (st2 t k)
  obtain ⟨cl4, Ar4, -, S4, N4_, -, -⟩ := id A_dc
  have R5 : ∀ t, Steps p.tables e below (T2.setTop (mkF m 5 #[rv a1, iv (1 : Int32), .unset, .unset] [(.int (0 : Int32))])) t → Steps p.tables e below (s₁.setTop f0) t := fun t k => R3 t (X2.arraylength hx (by rw [e2]; exact Ar4.1) (State.isArrayOf_alike hZ.alike Ar4.2.1) (g := (mkF m 4 #[rv a1, iv (1 : Int32), .unset, .unset] [(.ref dc)])) rfl rfl (hb hby d13_4) _ (by rw [len_of S4 N4_]; exact k))
  have R6 : ∀ t, Steps p.tables e below (T2.setTop (mkF m 11 #[rv a1, iv (1 : Int32), iv (0 : Int32), .unset] [(.ref a1)])) t → Steps p.tables e below (s₁.setTop f0) t := fun t k => R5 t (by
    show Steps p.tables e below (T2.setTop (mkF m 5 #[rv a1, iv (1 : Int32), .unset, .unset] [(.int (0 : Int32))])) _
    refine XS.istoreN X2.here hx rfl (hb hby d13_5) rfl (l' := #[rv a1, iv (1 : Int32), iv (0 : Int32), .unset]) rfl ?_
    show Steps p.tables e below (T2.setTop (mkF m 6 #[rv a1, iv (1 : Int32), iv (0 : Int32), .unset] [])) _
    refine XS.iloadN X2.here hx rfl (hb hby d13_6) rfl  ?_
    show Steps p.tables e below (T2.setTop (mkF m 7 #[rv a1, iv (1 : Int32), iv (0 : Int32), .unset] [(.int (0 : Int32))])) _
    refine XS.ifNo X2.here hx rfl (hb hby d13_7) rfl ((if0 _ _).trans (flt (by decide : ¬ ((0 : Int32) < (0 : Int32)))).2.2.1) ?_
    show Steps p.tables e below (T2.setTop (mkF m 10 #[rv a1, iv (1 : Int32), iv (0 : Int32), .unset] [])) _
    refine XS.aloadN X2.here hx rfl (hb hby d13_10) rfl rfl ?_
    exact k)
  obtain ⟨T7, X7, e7, st7⟩ := getF X2 hx hZ hown (host := "") (Or.inl (hw _ (List.mem_of_getElem? (i := 52) rfl))) Via.refl e2 F_elementData_a1 (g := (mkF m 11 #[rv a1, iv (1 : Int32), iv (0 : Int32), .unset] [(.ref a1)])) rfl rfl (hb hby d13_11)
  have R8 : ∀ t, Steps p.tables e below (T7.setTop (mkF m 14 #[rv a1, iv (1 : Int32), iv (0 : Int32), .unset] [(.ref dc)])) t → Steps p.tables e below (s₁.setTop f0) t := fun t k => R6 t (st7 t k)
  obtain ⟨T9, X9, e9, st9⟩ := getS2 X7 hx hZ hown (host := "") (Or.inl (hw _ (List.mem_of_getElem? (i := 51) rfl))) Via.refl e7 S_ArrayList_DEFAULTCAPACITY_EMPTY_ELEMENTDATA (g := (mkF m 14 #[rv a1, iv (1 : Int32), iv (0 : Int32), .unset] [(.ref dc)])) rfl (hb hby d13_14)
  have R10 : ∀ t, Steps p.tables e below (T9.setTop (mkF m 17 #[rv a1, iv (1 : Int32), iv (0 : Int32), .unset] [(.ref dc), (.ref dc)])) t → Steps p.tables e below (s₁.setTop f0) t := fun t k => R8 t (st9 t k)
  have R11 : ∀ t, Steps p.tables e below (T9.setTop (mkF m 49 #[rv a1, iv (1 : Int32), iv (0 : Int32), .unset] [(.int (1 : Int32)), (.int (10 : Int32)), (.ref a1)])) t → Steps p.tables e below (s₁.setTop f0) t := fun t k => R10 t (by
    show Steps p.tables e below (T9.setTop (mkF m 17 #[rv a1, iv (1 : Int32), iv (0 : Int32), .unset] [(.ref dc), (.ref dc)])) _
    refine Jvm.RoadKit.acmp (g := (mkF m 17 #[rv a1, iv (1 : Int32), iv (0 : Int32), .unset] [(.ref dc), (.ref dc)])) X9 hx rfl rfl rfl (pc0 := 17) (pc' := 45) (same := true) rfl (hb hby d13_17) rfl (decide_eq_true rfl) (by decide) (by decide) ?_
    show Steps p.tables e below (T9.setTop (mkF m 45 #[rv a1, iv (1 : Int32), iv (0 : Int32), .unset] [])) _
    refine XS.aloadN X9.here hx rfl (hb hby d13_45) rfl rfl ?_
    show Steps p.tables e below (T9.setTop (mkF m 46 #[rv a1, iv (1 : Int32), iv (0 : Int32), .unset] [(.ref a1)])) _
    refine XS.bipush X9.here hx rfl (hb hby d13_46) ?_
    show Steps p.tables e below (T9.setTop (mkF m 48 #[rv a1, iv (1 : Int32), iv (0 : Int32), .unset] [(.int (10 : Int32)), (.ref a1)])) _
    refine XS.iloadN X9.here hx rfl (hb hby d13_48) rfl  ?_
    exact k)
  obtain ⟨_, _, ⟨T12, L12, k12, n12⟩, -, X12, ⟨Lc12, hQ12, l12, y12, z12⟩, st12⟩ := Jvm.LawKit.callS X9 hx (y := (⟨"java/lang/Math", "max", "(II)I"⟩ : MethodName)) hown (mvT hZ (hw _ (List.mem_of_getElem? (i := 78) rfl))) (mvT hZ (hw _ (List.mem_of_getElem? (i := 79) rfl))) (mvT hZ (hw _ (List.mem_of_getElem? (i := 80) rfl))) (mvT hZ (hw _ (List.mem_of_getElem? (i := 81) rfl))) (by decide) (backOf (W := 1) (rmMax l Z a0 hw []  h0 n0 Z0) hZ (hw _ (List.mem_of_getElem? (i := 81) rfl)) (hw _ (List.mem_of_getElem? (i := 80) rfl)) (by decide) (by decide)) (g := (mkF m 49 #[rv a1, iv (1 : Int32), iv (0 : Int32), .unset] [(.int (1 : Int32)), (.int (10 : Int32)), (.ref a1)])) rfl (by rw [hml]; rfl) (argsL := [(.int (10 : Int32)), (.int (1 : Int32))]) (rest := [(.ref a1)]) (lenOf pd_10 rfl) rfl (by show 2 * 0 + _ ≤ _; exact Nat.le_of_eq rfl) (hb hby d13_49) (fun _ _ => ⟨rfl, e9, (by decide : 0 + 0 ≤ _), (by decide : 0 + 0 ≤ _)⟩)
  dsimp only [Pt.U, Pt.locs, Pt.cells, Pt.slots] at X12 l12 y12 z12 st12 hQ12
  subst l12 y12 z12
  obtain ⟨rfl, N12q, p12_0⟩ := hQ12
  have N12 := Fr.app N0 N12q
  have R13 : ∀ t, Steps p.tables e below (T12.setTop (mkF m 52 #[rv a1, iv (1 : Int32), iv (0 : Int32), .unset] [(.int (10 : Int32)), (.ref a1)])) t → Steps p.tables e below (s₁.setTop f0) t := fun t k => R11 t (st12 t k)
  obtain ⟨T14, h14, k14, X14, e14, E14, A14, O14, st14⟩ := newR X12 hx hZ hown (hw _ (List.mem_of_getElem? (i := 82) rfl)) (hw _ (List.mem_of_getElem? (i := 83) rfl)) p12_0 (g := (mkF m 52 #[rv a1, iv (1 : Int32), iv (0 : Int32), .unset] [(.int (10 : Int32)), (.ref a1)])) rfl (hb hby d13_52) rfl (by decide) (cap := 10) (by decide) (by decide) (by decide) (by decide)
  obtain ⟨b14, g14⟩ : ∃ z, z = h0.size := ⟨_, rfl⟩
  rw [← g14] at A14 st14
  have g_b14 : n0 ≤ b14 := Nat.le_trans Z0 (Nat.le_of_eq g14.symm)
  have sz_b14 : h0.size ≤ b14 := Nat.le_trans (Keep.refl h0 [a1]).1 (Nat.le_of_eq g14.symm)
  have ne_a1_b14 : a1 ≠ b14 := Nat.ne_of_lt (Nat.lt_of_lt_of_le E_a1.lt (Nat.le_of_eq g14.symm))
  have ne_dc_b14 : dc ≠ b14 := Nat.ne_of_lt (Nat.lt_of_lt_of_le A_dc.lt (Nat.le_of_eq g14.symm))
  have f14_E_a1 : Exa Z h14 a1 "java/util/ArrayList" := E_a1.ext E14
  have f14_F_modCount_a1 : Fld Z h14 a1 "java/util/AbstractList" "modCount" "I" (.int mo) := F_modCount_a1.ext E14
  have f14_F_elementData_a1 : Fld Z h14 a1 "java/util/ArrayList" "elementData" "[Ljava/lang/Object;" (.ref dc) := F_elementData_a1.ext E14
  have f14_F_size_a1 : Fld Z h14 a1 "java/util/ArrayList" "size" "I" (.int (0 : Int32)) := F_size_a1.ext E14
  have f14_S_ArrayList_DEFAULTCAPACITY_EMPTY_ELEMENTDATA : Sta Z h14 "java/util/ArrayList" sN4 "[Ljava/lang/Object;" (.ref dc) := S_ArrayList_DEFAULTCAPACITY_EMPTY_ELEMENTDATA.ext E14
  have f14_A_dc : Arv Z h14 dc kdc (.object "java/lang/Object") (0 : Int32) [] .null := A_dc.ext E14
  have z14 : n0 ≤ h14.size := Nat.le_trans Z0 E14.1
  have K14 : Keep h0 h14 [a1] := (Keep.refl h0 [a1]).ext E14
  have v14 : Arv Z h14 b14 k14 (.object "java/lang/Object") (10 : Int32) [.null, .null, .null, .null, .null, .null, .null, .null, .null, .null] .null := (Arv.new A14 (by decide)).pad (pad_rep [] .null 10)
  have R15 : ∀ t, Steps p.tables e below (T14.setTop (mkF m 55 #[rv a1, iv (1 : Int32), iv (0 : Int32), .unset] [(.ref b14), (.ref a1)])) t → Steps p.tables e below (s₁.setTop f0) t := fun t k => R13 t (st14 t k)
  have R16 : ∀ t, Steps p.tables e below (T14.setTop (mkF m 56 #[rv a1, iv (1 : Int32), iv (0 : Int32), .unset] [(.ref b14), (.ref a1), (.ref b14)])) t → Steps p.tables e below (s₁.setTop f0) t := fun t k => R15 t (by
    show Steps p.tables e below (T14.setTop (mkF m 55 #[rv a1, iv (1 : Int32), iv (0 : Int32), .unset] [(.ref b14), (.ref a1)])) _
    refine XS.dupX1 X14.here hx rfl (hb hby d13_55) rfl rfl rfl ?_
    exact k)
  obtain ⟨T17, h17, X17, e17, W17, st17⟩ := putF X14 hx hZ hown (host := "") (Or.inl (hw _ (List.mem_of_getElem? (i := 52) rfl))) Via.refl e14 f14_F_elementData_a1 f14_E_a1 (Or.inl (hw _ (List.mem_of_getElem? (i := 53) rfl))) (hw _ (List.mem_of_getElem? (i := 31) rfl)) (ty := (.array (.object "java/lang/Object"))) (by decide) rfl rfl (g := (mkF m 56 #[rv a1, iv (1 : Int32), iv (0 : Int32), .unset] [(.ref b14), (.ref a1), (.ref b14)])) rfl rfl (hb hby d13_56)
  have fw17 : Fld Z h17 a1 "java/util/ArrayList" "elementData" "[Ljava/lang/Object;" (.ref b14) := f14_F_elementData_a1.same W17
  have f17_E_a1 : Exa Z h17 a1 "java/util/ArrayList" := f14_E_a1.wr W17
  have f17_F_modCount_a1 : Fld Z h17 a1 "java/util/AbstractList" "modCount" "I" (.int mo) := f14_F_modCount_a1.other W17 (Or.inr (slot_ne (Or.inl (hw _ (List.mem_of_getElem? (i := 50) rfl))) (Or.inl (hw _ (List.mem_of_getElem? (i := 53) rfl))) (by decide) (t := .int) (t' := (.array (.object "java/lang/Object"))) (by decide) (by decide)))
  have f17_F_size_a1 : Fld Z h17 a1 "java/util/ArrayList" "size" "I" (.int (0 : Int32)) := f14_F_size_a1.other W17 (Or.inr (slot_ne (Or.inl (hw _ (List.mem_of_getElem? (i := 62) rfl))) (Or.inl (hw _ (List.mem_of_getElem? (i := 53) rfl))) (by decide) (t := .int) (t' := (.array (.object "java/lang/Object"))) (by decide) (by decide)))
  have f17_S_ArrayList_DEFAULTCAPACITY_EMPTY_ELEMENTDATA : Sta Z h17 "java/util/ArrayList" sN4 "[Ljava/lang/Object;" (.ref dc) := f14_S_ArrayList_DEFAULTCAPACITY_EMPTY_ELEMENTDATA.wr W17
  have f17_A_dc : Arv Z h17 dc kdc (.object "java/lang/Object") (0 : Int32) [] .null := f14_A_dc.other W17 (Ne.symm ne_a1_dc)
  have f17_A_b14 : Arv Z h17 b14 k14 (.object "java/lang/Object") (10 : Int32) [.null, .null, .null, .null, .null, .null, .null, .null, .null, .null] .null := v14.other W17 (Ne.symm ne_a1_b14)
  have z17 : n0 ≤ h17.size := by rw [W17.size]; exact z14
  have K17 : Keep h0 h17 [a1] := K14.wr W17 (Or.inl (List.mem_of_getElem? (i := 0) rfl))
  have N17 := Fr.snoc X17 N12 g_a1
  have R18 : ∀ t, Steps p.tables e below (T17.setTop (mkF m 59 #[rv a1, iv (1 : Int32), iv (0 : Int32), .unset] [(.ref b14)])) t → Steps p.tables e below (s₁.setTop f0) t := fun t k => R16 t (st17 t k)
  obtain ⟨fs, hr, hrun, hended, hW, hsame⟩ := X17.leave (v := some (.ref b14)) (fun h => by rw [Bd.returns] at h; cases h)
  refine ⟨_, _, pre0 _ (R18 _ ?_), hrun, hended, _, _, rfl, ?_, ⟨_, rfl⟩, hW, hsame.mono (by decide) (by decide)⟩
  · show Steps p.tables e below (T17.setTop (mkF m 59 #[rv a1, iv (1 : Int32), iv (0 : Int32), .unset] [(.ref b14)])) _
    exact retOut X17 hx (t := (.array (.object "java/lang/Object"))) Bd.returns rfl (Or.inr (Or.inr (Or.inr (Or.inr ⟨rfl, rfl, rfl⟩)))) (hb hby d13_59) hr
  · show Q_rmGrow1 Z a1 mo dc kdc h0 n0 _ T17.heap _
    rw [e17]
    exact ⟨b14, k14, rfl, N17, K17, f17_F_modCount_a1, fw17, f17_F_size_a1, f17_A_b14, sz_b14, O14⟩
theorem ef_rmGrow0 (m : MethodId) (x0 : Addr) : entryFrame m #[(.ref x0)] 1 = mkF m 0 #[rv x0] [] := by first | (simp [entryFrame, mkF, argsToLocals, Value.category]; done) | rfl
def Q_rmGrow0 (Z : State) (a1 : Addr) (mo : Int32) (dc : Addr) (kdc : ClassId) (h0 : Heap) (n0 : Nat) (v : Option Value) (h : Heap) (L : List Loc) : Prop := ∃ b : Addr, ∃ kb : ClassId, v = some (.ref b) ∧ Fr n0 L ∧ Keep h0 h [a1] ∧ (Fld Z h a1 "java/util/AbstractList" "modCount" "I" (.int mo)) ∧ (Fld Z h a1 "java/util/ArrayList" "elementData" "[Ljava/lang/Object;" (.ref b)) ∧ (Fld Z h a1 "java/util/ArrayList" "size" "I" (.int (0 : Int32))) ∧ (Arv Z h b kb (.object "java/lang/Object") (10 : Int32) [.null, .null, .null, .null, .null, .null, .null, .null, .null, .null] .null) ∧ (h0.size ≤ b) ∧ (Ovr Z kb "java/lang/Object")
set_option maxRecDepth 65536 in
set_option maxHeartbeats 40000000 in
theorem rmGrow0 (l : Launch) (Z : State) (a0 : Array Value) (hw : ∀ d ∈ tables_1, d.before a0 Z = true) (ws : List Jvm.Cond) (a1 : Addr) (mo : Int32) (dc : Addr) (kdc : ClassId) (h0 : Heap) (n0 : Nat) (Z0 : n0 ≤ h0.size) (E_a1 : Exa Z h0 a1 "java/util/ArrayList") (F_modCount_a1 : Fld Z h0 a1 "java/util/AbstractList" "modCount" "I" (.int mo)) (F_elementData_a1 : Fld Z h0 a1 "java/util/ArrayList" "elementData" "[Ljava/lang/Object;" (.ref dc)) (F_size_a1 : Fld Z h0 a1 "java/util/ArrayList" "size" "I" (.int (0 : Int32))) (g_a1 : n0 ≤ a1) (S_ArrayList_DEFAULTCAPACITY_EMPTY_ELEMENTDATA : Sta Z h0 "java/util/ArrayList" sN4 "[Ljava/lang/Object;" (.ref dc)) (A_dc : Arv Z h0 dc kdc (.object "java/lang/Object") (0 : Int32) [] .null) (ne_a1_dc : a1 ≠ dc) :
    MetFree l (⟨"java/util/ArrayList", "grow", "()[Ljava/lang/Object;"⟩ : MethodName) (head1 (Jvm.Cond.code (⟨"java/util/ArrayList", "grow", "()[Ljava/lang/Object;"⟩ : MethodName) jdk_38_method_7_code 1 (some (.array (.object "java/lang/Object"))) :: ws) ({ frames := 2, cells := 1, slots := 10, locals := 29 } : Room)) (fun a U => a = #[(.ref a1)] ∧ Z.Warmed39 U.vm ∧ U.heap = h0) (fun _ _ _ _ _ => True) (fun _ U o U' => ∃ v L, o = .returned v ∧ Q_rmGrow0 Z a1 mo dc kdc h0 n0 v U'.heap L ∧ FrameEnd U o U' L ({ frames := 2, cells := 1, slots := 10, locals := 29 } : Room).cells ({ frames := 2, cells := 1, slots := 10, locals := 29 } : Room).slots) := by
  refine MetFree.of_bodySF (plainFor_of_name pn_9) hisR ?_
  intro p e s m args below meth c s₁ Bd hml0 hP hK
  obtain ⟨rfl, hZ, hh⟩ := hP
  have hx := Bd.exec
  have hby := Bd.bytes
  have hml : c.maxLocals = 1 := hml0
  have hown : s.vm.findClass "java/util/ArrayList" = some m.cls := findClass_of_methodNamed Bd.named
  have hnm := (name_of_methodNamed Bd.named Bd.method).1
  have X0 : Stand p l e ({ frames := 2, cells := 1, slots := 10, locals := 29 } : Room) s m #[(.ref a1)] below meth c s₁ [] 0 0 := Stand.of_body Bd
  have e0 : s₁.heap = h0 := by rw [← hh, Bd.state]; rfl
  have N0 := Fr.nil n0
  obtain ⟨f0, hf0⟩ : ∃ f : JFrame, f = mkF m 0 #[rv a1] [] := ⟨_, rfl⟩
  have pre0 : ∀ t, Steps p.tables e below (s₁.setTop f0) t → Steps p.tables e below (s₁.setTop (entryFrame m #[(.ref a1)] 1)) t := fun t k => castTop ((ef_rmGrow0 m a1).trans hf0.symm) k
  have R0 : ∀ t, Steps p.tables e below (s₁.setTop (mkF m 0 #[rv a1] [])) t → Steps p.tables e below (s₁.setTop f0) t := by rw [hf0]; exact fun t k => k
  have R1 : ∀ t, Steps p.tables e below (s₁.setTop (mkF m 2 #[rv a1] [(.ref a1), (.ref a1)])) t → Steps p.tables e below (s₁.setTop f0) t := fun t k => R0 t (by
    show Steps p.tables e below (s₁.setTop (mkF m 0 #[rv a1] [])) _
    refine XS.aloadN X0.here hx rfl (hb hby d12_0) rfl rfl ?_
    show Steps p.tables e below (s₁.setTop (mkF m 1 #[rv a1] [(.ref a1)])) _
    refine XS.aloadN X0.here hx rfl (hb hby d12_1) rfl rfl ?_
    exact k)
  obtain ⟨T2, X2, e2, st2⟩ := getF X0 hx hZ hown (host := "") (Or.inl (hw _ (List.mem_of_getElem? (i := 61) rfl))) Via.refl e0 F_size_a1 (g := (mkF m 2 #[rv a1] [(.ref a1), (.ref a1)])) rfl rfl (hb hby d12_2)
  have R3 : ∀ t, Steps p.tables e below (T2.setTop (mkF m 5 #[rv a1] [(.int (0 : Int32)), (.ref a1)])) t → Steps p.tables e below (s₁.setTop f0) t := fun t k => R1 t (st2 t k)
  have R4 : ∀ t, Steps p.tables e below (T2.setTop (mkF m 7 #[rv a1] [(.int (1 : Int32)), (.ref a1)])) t → Steps p.tables e below (s₁.setTop f0) t := fun t k => R3 t (by
    show Steps p.tables e below (T2.setTop (mkF m 5 #[rv a1] [(.int (0 : Int32)), (.ref a1)])) _
    refine XS.iconst X2.here hx rfl (hb hby d12_5) ?_
    show Steps p.tables e below (T2.setTop (mkF m 6 #[rv a1] [(.int (1 : Int32)), (.int (0 : Int32)), (.ref a1)])) _
    refine XS.iadd X2.here hx rfl (hb hby d12_6) rfl ?_
    exact k)
  obtain ⟨cq5, q5, q5'⟩ := E_a1.cell
  obtain ⟨_, _, ⟨T5, L5, k5, n5⟩, -, X5, ⟨Lc5, hQ5, l5, y5, z5⟩, st5⟩ := X2.privateBack hx (y := (⟨"java/util/ArrayList", "grow", "(I)[Ljava/lang/Object;"⟩ : MethodName)) hown (mvT hZ (hw _ (List.mem_of_getElem? (i := 73) rfl))) (mvT hZ (hw _ (List.mem_of_getElem? (i := 74) rfl))) (mvT hZ (hw _ (List.mem_of_getElem? (i := 76) rfl))) (Cond.privateMethod_at (mvP hZ (hw _ (List.mem_of_getElem? (i := 75) rfl)) (args := #[]))) (mvT hZ (hw _ (List.mem_of_getElem? (i := 77) rfl))) (by decide) (backOf (W := 0) (rmGrow1 l Z a0 hw [] a1 mo dc kdc h0 n0 Z0 E_a1 F_modCount_a1 F_elementData_a1 F_size_a1 g_a1 S_ArrayList_DEFAULTCAPACITY_EMPTY_ELEMENTDATA A_dc ne_a1_dc) hZ (hw _ (List.mem_of_getElem? (i := 77) rfl)) (hw _ (List.mem_of_getElem? (i := 32) rfl)) (by decide) (by decide)) (g := (mkF m 7 #[rv a1] [(.int (1 : Int32)), (.ref a1)])) rfl (by rw [hml]; rfl) (Steps.refl _) (a := a1) (by rw [e2]; exact q5) q5' (argsL := [(.int (1 : Int32))]) (rest := []) (lenOf pd_11 rfl) rfl (by show 2 * 0 + _ ≤ _; exact Nat.le_of_eq rfl) (hb hby d12_7) (fun _ _ => ⟨rfl, e2, (by decide : 0 + 1 ≤ _), (by decide : 0 + 10 ≤ _)⟩)
  dsimp only [Pt.U, Pt.locs, Pt.cells, Pt.slots] at X5 l5 y5 z5 st5 hQ5
  subst l5 y5 z5
  obtain ⟨b_5, kb_5, rfl, N5q, p5_0, p5_1, p5_2, p5_3, p5_4, p5_5, p5_6⟩ := hQ5
  have N5 := Fr.app N0 N5q
  have f5_E_a1 : Exa Z T5.heap a1 "java/util/ArrayList" := E_a1.keep p5_0
  have f5_S_ArrayList_DEFAULTCAPACITY_EMPTY_ELEMENTDATA : Sta Z T5.heap "java/util/ArrayList" sN4 "[Ljava/lang/Object;" (.ref dc) := own_sta_keep S_ArrayList_DEFAULTCAPACITY_EMPTY_ELEMENTDATA p5_0 (nsS E_a1.nostat ns0)
  have f5_A_dc : Arv Z T5.heap dc kdc (.object "java/lang/Object") (0 : Int32) [] .null := A_dc.keep p5_0 (ninS (Ne.symm ne_a1_dc) nin0)
  have z5 : n0 ≤ T5.heap.size := Nat.le_trans Z0 p5_0.1
  have K5 : Keep h0 T5.heap [a1] := (Keep.refl h0 [a1]).trans p5_0 (allS (Or.inl (List.mem_of_getElem? (i := 0) rfl)) all0)
  have g_b_5 : n0 ≤ b_5 := Nat.le_trans Z0 p5_5
  have sz_b_5 : h0.size ≤ b_5 := Nat.le_trans (Keep.refl h0 [a1]).1 p5_5
  have ne_a1_b_5 : a1 ≠ b_5 := Nat.ne_of_lt (Nat.lt_of_lt_of_le E_a1.lt p5_5)
  have ne_dc_b_5 : dc ≠ b_5 := Nat.ne_of_lt (Nat.lt_of_lt_of_le A_dc.lt p5_5)
  have R6 : ∀ t, Steps p.tables e below (T5.setTop (mkF m 10 #[rv a1] [(.ref b_5)])) t → Steps p.tables e below (s₁.setTop f0) t := fun t k => R4 t (st5.trans k)
  obtain ⟨fs, hr, hrun, hended, hW, hsame⟩ := X5.leave (v := some (.ref b_5)) (fun h => by rw [Bd.returns] at h; cases h)
  refine ⟨_, _, pre0 _ (R6 _ ?_), hrun, hended, _, _, rfl, ?_, ⟨_, rfl⟩, hW, hsame.mono (by decide) (by decide)⟩
  · show Steps p.tables e below (T5.setTop (mkF m 10 #[rv a1] [(.ref b_5)])) _
    exact retOut X5 hx (t := (.array (.object "java/lang/Object"))) Bd.returns rfl (Or.inr (Or.inr (Or.inr (Or.inr ⟨rfl, rfl, rfl⟩)))) (hb hby d12_10) hr
  · show Q_rmGrow0 Z a1 mo dc kdc h0 n0 _ T5.heap _
    exact ⟨b_5, kb_5, rfl, N5, K5, p5_1, p5_2, p5_3, p5_4, sz_b_5, p5_6⟩
theorem ef_rmAddP0 (m : MethodId) (x0 : Addr) (x1 : Addr) (x2 : Addr) (x3 : Int32) : entryFrame m #[(.ref x0), (.ref x1), (.ref x2), (.int x3)] 4 = mkF m 0 #[rv x0, rv x1, rv x2, iv x3] [] := by first | (simp [entryFrame, mkF, argsToLocals, Value.category]; done) | rfl
def Q_rmAddP0 (Z : State) (a1 : Addr) (mo : Int32) (dc : Addr) (kdc : ClassId) (x1 : Addr) (h0 : Heap) (n0 : Nat) (v : Option Value) (h : Heap) (L : List Loc) : Prop := ∃ b : Addr, ∃ kb : ClassId, v = none ∧ Fr n0 L ∧ Keep h0 h [a1] ∧ (Fld Z h a1 "java/util/AbstractList" "modCount" "I" (.int mo)) ∧ (Fld Z h a1 "java/util/ArrayList" "elementData" "[Ljava/lang/Object;" (.ref b)) ∧ (Fld Z h a1 "java/util/ArrayList" "size" "I" (.int (1 : Int32))) ∧ (Arv Z h b kb (.object "java/lang/Object") (10 : Int32) [(.ref x1), .null, .null, .null, .null, .null, .null, .null, .null, .null] .null) ∧ (h0.size ≤ b) ∧ (Ovr Z kb "java/lang/Object")
set_option maxRecDepth 65536 in
set_option maxHeartbeats 40000000 in
theorem rmAddP0 (l : Launch) (Z : State) (a0 : Array Value) (hw : ∀ d ∈ tables_1, d.before a0 Z = true) (ws : List Jvm.Cond) (a1 : Addr) (mo : Int32) (dc : Addr) (kdc : ClassId) (x1 : Addr) (h0 : Heap) (n0 : Nat) (Z0 : n0 ≤ h0.size) (E_a1 : Exa Z h0 a1 "java/util/ArrayList") (F_modCount_a1 : Fld Z h0 a1 "java/util/AbstractList" "modCount" "I" (.int mo)) (F_elementData_a1 : Fld Z h0 a1 "java/util/ArrayList" "elementData" "[Ljava/lang/Object;" (.ref dc)) (F_size_a1 : Fld Z h0 a1 "java/util/ArrayList" "size" "I" (.int (0 : Int32))) (g_a1 : n0 ≤ a1) (S_ArrayList_DEFAULTCAPACITY_EMPTY_ELEMENTDATA : Sta Z h0 "java/util/ArrayList" sN4 "[Ljava/lang/Object;" (.ref dc)) (A_dc : Arv Z h0 dc kdc (.object "java/lang/Object") (0 : Int32) [] .null) (ne_a1_dc : a1 ≠ dc) (E_x1 : Exa Z h0 x1 "java/lang/String") :
    MetFree l (⟨"java/util/ArrayList", "add", sN7⟩ : MethodName) (head1 (Jvm.Cond.code (⟨"java/util/ArrayList", "add", sN7⟩ : MethodName) jdk_38_method_24_code 4 none :: ws) ({ frames := 3, cells := 1, slots := 10, locals := 41 } : Room)) (fun a U => a = #[(.ref a1), (.ref x1), (.ref dc), (.int (0 : Int32))] ∧ Z.Warmed39 U.vm ∧ U.heap = h0) (fun _ _ _ _ _ => True) (fun _ U o U' => ∃ v L, o = .returned v ∧ Q_rmAddP0 Z a1 mo dc kdc x1 h0 n0 v U'.heap L ∧ FrameEnd U o U' L ({ frames := 3, cells := 1, slots := 10, locals := 41 } : Room).cells ({ frames := 3, cells := 1, slots := 10, locals := 41 } : Room).slots) := by
  refine MetFree.of_bodySF (plainFor_of_name pn_9) hisR ?_
  intro p e s m args below meth c s₁ Bd hml0 hP hK
  obtain ⟨rfl, hZ, hh⟩ := hP
  have hx := Bd.exec
  have hby := Bd.bytes
  have hml : c.maxLocals = 4 := hml0
  have hown : s.vm.findClass "java/util/ArrayList" = some m.cls := findClass_of_methodNamed Bd.named
  have hnm := (name_of_methodNamed Bd.named Bd.method).1
  have X0 : Stand p l e ({ frames := 3, cells := 1, slots := 10, locals := 41 } : Room) s m #[(.ref a1), (.ref x1), (.ref dc), (.int (0 : Int32))] below meth c s₁ [] 0 0 := Stand.of_body Bd
  have e0 : s₁.heap = h0 := by rw [← hh, Bd.state]; rfl
  have N0 := Fr.nil n0
  obtain ⟨f0, hf0⟩ : ∃ f : JFrame, f = mkF m 0 #[rv a1, rv x1, rv dc, iv (0 : Int32)] [] := ⟨_, rfl⟩
  have pre0 : ∀ t, Steps p.tables e below (s₁.setTop f0) t → Steps p.tables e below (s₁.setTop (entryFrame m #[(.ref a1), (.ref x1), (.ref dc), (.int (0 : Int32))] 4)) t := fun t k => castTop ((ef_rmAddP0 m a1 x1 dc (0 : Int32)).trans hf0.symm) k
  have R0 : ∀ t, Steps p.tables e below (s₁.setTop (mkF m 0 #[rv a1, rv x1, rv dc, iv (0 : Int32)] [])) t → Steps p.tables e below (s₁.setTop f0) t := by rw [hf0]; exact fun t k => k
  have R1 : ∀ t, Steps p.tables e below (s₁.setTop (mkF m 2 #[rv a1, rv x1, rv dc, iv (0 : Int32)] [(.ref dc), (.int (0 : Int32))])) t → Steps p.tables e below (s₁.setTop f0) t := fun t k => R0 t (by
    show Steps p.tables e below (s₁.setTop (mkF m 0 #[rv a1, rv x1, rv dc, iv (0 : Int32)] [])) _
    refine XS.iloadN X0.here hx rfl (hb hby d11_0) rfl  ?_
    show Steps p.tables e below (s₁.setTop (mkF m 1 #[rv a1, rv x1, rv dc, iv (0 : Int32)] [(.int (0 : Int32))])) _
    refine XS.aloadN X0.here hx rfl (hb hby d11_1) rfl rfl ?_
    exact k)
  obtain ⟨cl2, Ar2, -, S2, N2_, -, -⟩ := id A_dc
  have R3 : ∀ t, Steps p.tables e below (s₁.setTop (mkF m 3 #[rv a1, rv x1, rv dc, iv (0 : Int32)] [(.int (0 : Int32)), (.int (0 : Int32))])) t → Steps p.tables e below (s₁.setTop f0) t := fun t k => R1 t (X0.arraylength hx (by rw [e0]; exact Ar2.1) (State.isArrayOf_alike hZ.alike Ar2.2.1) (g := (mkF m 2 #[rv a1, rv x1, rv dc, iv (0 : Int32)] [(.ref dc), (.int (0 : Int32))])) rfl rfl (hb hby d11_2) _ (by rw [len_of S2 N2_]; exact k))
  have R4 : ∀ t, Steps p.tables e below (s₁.setTop (mkF m 7 #[rv a1, rv x1, rv dc, iv (0 : Int32)] [(.ref a1)])) t → Steps p.tables e below (s₁.setTop f0) t := fun t k => R3 t (by
    show Steps p.tables e below (s₁.setTop (mkF m 3 #[rv a1, rv x1, rv dc, iv (0 : Int32)] [(.int (0 : Int32)), (.int (0 : Int32))])) _
    refine XS.icmpNo X0.here hx rfl (hb hby d11_3) rfl (teq (by decide : (0 : Int32) = (0 : Int32))).2 ?_
    show Steps p.tables e below (s₁.setTop (mkF m 6 #[rv a1, rv x1, rv dc, iv (0 : Int32)] [])) _
    refine XS.aloadN X0.here hx rfl (hb hby d11_6) rfl rfl ?_
    exact k)
  obtain ⟨cq5, q5, q5'⟩ := E_a1.cell
  obtain ⟨_, _, ⟨T5, L5, k5, n5⟩, -, X5, ⟨Lc5, hQ5, l5, y5, z5⟩, st5⟩ := X0.privateBack hx (y := (⟨"java/util/ArrayList", "grow", "()[Ljava/lang/Object;"⟩ : MethodName)) hown (mvT hZ (hw _ (List.mem_of_getElem? (i := 68) rfl))) (mvT hZ (hw _ (List.mem_of_getElem? (i := 69) rfl))) (mvT hZ (hw _ (List.mem_of_getElem? (i := 71) rfl))) (Cond.privateMethod_at (mvP hZ (hw _ (List.mem_of_getElem? (i := 70) rfl)) (args := #[]))) (mvT hZ (hw _ (List.mem_of_getElem? (i := 72) rfl))) (by decide) (backOf (W := 0) (rmGrow0 l Z a0 hw [] a1 mo dc kdc h0 n0 Z0 E_a1 F_modCount_a1 F_elementData_a1 F_size_a1 g_a1 S_ArrayList_DEFAULTCAPACITY_EMPTY_ELEMENTDATA A_dc ne_a1_dc) hZ (hw _ (List.mem_of_getElem? (i := 72) rfl)) (hw _ (List.mem_of_getElem? (i := 32) rfl)) (by decide) (by decide)) (g := (mkF m 7 #[rv a1, rv x1, rv dc, iv (0 : Int32)] [(.ref a1)])) rfl (by rw [hml]; rfl) (Steps.refl _) (a := a1) (by rw [e0]; exact q5) q5' (argsL := []) (rest := []) (lenOf pd_12 rfl) rfl (by show 2 * 0 + _ ≤ _; exact Nat.le_of_eq rfl) (hb hby d11_7) (fun _ _ => ⟨rfl, e0, (by decide : 0 + 1 ≤ _), (by decide : 0 + 10 ≤ _)⟩)
  dsimp only [Pt.U, Pt.locs, Pt.cells, Pt.slots] at X5 l5 y5 z5 st5 hQ5
  subst l5 y5 z5
  obtain ⟨b_5, kb_5, rfl, N5q, p5_0, p5_1, p5_2, p5_3, p5_4, p5_5, p5_6⟩ := hQ5
  have N5 := Fr.app N0 N5q
  have f5_E_a1 : Exa Z T5.heap a1 "java/util/ArrayList" := E_a1.keep p5_0
  have f5_S_ArrayList_DEFAULTCAPACITY_EMPTY_ELEMENTDATA : Sta Z T5.heap "java/util/ArrayList" sN4 "[Ljava/lang/Object;" (.ref dc) := own_sta_keep S_ArrayList_DEFAULTCAPACITY_EMPTY_ELEMENTDATA p5_0 (nsS E_a1.nostat ns0)
  have f5_A_dc : Arv Z T5.heap dc kdc (.object "java/lang/Object") (0 : Int32) [] .null := A_dc.keep p5_0 (ninS (Ne.symm ne_a1_dc) nin0)
  have f5_E_x1 : Exa Z T5.heap x1 "java/lang/String" := E_x1.keep p5_0
  have z5 : n0 ≤ T5.heap.size := Nat.le_trans Z0 p5_0.1
  have K5 : Keep h0 T5.heap [a1] := (Keep.refl h0 [a1]).trans p5_0 (allS (Or.inl (List.mem_of_getElem? (i := 0) rfl)) all0)
  have g_b_5 : n0 ≤ b_5 := Nat.le_trans Z0 p5_5
  have sz_b_5 : h0.size ≤ b_5 := Nat.le_trans (Keep.refl h0 [a1]).1 p5_5
  have ne_a1_b_5 : a1 ≠ b_5 := Nat.ne_of_lt (Nat.lt_of_lt_of_le E_a1.lt p5_5)
  have ne_dc_b_5 : dc ≠ b_5 := Nat.ne_of_lt (Nat.lt_of_lt_of_le A_dc.lt p5_5)
  have ne_x1_b_5 : x1 ≠ b_5 := Nat.ne_of_lt (Nat.lt_of_lt_of_le E_x1.lt p5_5)
  have R6 : ∀ t, Steps p.tables e below (T5.setTop (mkF m 10 #[rv a1, rv x1, rv dc, iv (0 : Int32)] [(.ref b_5)])) t → Steps p.tables e below (s₁.setTop f0) t := fun t k => R4 t (st5.trans k)
  have R7 : ∀ t, Steps p.tables e below (T5.setTop (mkF m 14 #[rv a1, rv x1, rv b_5, iv (0 : Int32)] [(.ref x1), (.int (0 : Int32)), (.ref b_5)])) t → Steps p.tables e below (s₁.setTop f0) t := fun t k => R6 t (by
    show Steps p.tables e below (T5.setTop (mkF m 10 #[rv a1, rv x1, rv dc, iv (0 : Int32)] [(.ref b_5)])) _
    refine XS.astoreN X5.here hx rfl (hb hby d11_10) rfl rfl (l' := #[rv a1, rv x1, rv b_5, iv (0 : Int32)]) rfl ?_
    show Steps p.tables e below (T5.setTop (mkF m 11 #[rv a1, rv x1, rv b_5, iv (0 : Int32)] [])) _
    refine XS.aloadN X5.here hx rfl (hb hby d11_11) rfl rfl ?_
    show Steps p.tables e below (T5.setTop (mkF m 12 #[rv a1, rv x1, rv b_5, iv (0 : Int32)] [(.ref b_5)])) _
    refine XS.iloadN X5.here hx rfl (hb hby d11_12) rfl  ?_
    show Steps p.tables e below (T5.setTop (mkF m 13 #[rv a1, rv x1, rv b_5, iv (0 : Int32)] [(.int (0 : Int32)), (.ref b_5)])) _
    refine XS.aloadN X5.here hx rfl (hb hby d11_13) rfl rfl ?_
    exact k)
  obtain ⟨cl8, Ar8, q8, S8, n8_, H8, G8⟩ := id p5_4
  have hin8 : ¬ ((0 : Int32) < 0 ∨ cl8.slots.size ≤ ((0 : Int32)).toNatClampNeg) := inb_of S8 ⟨by decide, by decide⟩
  obtain ⟨T8, h8, X8, e8, W8, st8⟩ := stR X5 hx hZ rfl Ar8 (j := (0 : Int32)) hin8 rfl (Sto.ofV Ar8 q8 p5_6 (Ins.of_exa f5_E_x1 (hw _ (List.mem_of_getElem? (i := 84) rfl)))) (g := (mkF m 14 #[rv a1, rv x1, rv b_5, iv (0 : Int32)] [(.ref x1), (.int (0 : Int32)), (.ref b_5)])) rfl rfl (hb hby d11_14)
  have f8_E_a1 : Exa Z h8 a1 "java/util/ArrayList" := f5_E_a1.wr W8
  have f8_S_ArrayList_DEFAULTCAPACITY_EMPTY_ELEMENTDATA : Sta Z h8 "java/util/ArrayList" sN4 "[Ljava/lang/Object;" (.ref dc) := f5_S_ArrayList_DEFAULTCAPACITY_EMPTY_ELEMENTDATA.wr W8
  have f8_A_dc : Arv Z h8 dc kdc (.object "java/lang/Object") (0 : Int32) [] .null := f5_A_dc.other W8 ne_dc_b_5
  have f8_E_x1 : Exa Z h8 x1 "java/lang/String" := f5_E_x1.wr W8
  have f8_F_modCount_a1 : Fld Z h8 a1 "java/util/AbstractList" "modCount" "I" (.int mo) := p5_1.other W8 (Or.inl ne_a1_b_5)
  have f8_F_elementData_a1 : Fld Z h8 a1 "java/util/ArrayList" "elementData" "[Ljava/lang/Object;" (.ref b_5) := p5_2.other W8 (Or.inl ne_a1_b_5)
  have f8_F_size_a1 : Fld Z h8 a1 "java/util/ArrayList" "size" "I" (.int (0 : Int32)) := p5_3.other W8 (Or.inl ne_a1_b_5)
  have z8 : n0 ≤ h8.size := by rw [W8.size]; exact z5
  have K8 : Keep h0 h8 [a1] := K5.wr W8 (Or.inr sz_b_5)
  have v8 : Arv Z h8 b_5 kb_5 (.object "java/lang/Object") (10 : Int32) [(.ref x1), .null, .null, .null, .null, .null, .null, .null, .null, .null] .null := Arv.set Ar8 q8 S8 n8_ H8 G8 rfl W8 0 rfl (Nat.le_of_ble_eq_true rfl)
  have N8 := Fr.snoc X8 N5 g_b_5
  have R9 : ∀ t, Steps p.tables e below (T8.setTop (mkF m 15 #[rv a1, rv x1, rv b_5, iv (0 : Int32)] [])) t → Steps p.tables e below (s₁.setTop f0) t := fun t k => R7 t (st8 t k)
  have R10 : ∀ t, Steps p.tables e below (T8.setTop (mkF m 19 #[rv a1, rv x1, rv b_5, iv (0 : Int32)] [(.int (1 : Int32)), (.ref a1)])) t → Steps p.tables e below (s₁.setTop f0) t := fun t k => R9 t (by
    show Steps p.tables e below (T8.setTop (mkF m 15 #[rv a1, rv x1, rv b_5, iv (0 : Int32)] [])) _
    refine XS.aloadN X8.here hx rfl (hb hby d11_15) rfl rfl ?_
    show Steps p.tables e below (T8.setTop (mkF m 16 #[rv a1, rv x1, rv b_5, iv (0 : Int32)] [(.ref a1)])) _
    refine XS.iloadN X8.here hx rfl (hb hby d11_16) rfl  ?_
    show Steps p.tables e below (T8.setTop (mkF m 17 #[rv a1, rv x1, rv b_5, iv (0 : Int32)] [(.int (0 : Int32)), (.ref a1)])) _
    refine XS.iconst X8.here hx rfl (hb hby d11_17) ?_
    show Steps p.tables e below (T8.setTop (mkF m 18 #[rv a1, rv x1, rv b_5, iv (0 : Int32)] [(.int (1 : Int32)), (.int (0 : Int32)), (.ref a1)])) _
    refine XS.iadd X8.here hx rfl (hb hby d11_18) rfl ?_
    exact k)
  obtain ⟨T11, h11, X11, e11, W11, st11⟩ := putF X8 hx hZ hown (host := "") (Or.inl (hw _ (List.mem_of_getElem? (i := 61) rfl))) Via.refl e8 f8_F_size_a1 f8_E_a1 (Or.inl (hw _ (List.mem_of_getElem? (i := 62) rfl))) (hw _ (List.mem_of_getElem? (i := 31) rfl)) (ty := .int) (by decide) rfl rfl (g := (mkF m 19 #[rv a1, rv x1, rv b_5, iv (0 : Int32)] [(.int (1 : Int32)), (.ref a1)])) rfl rfl (hb hby d11_19)
  have fw11 : Fld Z h11 a1 "java/util/ArrayList" "size" "I" (.int (1 : Int32)) := f8_F_size_a1.same W11
  have f11_E_a1 : Exa Z h11 a1 "java/util/ArrayList" := f8_E_a1.wr W11
  have f11_S_ArrayList_DEFAULTCAPACITY_EMPTY_ELEMENTDATA : Sta Z h11 "java/util/ArrayList" sN4 "[Ljava/lang/Object;" (.ref dc) := f8_S_ArrayList_DEFAULTCAPACITY_EMPTY_ELEMENTDATA.wr W11
  have f11_A_dc : Arv Z h11 dc kdc (.object "java/lang/Object") (0 : Int32) [] .null := f8_A_dc.other W11 (Ne.symm ne_a1_dc)
  have f11_E_x1 : Exa Z h11 x1 "java/lang/String" := f8_E_x1.wr W11
  have f11_F_modCount_a1 : Fld Z h11 a1 "java/util/AbstractList" "modCount" "I" (.int mo) := f8_F_modCount_a1.other W11 (Or.inr (slot_ne (Or.inl (hw _ (List.mem_of_getElem? (i := 50) rfl))) (Or.inl (hw _ (List.mem_of_getElem? (i := 62) rfl))) (by decide) (t := .int) (t' := .int) (by decide) (by decide)))
  have f11_F_elementData_a1 : Fld Z h11 a1 "java/util/ArrayList" "elementData" "[Ljava/lang/Object;" (.ref b_5) := f8_F_elementData_a1.other W11 (Or.inr (slot_ne (Or.inl (hw _ (List.mem_of_getElem? (i := 53) rfl))) (Or.inl (hw _ (List.mem_of_getElem? (i := 62) rfl))) (by decide) (t := (.array (.object "java/lang/Object"))) (t' := .int) (by decide) (by decide)))
  have f11_A_b_5 : Arv Z h11 b_5 kb_5 (.object "java/lang/Object") (10 : Int32) [(.ref x1), .null, .null, .null, .null, .null, .null, .null, .null, .null] .null := v8.other W11 (Ne.symm ne_a1_b_5)
  have z11 : n0 ≤ h11.size := by rw [W11.size]; exact z8
  have K11 : Keep h0 h11 [a1] := K8.wr W11 (Or.inl (List.mem_of_getElem? (i := 0) rfl))
  have N11 := Fr.snoc X11 N8 g_a1
  have R12 : ∀ t, Steps p.tables e below (T11.setTop (mkF m 22 #[rv a1, rv x1, rv b_5, iv (0 : Int32)] [])) t → Steps p.tables e below (s₁.setTop f0) t := fun t k => R10 t (st11 t k)
  obtain ⟨fs, hr, hrun, hended, hW, hsame⟩ := X11.leave (v := none) (fun _ => rfl)
  refine ⟨_, _, pre0 _ (R12 _ ?_), hrun, hended, _, _, rfl, ?_, ⟨_, rfl⟩, hW, hsame.mono (by decide) (by decide)⟩
  · show Steps p.tables e below (T11.setTop (mkF m 22 #[rv a1, rv x1, rv b_5, iv (0 : Int32)] [])) _
    exact X11.returnOut hx Bd.returns (hb hby d11_22) hr
  · show Q_rmAddP0 Z a1 mo dc kdc x1 h0 n0 _ T11.heap _
    rw [e11]
    exact ⟨b_5, kb_5, rfl, N11, K11, f11_F_modCount_a1, f11_F_elementData_a1, fw11, f11_A_b_5, sz_b_5, p5_6⟩
theorem ef_rmAdd0 (m : MethodId) (x0 : Addr) (x1 : Addr) : entryFrame m #[(.ref x0), (.ref x1)] 2 = mkF m 0 #[rv x0, rv x1] [] := by first | (simp [entryFrame, mkF, argsToLocals, Value.category]; done) | rfl
def Q_rmAdd0 (Z : State) (a1 : Addr) (mo : Int32) (dc : Addr) (kdc : ClassId) (x1 : Addr) (h0 : Heap) (n0 : Nat) (v : Option Value) (h : Heap) (L : List Loc) : Prop := ∃ b : Addr, ∃ kb : ClassId, v = some (.int (1 : Int32)) ∧ Fr n0 L ∧ Keep h0 h [a1] ∧ (Fld Z h a1 "java/util/AbstractList" "modCount" "I" (.int (mo + (1 : Int32)))) ∧ (Fld Z h a1 "java/util/ArrayList" "elementData" "[Ljava/lang/Object;" (.ref b)) ∧ (Fld Z h a1 "java/util/ArrayList" "size" "I" (.int (1 : Int32))) ∧ (Arv Z h b kb (.object "java/lang/Object") (10 : Int32) [(.ref x1), .null, .null, .null, .null, .null, .null, .null, .null, .null] .null) ∧ (h0.size ≤ b) ∧ (Ovr Z kb "java/lang/Object")
set_option maxRecDepth 65536 in
set_option maxHeartbeats 40000000 in
theorem rmAdd0 (l : Launch) (Z : State) (a0 : Array Value) (hw : ∀ d ∈ tables_1, d.before a0 Z = true) (ws : List Jvm.Cond) (a1 : Addr) (mo : Int32) (dc : Addr) (kdc : ClassId) (x1 : Addr) (h0 : Heap) (n0 : Nat) (Z0 : n0 ≤ h0.size) (E_a1 : Exa Z h0 a1 "java/util/ArrayList") (F_modCount_a1 : Fld Z h0 a1 "java/util/AbstractList" "modCount" "I" (.int mo)) (F_elementData_a1 : Fld Z h0 a1 "java/util/ArrayList" "elementData" "[Ljava/lang/Object;" (.ref dc)) (F_size_a1 : Fld Z h0 a1 "java/util/ArrayList" "size" "I" (.int (0 : Int32))) (g_a1 : n0 ≤ a1) (S_ArrayList_DEFAULTCAPACITY_EMPTY_ELEMENTDATA : Sta Z h0 "java/util/ArrayList" sN4 "[Ljava/lang/Object;" (.ref dc)) (A_dc : Arv Z h0 dc kdc (.object "java/lang/Object") (0 : Int32) [] .null) (ne_a1_dc : a1 ≠ dc) (E_x1 : Exa Z h0 x1 "java/lang/String") :
    MetFree l (⟨"java/util/ArrayList", "add", "(Ljava/lang/Object;)Z"⟩ : MethodName) (head1 (Jvm.Cond.code (⟨"java/util/ArrayList", "add", "(Ljava/lang/Object;)Z"⟩ : MethodName) jdk_38_method_25_code 2 (some .boolean) :: ws) ({ frames := 4, cells := 1, slots := 10, locals := 56 } : Room)) (fun a U => a = #[(.ref a1), (.ref x1)] ∧ Z.Warmed39 U.vm ∧ U.heap = h0) (fun _ _ _ _ _ => True) (fun _ U o U' => ∃ v L, o = .returned v ∧ Q_rmAdd0 Z a1 mo dc kdc x1 h0 n0 v U'.heap L ∧ FrameEnd U o U' L ({ frames := 4, cells := 1, slots := 10, locals := 56 } : Room).cells ({ frames := 4, cells := 1, slots := 10, locals := 56 } : Room).slots) := by
  refine MetFree.of_bodySF (plainFor_of_name pn_9) hisR ?_
  intro p e s m args below meth c s₁ Bd hml0 hP hK
  obtain ⟨rfl, hZ, hh⟩ := hP
  have hx := Bd.exec
  have hby := Bd.bytes
  have hml : c.maxLocals = 2 := hml0
  have hown : s.vm.findClass "java/util/ArrayList" = some m.cls := findClass_of_methodNamed Bd.named
  have hnm := (name_of_methodNamed Bd.named Bd.method).1
  have X0 : Stand p l e ({ frames := 4, cells := 1, slots := 10, locals := 56 } : Room) s m #[(.ref a1), (.ref x1)] below meth c s₁ [] 0 0 := Stand.of_body Bd
  have e0 : s₁.heap = h0 := by rw [← hh, Bd.state]; rfl
  have N0 := Fr.nil n0
  obtain ⟨f0, hf0⟩ : ∃ f : JFrame, f = mkF m 0 #[rv a1, rv x1] [] := ⟨_, rfl⟩
  have pre0 : ∀ t, Steps p.tables e below (s₁.setTop f0) t → Steps p.tables e below (s₁.setTop (entryFrame m #[(.ref a1), (.ref x1)] 2)) t := fun t k => castTop ((ef_rmAdd0 m a1 x1).trans hf0.symm) k
  have R0 : ∀ t, Steps p.tables e below (s₁.setTop (mkF m 0 #[rv a1, rv x1] [])) t → Steps p.tables e below (s₁.setTop f0) t := by rw [hf0]; exact fun t k => k
  have R1 : ∀ t, Steps p.tables e below (s₁.setTop (mkF m 2 #[rv a1, rv x1] [(.ref a1), (.ref a1)])) t → Steps p.tables e below (s₁.setTop f0) t := fun t k => R0 t (by
    show Steps p.tables e below (s₁.setTop (mkF m 0 #[rv a1, rv x1] [])) _
    refine XS.aloadN X0.here hx rfl (hb hby d10_0) rfl rfl ?_
    show Steps p.tables e below (s₁.setTop (mkF m 1 #[rv a1, rv x1] [(.ref a1)])) _
    refine XS.dup X0.here hx rfl (hb hby d10_1) rfl rfl ?_
    exact k)
  obtain ⟨T2, X2, e2, st2⟩ := getF X0 hx hZ hown (host := "") (Or.inl (hw _ (List.mem_of_getElem? (i := 59) rfl))) (Via.of (hw _ (List.mem_of_getElem? (i := 60) rfl))) e0 F_modCount_a1 (g := (mkF m 2 #[rv a1, rv x1] [(.ref a1), (.ref a1)])) rfl rfl (hb hby d10_2)
  have R3 : ∀ t, Steps p.tables e below (T2.setTop (mkF m 5 #[rv a1, rv x1] [(.int mo), (.ref a1)])) t → Steps p.tables e below (s₁.setTop f0) t := fun t k => R1 t (st2 t k)
  have R4 : ∀ t, Steps p.tables e below (T2.setTop (mkF m 7 #[rv a1, rv x1] [(.int (mo + (1 : Int32))), (.ref a1)])) t → Steps p.tables e below (s₁.setTop f0) t := fun t k => R3 t (by
    show Steps p.tables e below (T2.setTop (mkF m 5 #[rv a1, rv x1] [(.int mo), (.ref a1)])) _
    refine XS.iconst X2.here hx rfl (hb hby d10_5) ?_
    show Steps p.tables e below (T2.setTop (mkF m 6 #[rv a1, rv x1] [(.int (1 : Int32)), (.int mo), (.ref a1)])) _
    refine XS.iadd X2.here hx rfl (hb hby d10_6) rfl ?_
    exact k)
  obtain ⟨T5, h5, X5, e5, W5, st5⟩ := putF X2 hx hZ hown (host := "") (Or.inl (hw _ (List.mem_of_getElem? (i := 59) rfl))) (Via.of (hw _ (List.mem_of_getElem? (i := 60) rfl))) e2 F_modCount_a1 E_a1 (Or.inl (hw _ (List.mem_of_getElem? (i := 50) rfl))) (hw _ (List.mem_of_getElem? (i := 31) rfl)) (ty := .int) (by decide) rfl rfl (g := (mkF m 7 #[rv a1, rv x1] [(.int (mo + (1 : Int32))), (.ref a1)])) rfl rfl (hb hby d10_7)
  have fw5 : Fld Z h5 a1 "java/util/AbstractList" "modCount" "I" (.int (mo + (1 : Int32))) := F_modCount_a1.same W5
  have f5_E_a1 : Exa Z h5 a1 "java/util/ArrayList" := E_a1.wr W5
  have f5_F_elementData_a1 : Fld Z h5 a1 "java/util/ArrayList" "elementData" "[Ljava/lang/Object;" (.ref dc) := F_elementData_a1.other W5 (Or.inr (slot_ne (Or.inl (hw _ (List.mem_of_getElem? (i := 53) rfl))) (Or.inl (hw _ (List.mem_of_getElem? (i := 50) rfl))) (by decide) (t := (.array (.object "java/lang/Object"))) (t' := .int) (by decide) (by decide)))
  have f5_F_size_a1 : Fld Z h5 a1 "java/util/ArrayList" "size" "I" (.int (0 : Int32)) := F_size_a1.other W5 (Or.inr (slot_ne (Or.inl (hw _ (List.mem_of_getElem? (i := 62) rfl))) (Or.inl (hw _ (List.mem_of_getElem? (i := 50) rfl))) (by decide) (t := .int) (t' := .int) (by decide) (by decide)))
  have f5_S_ArrayList_DEFAULTCAPACITY_EMPTY_ELEMENTDATA : Sta Z h5 "java/util/ArrayList" sN4 "[Ljava/lang/Object;" (.ref dc) := S_ArrayList_DEFAULTCAPACITY_EMPTY_ELEMENTDATA.wr W5
  have f5_A_dc : Arv Z h5 dc kdc (.object "java/lang/Object") (0 : Int32) [] .null := A_dc.other W5 (Ne.symm ne_a1_dc)
  have f5_E_x1 : Exa Z h5 x1 "java/lang/String" := E_x1.wr W5
  have z5 : n0 ≤ h5.size := by rw [W5.size]; exact Z0
  have K5 : Keep h0 h5 [a1] := (Keep.refl h0 [a1]).wr W5 (Or.inl (List.mem_of_getElem? (i := 0) rfl))
  have N5 := Fr.snoc X5 N0 g_a1
  have R6 : ∀ t, Steps p.tables e below (T5.setTop (mkF m 10 #[rv a1, rv x1] [])) t → Steps p.tables e below (s₁.setTop f0) t := fun t k => R4 t (st5 t k)
  have R7 : ∀ t, Steps p.tables e below (T5.setTop (mkF m 13 #[rv a1, rv x1] [(.ref a1), (.ref x1), (.ref a1)])) t → Steps p.tables e below (s₁.setTop f0) t := fun t k => R6 t (by
    show Steps p.tables e below (T5.setTop (mkF m 10 #[rv a1, rv x1] [])) _
    refine XS.aloadN X5.here hx rfl (hb hby d10_10) rfl rfl ?_
    show Steps p.tables e below (T5.setTop (mkF m 11 #[rv a1, rv x1] [(.ref a1)])) _
    refine XS.aloadN X5.here hx rfl (hb hby d10_11) rfl rfl ?_
    show Steps p.tables e below (T5.setTop (mkF m 12 #[rv a1, rv x1] [(.ref x1), (.ref a1)])) _
    refine XS.aloadN X5.here hx rfl (hb hby d10_12) rfl rfl ?_
    exact k)
  obtain ⟨T8, X8, e8, st8⟩ := getF X5 hx hZ hown (host := "") (Or.inl (hw _ (List.mem_of_getElem? (i := 52) rfl))) Via.refl e5 f5_F_elementData_a1 (g := (mkF m 13 #[rv a1, rv x1] [(.ref a1), (.ref x1), (.ref a1)])) rfl rfl (hb hby d10_13)
  have R9 : ∀ t, Steps p.tables e below (T8.setTop (mkF m 16 #[rv a1, rv x1] [(.ref dc), (.ref x1), (.ref a1)])) t → Steps p.tables e below (s₁.setTop f0) t := fun t k => R7 t (st8 t k)
  have R10 : ∀ t, Steps p.tables e below (T8.setTop (mkF m 17 #[rv a1, rv x1] [(.ref a1), (.ref dc), (.ref x1), (.ref a1)])) t → Steps p.tables e below (s₁.setTop f0) t := fun t k => R9 t (by
    show Steps p.tables e below (T8.setTop (mkF m 16 #[rv a1, rv x1] [(.ref dc), (.ref x1), (.ref a1)])) _
    refine XS.aloadN X8.here hx rfl (hb hby d10_16) rfl rfl ?_
    exact k)
  obtain ⟨T11, X11, e11, st11⟩ := getF X8 hx hZ hown (host := "") (Or.inl (hw _ (List.mem_of_getElem? (i := 61) rfl))) Via.refl e8 f5_F_size_a1 (g := (mkF m 17 #[rv a1, rv x1] [(.ref a1), (.ref dc), (.ref x1), (.ref a1)])) rfl rfl (hb hby d10_17)
  have R12 : ∀ t, Steps p.tables e below (T11.setTop (mkF m 20 #[rv a1, rv x1] [(.int (0 : Int32)), (.ref dc), (.ref x1), (.ref a1)])) t → Steps p.tables e below (s₁.setTop f0) t := fun t k => R10 t (st11 t k)
  obtain ⟨cq13, q13, q13'⟩ := f5_E_a1.cell
  obtain ⟨_, _, ⟨T13, L13, k13, n13⟩, -, X13, ⟨Lc13, hQ13, l13, y13, z13⟩, st13⟩ := X11.privateBack hx (y := (⟨"java/util/ArrayList", "add", sN7⟩ : MethodName)) hown (mvT hZ (hw _ (List.mem_of_getElem? (i := 63) rfl))) (mvT hZ (hw _ (List.mem_of_getElem? (i := 64) rfl))) (mvT hZ (hw _ (List.mem_of_getElem? (i := 66) rfl))) (Cond.privateMethod_at (mvP hZ (hw _ (List.mem_of_getElem? (i := 65) rfl)) (args := #[]))) (mvT hZ (hw _ (List.mem_of_getElem? (i := 67) rfl))) (by decide) (backOf (W := 0) (rmAddP0 l Z a0 hw [] a1 (mo + (1 : Int32)) dc kdc x1 h5 n0 z5 f5_E_a1 fw5 f5_F_elementData_a1 f5_F_size_a1 g_a1 f5_S_ArrayList_DEFAULTCAPACITY_EMPTY_ELEMENTDATA f5_A_dc ne_a1_dc f5_E_x1) hZ (hw _ (List.mem_of_getElem? (i := 67) rfl)) (hw _ (List.mem_of_getElem? (i := 32) rfl)) (by decide) (by decide)) (g := (mkF m 20 #[rv a1, rv x1] [(.int (0 : Int32)), (.ref dc), (.ref x1), (.ref a1)])) rfl (by rw [hml]; rfl) (Steps.refl _) (a := a1) (by rw [e11]; exact q13) q13' (argsL := [(.ref x1), (.ref dc), (.int (0 : Int32))]) (rest := []) (lenOf pd_13 rfl) rfl (by show 2 * 0 + _ ≤ _; exact Nat.le_of_eq rfl) (hb hby d10_20) (fun _ _ => ⟨rfl, e11, (by decide : 0 + 1 ≤ _), (by decide : 0 + 10 ≤ _)⟩)
  dsimp only [Pt.U, Pt.locs, Pt.cells, Pt.slots] at X13 l13 y13 z13 st13 hQ13
  subst l13 y13 z13
  obtain ⟨b_13, kb_13, rfl, N13q, p13_0, p13_1, p13_2, p13_3, p13_4, p13_5, p13_6⟩ := hQ13
  have N13 := Fr.app N5 N13q
  have f13_E_a1 : Exa Z T13.heap a1 "java/util/ArrayList" := f5_E_a1.keep p13_0
  have f13_S_ArrayList_DEFAULTCAPACITY_EMPTY_ELEMENTDATA : Sta Z T13.heap "java/util/ArrayList" sN4 "[Ljava/lang/Object;" (.ref dc) := own_sta_keep f5_S_ArrayList_DEFAULTCAPACITY_EMPTY_ELEMENTDATA p13_0 (nsS f5_E_a1.nostat ns0)
  have f13_A_dc : Arv Z T13.heap dc kdc (.object "java/lang/Object") (0 : Int32) [] .null := f5_A_dc.keep p13_0 (ninS (Ne.symm ne_a1_dc) nin0)
  have f13_E_x1 : Exa Z T13.heap x1 "java/lang/String" := f5_E_x1.keep p13_0
  have z13 : n0 ≤ T13.heap.size := Nat.le_trans z5 p13_0.1
  have K13 : Keep h0 T13.heap [a1] := K5.trans p13_0 (allS (Or.inl (List.mem_of_getElem? (i := 0) rfl)) all0)
  have g_b_13 : n0 ≤ b_13 := Nat.le_trans z5 p13_5
  have sz_b_13 : h0.size ≤ b_13 := Nat.le_trans K5.1 p13_5
  have ne_a1_b_13 : a1 ≠ b_13 := Nat.ne_of_lt (Nat.lt_of_lt_of_le f5_E_a1.lt p13_5)
  have ne_dc_b_13 : dc ≠ b_13 := Nat.ne_of_lt (Nat.lt_of_lt_of_le f5_A_dc.lt p13_5)
  have ne_x1_b_13 : x1 ≠ b_13 := Nat.ne_of_lt (Nat.lt_of_lt_of_le f5_E_x1.lt p13_5)
  have R14 : ∀ t, Steps p.tables e below (T13.setTop (mkF m 23 #[rv a1, rv x1] [])) t → Steps p.tables e below (s₁.setTop f0) t := fun t k => R12 t (st13.trans k)
  have R15 : ∀ t, Steps p.tables e below (T13.setTop (mkF m 24 #[rv a1, rv x1] [(.int (1 : Int32))])) t → Steps p.tables e below (s₁.setTop f0) t := fun t k => R14 t (by
    show Steps p.tables e below (T13.setTop (mkF m 23 #[rv a1, rv x1] [])) _
    refine XS.iconst X13.here hx rfl (hb hby d10_23) ?_
    exact k)
  obtain ⟨fs, hr, hrun, hended, hW, hsame⟩ := X13.leave (v := some (.int (1 : Int32))) (fun h => by rw [Bd.returns] at h; cases h)
  refine ⟨_, _, pre0 _ (R15 _ ?_), hrun, hended, _, _, rfl, ?_, ⟨_, rfl⟩, hW, hsame.mono (by decide) (by decide)⟩
  · show Steps p.tables e below (T13.setTop (mkF m 24 #[rv a1, rv x1] [(.int (1 : Int32))])) _
    exact retN X13 hx (t := .boolean) Bd.returns (by simp) (hb hby d10_24) hr
  · show Q_rmAdd0 Z a1 mo dc kdc x1 h0 n0 _ T13.heap _
    exact ⟨b_13, kb_13, rfl, N13, K13, p13_1, p13_2, p13_3, p13_4, sz_b_13, p13_6⟩
theorem ef_rmAddP1 (m : MethodId) (x0 : Addr) (x1 : Addr) (x2 : Addr) (x3 : Int32) : entryFrame m #[(.ref x0), (.ref x1), (.ref x2), (.int x3)] 4 = mkF m 0 #[rv x0, rv x1, rv x2, iv x3] [] := by first | (simp [entryFrame, mkF, argsToLocals, Value.category]; done) | rfl
def Q_rmAddP1 (Z : State) (a1 : Addr) (mo : Int32) (b : Addr) (kb : ClassId) (x1 : Addr) (y0 : Addr) (h0 : Heap) (n0 : Nat) (v : Option Value) (h : Heap) (L : List Loc) : Prop := v = none ∧ Fr n0 L ∧ Keep h0 h [a1, b] ∧ (Fld Z h a1 "java/util/AbstractList" "modCount" "I" (.int mo)) ∧ (Fld Z h a1 "java/util/ArrayList" "elementData" "[Ljava/lang/Object;" (.ref b)) ∧ (Fld Z h a1 "java/util/ArrayList" "size" "I" (.int (2 : Int32))) ∧ (Arv Z h b kb (.object "java/lang/Object") (10 : Int32) [(.ref y0), (.ref x1), .null, .null, .null, .null, .null, .null, .null, .null] .null)
set_option maxRecDepth 65536 in
set_option maxHeartbeats 40000000 in
theorem rmAddP1 (l : Launch) (Z : State) (a0 : Array Value) (hw : ∀ d ∈ tables_1, d.before a0 Z = true) (ws : List Jvm.Cond) (a1 : Addr) (mo : Int32) (b : Addr) (kb : ClassId) (x1 : Addr) (y0 : Addr) (h0 : Heap) (n0 : Nat) (Z0 : n0 ≤ h0.size) (E_a1 : Exa Z h0 a1 "java/util/ArrayList") (F_modCount_a1 : Fld Z h0 a1 "java/util/AbstractList" "modCount" "I" (.int mo)) (F_elementData_a1 : Fld Z h0 a1 "java/util/ArrayList" "elementData" "[Ljava/lang/Object;" (.ref b)) (F_size_a1 : Fld Z h0 a1 "java/util/ArrayList" "size" "I" (.int (1 : Int32))) (g_a1 : n0 ≤ a1) (A_b : Arv Z h0 b kb (.object "java/lang/Object") (10 : Int32) [(.ref y0), .null, .null, .null, .null, .null, .null, .null, .null, .null] .null) (g_b : n0 ≤ b) (ne_a1_b : a1 ≠ b) (ovr_b : Ovr Z kb "java/lang/Object") (E_x1 : Exa Z h0 x1 "java/lang/String") :
    MetFree l (⟨"java/util/ArrayList", "add", sN7⟩ : MethodName) (head1 (Jvm.Cond.code (⟨"java/util/ArrayList", "add", sN7⟩ : MethodName) jdk_38_method_24_code 4 none :: ws) ({ frames := 0, cells := 0, slots := 0, locals := 0 } : Room)) (fun a U => a = #[(.ref a1), (.ref x1), (.ref b), (.int (1 : Int32))] ∧ Z.Warmed39 U.vm ∧ U.heap = h0) (fun _ _ _ _ _ => True) (fun _ U o U' => ∃ v L, o = .returned v ∧ Q_rmAddP1 Z a1 mo b kb x1 y0 h0 n0 v U'.heap L ∧ FrameEnd U o U' L ({ frames := 0, cells := 0, slots := 0, locals := 0 } : Room).cells ({ frames := 0, cells := 0, slots := 0, locals := 0 } : Room).slots) := by
  refine MetFree.of_bodySF (plainFor_of_name pn_9) hisR ?_
  intro p e s m args below meth c s₁ Bd hml0 hP hK
  obtain ⟨rfl, hZ, hh⟩ := hP
  have hx := Bd.exec
  have hby := Bd.bytes
  have hml : c.maxLocals = 4 := hml0
  have hown : s.vm.findClass "java/util/ArrayList" = some m.cls := findClass_of_methodNamed Bd.named
  have hnm := (name_of_methodNamed Bd.named Bd.method).1
  have X0 : Stand p l e ({ frames := 0, cells := 0, slots := 0, locals := 0 } : Room) s m #[(.ref a1), (.ref x1), (.ref b), (.int (1 : Int32))] below meth c s₁ [] 0 0 := Stand.of_body Bd
  have e0 : s₁.heap = h0 := by rw [← hh, Bd.state]; rfl
  have N0 := Fr.nil n0
  obtain ⟨f0, hf0⟩ : ∃ f : JFrame, f = mkF m 0 #[rv a1, rv x1, rv b, iv (1 : Int32)] [] := ⟨_, rfl⟩
  have pre0 : ∀ t, Steps p.tables e below (s₁.setTop f0) t → Steps p.tables e below (s₁.setTop (entryFrame m #[(.ref a1), (.ref x1), (.ref b), (.int (1 : Int32))] 4)) t := fun t k => castTop ((ef_rmAddP1 m a1 x1 b (1 : Int32)).trans hf0.symm) k
  have R0 : ∀ t, Steps p.tables e below (s₁.setTop (mkF m 0 #[rv a1, rv x1, rv b, iv (1 : Int32)] [])) t → Steps p.tables e below (s₁.setTop f0) t := by rw [hf0]; exact fun t k => k
  have R1 : ∀ t, Steps p.tables e below (s₁.setTop (mkF m 2 #[rv a1, rv x1, rv b, iv (1 : Int32)] [(.ref b), (.int (1 : Int32))])) t → Steps p.tables e below (s₁.setTop f0) t := fun t k => R0 t (by
    show Steps p.tables e below (s₁.setTop (mkF m 0 #[rv a1, rv x1, rv b, iv (1 : Int32)] [])) _
    refine XS.iloadN X0.here hx rfl (hb hby d11_0) rfl  ?_
    show Steps p.tables e below (s₁.setTop (mkF m 1 #[rv a1, rv x1, rv b, iv (1 : Int32)] [(.int (1 : Int32))])) _
    refine XS.aloadN X0.here hx rfl (hb hby d11_1) rfl rfl ?_
    exact k)
  obtain ⟨cl2, Ar2, -, S2, N2_, -, -⟩ := id A_b
  have R3 : ∀ t, Steps p.tables e below (s₁.setTop (mkF m 3 #[rv a1, rv x1, rv b, iv (1 : Int32)] [(.int (10 : Int32)), (.int (1 : Int32))])) t → Steps p.tables e below (s₁.setTop f0) t := fun t k => R1 t (X0.arraylength hx (by rw [e0]; exact Ar2.1) (State.isArrayOf_alike hZ.alike Ar2.2.1) (g := (mkF m 2 #[rv a1, rv x1, rv b, iv (1 : Int32)] [(.ref b), (.int (1 : Int32))])) rfl rfl (hb hby d11_2) _ (by rw [len_of S2 N2_]; exact k))
  have R4 : ∀ t, Steps p.tables e below (s₁.setTop (mkF m 14 #[rv a1, rv x1, rv b, iv (1 : Int32)] [(.ref x1), (.int (1 : Int32)), (.ref b)])) t → Steps p.tables e below (s₁.setTop f0) t := fun t k => R3 t (by
    show Steps p.tables e below (s₁.setTop (mkF m 3 #[rv a1, rv x1, rv b, iv (1 : Int32)] [(.int (10 : Int32)), (.int (1 : Int32))])) _
    refine XS.icmpYes X0.here hx rfl (pc0 := 3) (pc' := 11) rfl (hb hby d11_3) rfl (feq (by decide : ¬ ((1 : Int32) = (10 : Int32)))).2 (by decide) (by decide) ?_
    show Steps p.tables e below (s₁.setTop (mkF m 11 #[rv a1, rv x1, rv b, iv (1 : Int32)] [])) _
    refine XS.aloadN X0.here hx rfl (hb hby d11_11) rfl rfl ?_
    show Steps p.tables e below (s₁.setTop (mkF m 12 #[rv a1, rv x1, rv b, iv (1 : Int32)] [(.ref b)])) _
    refine XS.iloadN X0.here hx rfl (hb hby d11_12) rfl  ?_
    show Steps p.tables e below (s₁.setTop (mkF m 13 #[rv a1, rv x1, rv b, iv (1 : Int32)] [(.int (1 : Int32)), (.ref b)])) _
    refine XS.aloadN X0.here hx rfl (hb hby d11_13) rfl rfl ?_
    exact k)
  obtain ⟨cl5, Ar5, q5, S5, n5_, H5, G5⟩ := id A_b
  have hin5 : ¬ ((1 : Int32) < 0 ∨ cl5.slots.size ≤ ((1 : Int32)).toNatClampNeg) := inb_of S5 ⟨by decide, by decide⟩
  obtain ⟨T5, h5, X5, e5, W5, st5⟩ := stR X0 hx hZ e0 Ar5 (j := (1 : Int32)) hin5 rfl (Sto.ofV Ar5 q5 ovr_b (Ins.of_exa E_x1 (hw _ (List.mem_of_getElem? (i := 84) rfl)))) (g := (mkF m 14 #[rv a1, rv x1, rv b, iv (1 : Int32)] [(.ref x1), (.int (1 : Int32)), (.ref b)])) rfl rfl (hb hby d11_14)
  have f5_E_a1 : Exa Z h5 a1 "java/util/ArrayList" := E_a1.wr W5
  have f5_F_modCount_a1 : Fld Z h5 a1 "java/util/AbstractList" "modCount" "I" (.int mo) := F_modCount_a1.other W5 (Or.inl ne_a1_b)
  have f5_F_elementData_a1 : Fld Z h5 a1 "java/util/ArrayList" "elementData" "[Ljava/lang/Object;" (.ref b) := F_elementData_a1.other W5 (Or.inl ne_a1_b)
  have f5_F_size_a1 : Fld Z h5 a1 "java/util/ArrayList" "size" "I" (.int (1 : Int32)) := F_size_a1.other W5 (Or.inl ne_a1_b)
  have f5_E_x1 : Exa Z h5 x1 "java/lang/String" := E_x1.wr W5
  have z5 : n0 ≤ h5.size := by rw [W5.size]; exact Z0
  have K5 : Keep h0 h5 [a1, b] := (Keep.refl h0 [a1, b]).wr W5 (Or.inl (List.mem_of_getElem? (i := 1) rfl))
  have v5 : Arv Z h5 b kb (.object "java/lang/Object") (10 : Int32) [(.ref y0), (.ref x1), .null, .null, .null, .null, .null, .null, .null, .null] .null := Arv.set Ar5 q5 S5 n5_ H5 G5 rfl W5 1 rfl (Nat.le_of_ble_eq_true rfl)
  have N5 := Fr.snoc X5 N0 g_b
  have R6 : ∀ t, Steps p.tables e below (T5.setTop (mkF m 15 #[rv a1, rv x1, rv b, iv (1 : Int32)] [])) t → Steps p.tables e below (s₁.setTop f0) t := fun t k => R4 t (st5 t k)
  have R7 : ∀ t, Steps p.tables e below (T5.setTop (mkF m 19 #[rv a1, rv x1, rv b, iv (1 : Int32)] [(.int (2 : Int32)), (.ref a1)])) t → Steps p.tables e below (s₁.setTop f0) t := fun t k => R6 t (by
    show Steps p.tables e below (T5.setTop (mkF m 15 #[rv a1, rv x1, rv b, iv (1 : Int32)] [])) _
    refine XS.aloadN X5.here hx rfl (hb hby d11_15) rfl rfl ?_
    show Steps p.tables e below (T5.setTop (mkF m 16 #[rv a1, rv x1, rv b, iv (1 : Int32)] [(.ref a1)])) _
    refine XS.iloadN X5.here hx rfl (hb hby d11_16) rfl  ?_
    show Steps p.tables e below (T5.setTop (mkF m 17 #[rv a1, rv x1, rv b, iv (1 : Int32)] [(.int (1 : Int32)), (.ref a1)])) _
    refine XS.iconst X5.here hx rfl (hb hby d11_17) ?_
    show Steps p.tables e below (T5.setTop (mkF m 18 #[rv a1, rv x1, rv b, iv (1 : Int32)] [(.int (1 : Int32)), (.int (1 : Int32)), (.ref a1)])) _
    refine XS.iadd X5.here hx rfl (hb hby d11_18) rfl ?_
    exact k)
  obtain ⟨T8, h8, X8, e8, W8, st8⟩ := putF X5 hx hZ hown (host := "") (Or.inl (hw _ (List.mem_of_getElem? (i := 61) rfl))) Via.refl e5 f5_F_size_a1 f5_E_a1 (Or.inl (hw _ (List.mem_of_getElem? (i := 62) rfl))) (hw _ (List.mem_of_getElem? (i := 31) rfl)) (ty := .int) (by decide) rfl rfl (g := (mkF m 19 #[rv a1, rv x1, rv b, iv (1 : Int32)] [(.int (2 : Int32)), (.ref a1)])) rfl rfl (hb hby d11_19)
  have fw8 : Fld Z h8 a1 "java/util/ArrayList" "size" "I" (.int (2 : Int32)) := f5_F_size_a1.same W8
  have f8_E_a1 : Exa Z h8 a1 "java/util/ArrayList" := f5_E_a1.wr W8
  have f8_F_modCount_a1 : Fld Z h8 a1 "java/util/AbstractList" "modCount" "I" (.int mo) := f5_F_modCount_a1.other W8 (Or.inr (slot_ne (Or.inl (hw _ (List.mem_of_getElem? (i := 50) rfl))) (Or.inl (hw _ (List.mem_of_getElem? (i := 62) rfl))) (by decide) (t := .int) (t' := .int) (by decide) (by decide)))
  have f8_F_elementData_a1 : Fld Z h8 a1 "java/util/ArrayList" "elementData" "[Ljava/lang/Object;" (.ref b) := f5_F_elementData_a1.other W8 (Or.inr (slot_ne (Or.inl (hw _ (List.mem_of_getElem? (i := 53) rfl))) (Or.inl (hw _ (List.mem_of_getElem? (i := 62) rfl))) (by decide) (t := (.array (.object "java/lang/Object"))) (t' := .int) (by decide) (by decide)))
  have f8_A_b : Arv Z h8 b kb (.object "java/lang/Object") (10 : Int32) [(.ref y0), (.ref x1), .null, .null, .null, .null, .null, .null, .null, .null] .null := v5.other W8 (Ne.symm ne_a1_b)
  have f8_E_x1 : Exa Z h8 x1 "java/lang/String" := f5_E_x1.wr W8
  have z8 : n0 ≤ h8.size := by rw [W8.size]; exact z5
  have K8 : Keep h0 h8 [a1, b] := K5.wr W8 (Or.inl (List.mem_of_getElem? (i := 0) rfl))
  have N8 := Fr.snoc X8 N5 g_a1
  have R9 : ∀ t, Steps p.tables e below (T8.setTop (mkF m 22 #[rv a1, rv x1, rv b, iv (1 : Int32)] [])) t → Steps p.tables e below (s₁.setTop f0) t := fun t k => R7 t (st8 t k)
  obtain ⟨fs, hr, hrun, hended, hW, hsame⟩ := X8.leave (v := none) (fun _ => rfl)
  refine ⟨_, _, pre0 _ (R9 _ ?_), hrun, hended, _, _, rfl, ?_, ⟨_, rfl⟩, hW, hsame.mono (by decide) (by decide)⟩
  · show Steps p.tables e below (T8.setTop (mkF m 22 #[rv a1, rv x1, rv b, iv (1 : Int32)] [])) _
    exact X8.returnOut hx Bd.returns (hb hby d11_22) hr
  · show Q_rmAddP1 Z a1 mo b kb x1 y0 h0 n0 _ T8.heap _
    rw [e8]
    exact ⟨rfl, N8, K8, f8_F_modCount_a1, f8_F_elementData_a1, fw8, f8_A_b⟩
theorem ef_rmAdd1 (m : MethodId) (x0 : Addr) (x1 : Addr) : entryFrame m #[(.ref x0), (.ref x1)] 2 = mkF m 0 #[rv x0, rv x1] [] := by first | (simp [entryFrame, mkF, argsToLocals, Value.category]; done) | rfl
def Q_rmAdd1 (Z : State) (a1 : Addr) (mo : Int32) (b : Addr) (kb : ClassId) (x1 : Addr) (y0 : Addr) (h0 : Heap) (n0 : Nat) (v : Option Value) (h : Heap) (L : List Loc) : Prop := v = some (.int (1 : Int32)) ∧ Fr n0 L ∧ Keep h0 h [a1, b] ∧ (Fld Z h a1 "java/util/AbstractList" "modCount" "I" (.int (mo + (1 : Int32)))) ∧ (Fld Z h a1 "java/util/ArrayList" "elementData" "[Ljava/lang/Object;" (.ref b)) ∧ (Fld Z h a1 "java/util/ArrayList" "size" "I" (.int (2 : Int32))) ∧ (Arv Z h b kb (.object "java/lang/Object") (10 : Int32) [(.ref y0), (.ref x1), .null, .null, .null, .null, .null, .null, .null, .null] .null)
set_option maxRecDepth 65536 in
set_option maxHeartbeats 40000000 in
theorem rmAdd1 (l : Launch) (Z : State) (a0 : Array Value) (hw : ∀ d ∈ tables_1, d.before a0 Z = true) (ws : List Jvm.Cond) (a1 : Addr) (mo : Int32) (b : Addr) (kb : ClassId) (x1 : Addr) (y0 : Addr) (h0 : Heap) (n0 : Nat) (Z0 : n0 ≤ h0.size) (E_a1 : Exa Z h0 a1 "java/util/ArrayList") (F_modCount_a1 : Fld Z h0 a1 "java/util/AbstractList" "modCount" "I" (.int mo)) (F_elementData_a1 : Fld Z h0 a1 "java/util/ArrayList" "elementData" "[Ljava/lang/Object;" (.ref b)) (F_size_a1 : Fld Z h0 a1 "java/util/ArrayList" "size" "I" (.int (1 : Int32))) (g_a1 : n0 ≤ a1) (A_b : Arv Z h0 b kb (.object "java/lang/Object") (10 : Int32) [(.ref y0), .null, .null, .null, .null, .null, .null, .null, .null, .null] .null) (g_b : n0 ≤ b) (ne_a1_b : a1 ≠ b) (ovr_b : Ovr Z kb "java/lang/Object") (E_x1 : Exa Z h0 x1 "java/lang/String") :
    MetFree l (⟨"java/util/ArrayList", "add", "(Ljava/lang/Object;)Z"⟩ : MethodName) (head1 (Jvm.Cond.code (⟨"java/util/ArrayList", "add", "(Ljava/lang/Object;)Z"⟩ : MethodName) jdk_38_method_25_code 2 (some .boolean) :: ws) ({ frames := 1, cells := 0, slots := 0, locals := 15 } : Room)) (fun a U => a = #[(.ref a1), (.ref x1)] ∧ Z.Warmed39 U.vm ∧ U.heap = h0) (fun _ _ _ _ _ => True) (fun _ U o U' => ∃ v L, o = .returned v ∧ Q_rmAdd1 Z a1 mo b kb x1 y0 h0 n0 v U'.heap L ∧ FrameEnd U o U' L ({ frames := 1, cells := 0, slots := 0, locals := 15 } : Room).cells ({ frames := 1, cells := 0, slots := 0, locals := 15 } : Room).slots) := by
  refine MetFree.of_bodySF (plainFor_of_name pn_9) hisR ?_
  intro p e s m args below meth c s₁ Bd hml0 hP hK
  obtain ⟨rfl, hZ, hh⟩ := hP
  have hx := Bd.exec
  have hby := Bd.bytes
  have hml : c.maxLocals = 2 := hml0
  have hown : s.vm.findClass "java/util/ArrayList" = some m.cls := findClass_of_methodNamed Bd.named
  have hnm := (name_of_methodNamed Bd.named Bd.method).1
  have X0 : Stand p l e ({ frames := 1, cells := 0, slots := 0, locals := 15 } : Room) s m #[(.ref a1), (.ref x1)] below meth c s₁ [] 0 0 := Stand.of_body Bd
  have e0 : s₁.heap = h0 := by rw [← hh, Bd.state]; rfl
  have N0 := Fr.nil n0
  obtain ⟨f0, hf0⟩ : ∃ f : JFrame, f = mkF m 0 #[rv a1, rv x1] [] := ⟨_, rfl⟩
  have pre0 : ∀ t, Steps p.tables e below (s₁.setTop f0) t → Steps p.tables e below (s₁.setTop (entryFrame m #[(.ref a1), (.ref x1)] 2)) t := fun t k => castTop ((ef_rmAdd1 m a1 x1).trans hf0.symm) k
  have R0 : ∀ t, Steps p.tables e below (s₁.setTop (mkF m 0 #[rv a1, rv x1] [])) t → Steps p.tables e below (s₁.setTop f0) t := by rw [hf0]; exact fun t k => k
  have R1 : ∀ t, Steps p.tables e below (s₁.setTop (mkF m 2 #[rv a1, rv x1] [(.ref a1), (.ref a1)])) t → Steps p.tables e below (s₁.setTop f0) t := fun t k => R0 t (by
    show Steps p.tables e below (s₁.setTop (mkF m 0 #[rv a1, rv x1] [])) _
    refine XS.aloadN X0.here hx rfl (hb hby d10_0) rfl rfl ?_
    show Steps p.tables e below (s₁.setTop (mkF m 1 #[rv a1, rv x1] [(.ref a1)])) _
    refine XS.dup X0.here hx rfl (hb hby d10_1) rfl rfl ?_
    exact k)
  obtain ⟨T2, X2, e2, st2⟩ := getF X0 hx hZ hown (host := "") (Or.inl (hw _ (List.mem_of_getElem? (i := 59) rfl))) (Via.of (hw _ (List.mem_of_getElem? (i := 60) rfl))) e0 F_modCount_a1 (g := (mkF m 2 #[rv a1, rv x1] [(.ref a1), (.ref a1)])) rfl rfl (hb hby d10_2)
  have R3 : ∀ t, Steps p.tables e below (T2.setTop (mkF m 5 #[rv a1, rv x1] [(.int mo), (.ref a1)])) t → Steps p.tables e below (s₁.setTop f0) t := fun t k => R1 t (st2 t k)
  have R4 : ∀ t, Steps p.tables e below (T2.setTop (mkF m 7 #[rv a1, rv x1] [(.int (mo + (1 : Int32))), (.ref a1)])) t → Steps p.tables e below (s₁.setTop f0) t := fun t k => R3 t (by
    show Steps p.tables e below (T2.setTop (mkF m 5 #[rv a1, rv x1] [(.int mo), (.ref a1)])) _
    refine XS.iconst X2.here hx rfl (hb hby d10_5) ?_
    show Steps p.tables e below (T2.setTop (mkF m 6 #[rv a1, rv x1] [(.int (1 : Int32)), (.int mo), (.ref a1)])) _
    refine XS.iadd X2.here hx rfl (hb hby d10_6) rfl ?_
    exact k)
  obtain ⟨T5, h5, X5, e5, W5, st5⟩ := putF X2 hx hZ hown (host := "") (Or.inl (hw _ (List.mem_of_getElem? (i := 59) rfl))) (Via.of (hw _ (List.mem_of_getElem? (i := 60) rfl))) e2 F_modCount_a1 E_a1 (Or.inl (hw _ (List.mem_of_getElem? (i := 50) rfl))) (hw _ (List.mem_of_getElem? (i := 31) rfl)) (ty := .int) (by decide) rfl rfl (g := (mkF m 7 #[rv a1, rv x1] [(.int (mo + (1 : Int32))), (.ref a1)])) rfl rfl (hb hby d10_7)
  have fw5 : Fld Z h5 a1 "java/util/AbstractList" "modCount" "I" (.int (mo + (1 : Int32))) := F_modCount_a1.same W5
  have f5_E_a1 : Exa Z h5 a1 "java/util/ArrayList" := E_a1.wr W5
  have f5_F_elementData_a1 : Fld Z h5 a1 "java/util/ArrayList" "elementData" "[Ljava/lang/Object;" (.ref b) := F_elementData_a1.other W5 (Or.inr (slot_ne (Or.inl (hw _ (List.mem_of_getElem? (i := 53) rfl))) (Or.inl (hw _ (List.mem_of_getElem? (i := 50) rfl))) (by decide) (t := (.array (.object "java/lang/Object"))) (t' := .int) (by decide) (by decide)))
  have f5_F_size_a1 : Fld Z h5 a1 "java/util/ArrayList" "size" "I" (.int (1 : Int32)) := F_size_a1.other W5 (Or.inr (slot_ne (Or.inl (hw _ (List.mem_of_getElem? (i := 62) rfl))) (Or.inl (hw _ (List.mem_of_getElem? (i := 50) rfl))) (by decide) (t := .int) (t' := .int) (by decide) (by decide)))
  have f5_A_b : Arv Z h5 b kb (.object "java/lang/Object") (10 : Int32) [(.ref y0), .null, .null, .null, .null, .null, .null, .null, .null, .null] .null := A_b.other W5 (Ne.symm ne_a1_b)
  have f5_E_x1 : Exa Z h5 x1 "java/lang/String" := E_x1.wr W5
  have z5 : n0 ≤ h5.size := by rw [W5.size]; exact Z0
  have K5 : Keep h0 h5 [a1, b] := (Keep.refl h0 [a1, b]).wr W5 (Or.inl (List.mem_of_getElem? (i := 0) rfl))
  have N5 := Fr.snoc X5 N0 g_a1
  have R6 : ∀ t, Steps p.tables e below (T5.setTop (mkF m 10 #[rv a1, rv x1] [])) t → Steps p.tables e below (s₁.setTop f0) t := fun t k => R4 t (st5 t k)
  have R7 : ∀ t, Steps p.tables e below (T5.setTop (mkF m 13 #[rv a1, rv x1] [(.ref a1), (.ref x1), (.ref a1)])) t → Steps p.tables e below (s₁.setTop f0) t := fun t k => R6 t (by
    show Steps p.tables e below (T5.setTop (mkF m 10 #[rv a1, rv x1] [])) _
    refine XS.aloadN X5.here hx rfl (hb hby d10_10) rfl rfl ?_
    show Steps p.tables e below (T5.setTop (mkF m 11 #[rv a1, rv x1] [(.ref a1)])) _
    refine XS.aloadN X5.here hx rfl (hb hby d10_11) rfl rfl ?_
    show Steps p.tables e below (T5.setTop (mkF m 12 #[rv a1, rv x1] [(.ref x1), (.ref a1)])) _
    refine XS.aloadN X5.here hx rfl (hb hby d10_12) rfl rfl ?_
    exact k)
  obtain ⟨T8, X8, e8, st8⟩ := getF X5 hx hZ hown (host := "") (Or.inl (hw _ (List.mem_of_getElem? (i := 52) rfl))) Via.refl e5 f5_F_elementData_a1 (g := (mkF m 13 #[rv a1, rv x1] [(.ref a1), (.ref x1), (.ref a1)])) rfl rfl (hb hby d10_13)
  have R9 : ∀ t, Steps p.tables e below (T8.setTop (mkF m 16 #[rv a1, rv x1] [(.ref b), (.ref x1), (.ref a1)])) t → Steps p.tables e below (s₁.setTop f0) t := fun t k => R7 t (st8 t k)
  have R10 : ∀ t, Steps p.tables e below (T8.setTop (mkF m 17 #[rv a1, rv x1] [(.ref a1), (.ref b), (.ref x1), (.ref a1)])) t → Steps p.tables e below (s₁.setTop f0) t := fun t k => R9 t (by
    show Steps p.tables e below (T8.setTop (mkF m 16 #[rv a1, rv x1] [(.ref b), (.ref x1), (.ref a1)])) _
    refine XS.aloadN X8.here hx rfl (hb hby d10_16) rfl rfl ?_
    exact k)
  obtain ⟨T11, X11, e11, st11⟩ := getF X8 hx hZ hown (host := "") (Or.inl (hw _ (List.mem_of_getElem? (i := 61) rfl))) Via.refl e8 f5_F_size_a1 (g := (mkF m 17 #[rv a1, rv x1] [(.ref a1), (.ref b), (.ref x1), (.ref a1)])) rfl rfl (hb hby d10_17)
  have R12 : ∀ t, Steps p.tables e below (T11.setTop (mkF m 20 #[rv a1, rv x1] [(.int (1 : Int32)), (.ref b), (.ref x1), (.ref a1)])) t → Steps p.tables e below (s₁.setTop f0) t := fun t k => R10 t (st11 t k)
  obtain ⟨cq13, q13, q13'⟩ := f5_E_a1.cell
  obtain ⟨_, _, ⟨T13, L13, k13, n13⟩, -, X13, ⟨Lc13, hQ13, l13, y13, z13⟩, st13⟩ := X11.privateBack hx (y := (⟨"java/util/ArrayList", "add", sN7⟩ : MethodName)) hown (mvT hZ (hw _ (List.mem_of_getElem? (i := 63) rfl))) (mvT hZ (hw _ (List.mem_of_getElem? (i := 64) rfl))) (mvT hZ (hw _ (List.mem_of_getElem? (i := 66) rfl))) (Cond.privateMethod_at (mvP hZ (hw _ (List.mem_of_getElem? (i := 65) rfl)) (args := #[]))) (mvT hZ (hw _ (List.mem_of_getElem? (i := 67) rfl))) (by decide) (backOf (W := 0) (rmAddP1 l Z a0 hw [] a1 (mo + (1 : Int32)) b kb x1 y0 h5 n0 z5 f5_E_a1 fw5 f5_F_elementData_a1 f5_F_size_a1 g_a1 f5_A_b g_b ne_a1_b ovr_b f5_E_x1) hZ (hw _ (List.mem_of_getElem? (i := 67) rfl)) (hw _ (List.mem_of_getElem? (i := 32) rfl)) (by decide) (by decide)) (g := (mkF m 20 #[rv a1, rv x1] [(.int (1 : Int32)), (.ref b), (.ref x1), (.ref a1)])) rfl (by rw [hml]; rfl) (Steps.refl _) (a := a1) (by rw [e11]; exact q13) q13' (argsL := [(.ref x1), (.ref b), (.int (1 : Int32))]) (rest := []) (lenOf pd_13 rfl) rfl (by show 2 * 0 + _ ≤ _; exact Nat.le_of_eq rfl) (hb hby d10_20) (fun _ _ => ⟨rfl, e11, (by decide : 0 + 0 ≤ _), (by decide : 0 + 0 ≤ _)⟩)
  dsimp only [Pt.U, Pt.locs, Pt.cells, Pt.slots] at X13 l13 y13 z13 st13 hQ13
  subst l13 y13 z13
  obtain ⟨rfl, N13q, p13_0, p13_1, p13_2, p13_3, p13_4⟩ := hQ13
  have N13 := Fr.app N5 N13q
  have f13_E_a1 : Exa Z T13.heap a1 "java/util/ArrayList" := f5_E_a1.keep p13_0
  have f13_E_x1 : Exa Z T13.heap x1 "java/lang/String" := f5_E_x1.keep p13_0
  have z13 : n0 ≤ T13.heap.size := Nat.le_trans z5 p13_0.1
  have K13 : Keep h0 T13.heap [a1, b] := K5.trans p13_0 (allS (Or.inl (List.mem_of_getElem? (i := 0) rfl)) (allS (Or.inl (List.mem_of_getElem? (i := 1) rfl)) all0))
  have R14 : ∀ t, Steps p.tables e below (T13.setTop (mkF m 23 #[rv a1, rv x1] [])) t → Steps p.tables e below (s₁.setTop f0) t := fun t k => R12 t (st13.trans k)
  have R15 : ∀ t, Steps p.tables e below (T13.setTop (mkF m 24 #[rv a1, rv x1] [(.int (1 : Int32))])) t → Steps p.tables e below (s₁.setTop f0) t := fun t k => R14 t (by
    show Steps p.tables e below (T13.setTop (mkF m 23 #[rv a1, rv x1] [])) _
    refine XS.iconst X13.here hx rfl (hb hby d10_23) ?_
    exact k)
  obtain ⟨fs, hr, hrun, hended, hW, hsame⟩ := X13.leave (v := some (.int (1 : Int32))) (fun h => by rw [Bd.returns] at h; cases h)
  refine ⟨_, _, pre0 _ (R15 _ ?_), hrun, hended, _, _, rfl, ?_, ⟨_, rfl⟩, hW, hsame.mono (by decide) (by decide)⟩
  · show Steps p.tables e below (T13.setTop (mkF m 24 #[rv a1, rv x1] [(.int (1 : Int32))])) _
    exact retN X13 hx (t := .boolean) Bd.returns (by simp) (hb hby d10_24) hr
  · show Q_rmAdd1 Z a1 mo b kb x1 y0 h0 n0 _ T13.heap _
    exact ⟨rfl, N13, K13, p13_1, p13_2, p13_3, p13_4⟩
theorem ef_rmAddP2 (m : MethodId) (x0 : Addr) (x1 : Addr) (x2 : Addr) (x3 : Int32) : entryFrame m #[(.ref x0), (.ref x1), (.ref x2), (.int x3)] 4 = mkF m 0 #[rv x0, rv x1, rv x2, iv x3] [] := by first | (simp [entryFrame, mkF, argsToLocals, Value.category]; done) | rfl
def Q_rmAddP2 (Z : State) (a1 : Addr) (mo : Int32) (b : Addr) (kb : ClassId) (x1 : Addr) (y0 : Addr) (y1 : Addr) (h0 : Heap) (n0 : Nat) (v : Option Value) (h : Heap) (L : List Loc) : Prop := v = none ∧ Fr n0 L ∧ Keep h0 h [a1, b] ∧ (Fld Z h a1 "java/util/AbstractList" "modCount" "I" (.int mo)) ∧ (Fld Z h a1 "java/util/ArrayList" "elementData" "[Ljava/lang/Object;" (.ref b)) ∧ (Fld Z h a1 "java/util/ArrayList" "size" "I" (.int (3 : Int32))) ∧ (Arv Z h b kb (.object "java/lang/Object") (10 : Int32) [(.ref y0), (.ref y1), (.ref x1), .null, .null, .null, .null, .null, .null, .null] .null)
set_option maxRecDepth 65536 in
set_option maxHeartbeats 40000000 in
theorem rmAddP2 (l : Launch) (Z : State) (a0 : Array Value) (hw : ∀ d ∈ tables_1, d.before a0 Z = true) (ws : List Jvm.Cond) (a1 : Addr) (mo : Int32) (b : Addr) (kb : ClassId) (x1 : Addr) (y0 : Addr) (y1 : Addr) (h0 : Heap) (n0 : Nat) (Z0 : n0 ≤ h0.size) (E_a1 : Exa Z h0 a1 "java/util/ArrayList") (F_modCount_a1 : Fld Z h0 a1 "java/util/AbstractList" "modCount" "I" (.int mo)) (F_elementData_a1 : Fld Z h0 a1 "java/util/ArrayList" "elementData" "[Ljava/lang/Object;" (.ref b)) (F_size_a1 : Fld Z h0 a1 "java/util/ArrayList" "size" "I" (.int (2 : Int32))) (g_a1 : n0 ≤ a1) (A_b : Arv Z h0 b kb (.object "java/lang/Object") (10 : Int32) [(.ref y0), (.ref y1), .null, .null, .null, .null, .null, .null, .null, .null] .null) (g_b : n0 ≤ b) (ne_a1_b : a1 ≠ b) (ovr_b : Ovr Z kb "java/lang/Object") (E_x1 : Exa Z h0 x1 "java/lang/String") :
    MetFree l (⟨"java/util/ArrayList", "add", sN7⟩ : MethodName) (head1 (Jvm.Cond.code (⟨"java/util/ArrayList", "add", sN7⟩ : MethodName) jdk_38_method_24_code 4 none :: ws) ({ frames := 0, cells := 0, slots := 0, locals := 0 } : Room)) (fun a U => a = #[(.ref a1), (.ref x1), (.ref b), (.int (2 : Int32))] ∧ Z.Warmed39 U.vm ∧ U.heap = h0) (fun _ _ _ _ _ => True) (fun _ U o U' => ∃ v L, o = .returned v ∧ Q_rmAddP2 Z a1 mo b kb x1 y0 y1 h0 n0 v U'.heap L ∧ FrameEnd U o U' L ({ frames := 0, cells := 0, slots := 0, locals := 0 } : Room).cells ({ frames := 0, cells := 0, slots := 0, locals := 0 } : Room).slots) := by
  refine MetFree.of_bodySF (plainFor_of_name pn_9) hisR ?_
  intro p e s m args below meth c s₁ Bd hml0 hP hK
  obtain ⟨rfl, hZ, hh⟩ := hP
  have hx := Bd.exec
  have hby := Bd.bytes
  have hml : c.maxLocals = 4 := hml0
  have hown : s.vm.findClass "java/util/ArrayList" = some m.cls := findClass_of_methodNamed Bd.named
  have hnm := (name_of_methodNamed Bd.named Bd.method).1
  have X0 : Stand p l e ({ frames := 0, cells := 0, slots := 0, locals := 0 } : Room) s m #[(.ref a1), (.ref x1), (.ref b), (.int (2 : Int32))] below meth c s₁ [] 0 0 := Stand.of_body Bd
  have e0 : s₁.heap = h0 := by rw [← hh, Bd.state]; rfl
  have N0 := Fr.nil n0
  obtain ⟨f0, hf0⟩ : ∃ f : JFrame, f = mkF m 0 #[rv a1, rv x1, rv b, iv (2 : Int32)] [] := ⟨_, rfl⟩
  have pre0 : ∀ t, Steps p.tables e below (s₁.setTop f0) t → Steps p.tables e below (s₁.setTop (entryFrame m #[(.ref a1), (.ref x1), (.ref b), (.int (2 : Int32))] 4)) t := fun t k => castTop ((ef_rmAddP2 m a1 x1 b (2 : Int32)).trans hf0.symm) k
  have R0 : ∀ t, Steps p.tables e below (s₁.setTop (mkF m 0 #[rv a1, rv x1, rv b, iv (2 : Int32)] [])) t → Steps p.tables e below (s₁.setTop f0) t := by rw [hf0]; exact fun t k => k
  have R1 : ∀ t, Steps p.tables e below (s₁.setTop (mkF m 2 #[rv a1, rv x1, rv b, iv (2 : Int32)] [(.ref b), (.int (2 : Int32))])) t → Steps p.tables e below (s₁.setTop f0) t := fun t k => R0 t (by
    show Steps p.tables e below (s₁.setTop (mkF m 0 #[rv a1, rv x1, rv b, iv (2 : Int32)] [])) _
    refine XS.iloadN X0.here hx rfl (hb hby d11_0) rfl  ?_
    show Steps p.tables e below (s₁.setTop (mkF m 1 #[rv a1, rv x1, rv b, iv (2 : Int32)] [(.int (2 : Int32))])) _
    refine XS.aloadN X0.here hx rfl (hb hby d11_1) rfl rfl ?_
    exact k)
  obtain ⟨cl2, Ar2, -, S2, N2_, -, -⟩ := id A_b
  have R3 : ∀ t, Steps p.tables e below (s₁.setTop (mkF m 3 #[rv a1, rv x1, rv b, iv (2 : Int32)] [(.int (10 : Int32)), (.int (2 : Int32))])) t → Steps p.tables e below (s₁.setTop f0) t := fun t k => R1 t (X0.arraylength hx (by rw [e0]; exact Ar2.1) (State.isArrayOf_alike hZ.alike Ar2.2.1) (g := (mkF m 2 #[rv a1, rv x1, rv b, iv (2 : Int32)] [(.ref b), (.int (2 : Int32))])) rfl rfl (hb hby d11_2) _ (by rw [len_of S2 N2_]; exact k))
  have R4 : ∀ t, Steps p.tables e below (s₁.setTop (mkF m 14 #[rv a1, rv x1, rv b, iv (2 : Int32)] [(.ref x1), (.int (2 : Int32)), (.ref b)])) t → Steps p.tables e below (s₁.setTop f0) t := fun t k => R3 t (by
    show Steps p.tables e below (s₁.setTop (mkF m 3 #[rv a1, rv x1, rv b, iv (2 : Int32)] [(.int (10 : Int32)), (.int (2 : Int32))])) _
    refine XS.icmpYes X0.here hx rfl (pc0 := 3) (pc' := 11) rfl (hb hby d11_3) rfl (feq (by decide : ¬ ((2 : Int32) = (10 : Int32)))).2 (by decide) (by decide) ?_
    show Steps p.tables e below (s₁.setTop (mkF m 11 #[rv a1, rv x1, rv b, iv (2 : Int32)] [])) _
    refine XS.aloadN X0.here hx rfl (hb hby d11_11) rfl rfl ?_
    show Steps p.tables e below (s₁.setTop (mkF m 12 #[rv a1, rv x1, rv b, iv (2 : Int32)] [(.ref b)])) _
    refine XS.iloadN X0.here hx rfl (hb hby d11_12) rfl  ?_
    show Steps p.tables e below (s₁.setTop (mkF m 13 #[rv a1, rv x1, rv b, iv (2 : Int32)] [(.int (2 : Int32)), (.ref b)])) _
    refine XS.aloadN X0.here hx rfl (hb hby d11_13) rfl rfl ?_
    exact k)
  obtain ⟨cl5, Ar5, q5, S5, n5_, H5, G5⟩ := id A_b
  have hin5 : ¬ ((2 : Int32) < 0 ∨ cl5.slots.size ≤ ((2 : Int32)).toNatClampNeg) := inb_of S5 ⟨by decide, by decide⟩
  obtain ⟨T5, h5, X5, e5, W5, st5⟩ := stR X0 hx hZ e0 Ar5 (j := (2 : Int32)) hin5 rfl (Sto.ofV Ar5 q5 ovr_b (Ins.of_exa E_x1 (hw _ (List.mem_of_getElem? (i := 84) rfl)))) (g := (mkF m 14 #[rv a1, rv x1, rv b, iv (2 : Int32)] [(.ref x1), (.int (2 : Int32)), (.ref b)])) rfl rfl (hb hby d11_14)
  have f5_E_a1 : Exa Z h5 a1 "java/util/ArrayList" := E_a1.wr W5
  have f5_F_modCount_a1 : Fld Z h5 a1 "java/util/AbstractList" "modCount" "I" (.int mo) := F_modCount_a1.other W5 (Or.inl ne_a1_b)
  have f5_F_elementData_a1 : Fld Z h5 a1 "java/util/ArrayList" "elementData" "[Ljava/lang/Object;" (.ref b) := F_elementData_a1.other W5 (Or.inl ne_a1_b)
  have f5_F_size_a1 : Fld Z h5 a1 "java/util/ArrayList" "size" "I" (.int (2 : Int32)) := F_size_a1.other W5 (Or.inl ne_a1_b)
  have f5_E_x1 : Exa Z h5 x1 "java/lang/String" := E_x1.wr W5
  have z5 : n0 ≤ h5.size := by rw [W5.size]; exact Z0
  have K5 : Keep h0 h5 [a1, b] := (Keep.refl h0 [a1, b]).wr W5 (Or.inl (List.mem_of_getElem? (i := 1) rfl))
  have v5 : Arv Z h5 b kb (.object "java/lang/Object") (10 : Int32) [(.ref y0), (.ref y1), (.ref x1), .null, .null, .null, .null, .null, .null, .null] .null := Arv.set Ar5 q5 S5 n5_ H5 G5 rfl W5 2 rfl (Nat.le_of_ble_eq_true rfl)
  have N5 := Fr.snoc X5 N0 g_b
  have R6 : ∀ t, Steps p.tables e below (T5.setTop (mkF m 15 #[rv a1, rv x1, rv b, iv (2 : Int32)] [])) t → Steps p.tables e below (s₁.setTop f0) t := fun t k => R4 t (st5 t k)
  have R7 : ∀ t, Steps p.tables e below (T5.setTop (mkF m 19 #[rv a1, rv x1, rv b, iv (2 : Int32)] [(.int (3 : Int32)), (.ref a1)])) t → Steps p.tables e below (s₁.setTop f0) t := fun t k => R6 t (by
    show Steps p.tables e below (T5.setTop (mkF m 15 #[rv a1, rv x1, rv b, iv (2 : Int32)] [])) _
    refine XS.aloadN X5.here hx rfl (hb hby d11_15) rfl rfl ?_
    show Steps p.tables e below (T5.setTop (mkF m 16 #[rv a1, rv x1, rv b, iv (2 : Int32)] [(.ref a1)])) _
    refine XS.iloadN X5.here hx rfl (hb hby d11_16) rfl  ?_
    show Steps p.tables e below (T5.setTop (mkF m 17 #[rv a1, rv x1, rv b, iv (2 : Int32)] [(.int (2 : Int32)), (.ref a1)])) _
    refine XS.iconst X5.here hx rfl (hb hby d11_17) ?_
    show Steps p.tables e below (T5.setTop (mkF m 18 #[rv a1, rv x1, rv b, iv (2 : Int32)] [(.int (1 : Int32)), (.int (2 : Int32)), (.ref a1)])) _
    refine XS.iadd X5.here hx rfl (hb hby d11_18) rfl ?_
    exact k)
  obtain ⟨T8, h8, X8, e8, W8, st8⟩ := putF X5 hx hZ hown (host := "") (Or.inl (hw _ (List.mem_of_getElem? (i := 61) rfl))) Via.refl e5 f5_F_size_a1 f5_E_a1 (Or.inl (hw _ (List.mem_of_getElem? (i := 62) rfl))) (hw _ (List.mem_of_getElem? (i := 31) rfl)) (ty := .int) (by decide) rfl rfl (g := (mkF m 19 #[rv a1, rv x1, rv b, iv (2 : Int32)] [(.int (3 : Int32)), (.ref a1)])) rfl rfl (hb hby d11_19)
  have fw8 : Fld Z h8 a1 "java/util/ArrayList" "size" "I" (.int (3 : Int32)) := f5_F_size_a1.same W8
  have f8_E_a1 : Exa Z h8 a1 "java/util/ArrayList" := f5_E_a1.wr W8
  have f8_F_modCount_a1 : Fld Z h8 a1 "java/util/AbstractList" "modCount" "I" (.int mo) := f5_F_modCount_a1.other W8 (Or.inr (slot_ne (Or.inl (hw _ (List.mem_of_getElem? (i := 50) rfl))) (Or.inl (hw _ (List.mem_of_getElem? (i := 62) rfl))) (by decide) (t := .int) (t' := .int) (by decide) (by decide)))
  have f8_F_elementData_a1 : Fld Z h8 a1 "java/util/ArrayList" "elementData" "[Ljava/lang/Object;" (.ref b) := f5_F_elementData_a1.other W8 (Or.inr (slot_ne (Or.inl (hw _ (List.mem_of_getElem? (i := 53) rfl))) (Or.inl (hw _ (List.mem_of_getElem? (i := 62) rfl))) (by decide) (t := (.array (.object "java/lang/Object"))) (t' := .int) (by decide) (by decide)))
  have f8_A_b : Arv Z h8 b kb (.object "java/lang/Object") (10 : Int32) [(.ref y0), (.ref y1), (.ref x1), .null, .null, .null, .null, .null, .null, .null] .null := v5.other W8 (Ne.symm ne_a1_b)
  have f8_E_x1 : Exa Z h8 x1 "java/lang/String" := f5_E_x1.wr W8
  have z8 : n0 ≤ h8.size := by rw [W8.size]; exact z5
  have K8 : Keep h0 h8 [a1, b] := K5.wr W8 (Or.inl (List.mem_of_getElem? (i := 0) rfl))
  have N8 := Fr.snoc X8 N5 g_a1
  have R9 : ∀ t, Steps p.tables e below (T8.setTop (mkF m 22 #[rv a1, rv x1, rv b, iv (2 : Int32)] [])) t → Steps p.tables e below (s₁.setTop f0) t := fun t k => R7 t (st8 t k)
  obtain ⟨fs, hr, hrun, hended, hW, hsame⟩ := X8.leave (v := none) (fun _ => rfl)
  refine ⟨_, _, pre0 _ (R9 _ ?_), hrun, hended, _, _, rfl, ?_, ⟨_, rfl⟩, hW, hsame.mono (by decide) (by decide)⟩
  · show Steps p.tables e below (T8.setTop (mkF m 22 #[rv a1, rv x1, rv b, iv (2 : Int32)] [])) _
    exact X8.returnOut hx Bd.returns (hb hby d11_22) hr
  · show Q_rmAddP2 Z a1 mo b kb x1 y0 y1 h0 n0 _ T8.heap _
    rw [e8]
    exact ⟨rfl, N8, K8, f8_F_modCount_a1, f8_F_elementData_a1, fw8, f8_A_b⟩
theorem ef_rmAdd2 (m : MethodId) (x0 : Addr) (x1 : Addr) : entryFrame m #[(.ref x0), (.ref x1)] 2 = mkF m 0 #[rv x0, rv x1] [] := by first | (simp [entryFrame, mkF, argsToLocals, Value.category]; done) | rfl
def Q_rmAdd2 (Z : State) (a1 : Addr) (mo : Int32) (b : Addr) (kb : ClassId) (x1 : Addr) (y0 : Addr) (y1 : Addr) (h0 : Heap) (n0 : Nat) (v : Option Value) (h : Heap) (L : List Loc) : Prop := v = some (.int (1 : Int32)) ∧ Fr n0 L ∧ Keep h0 h [a1, b] ∧ (Fld Z h a1 "java/util/AbstractList" "modCount" "I" (.int (mo + (1 : Int32)))) ∧ (Fld Z h a1 "java/util/ArrayList" "elementData" "[Ljava/lang/Object;" (.ref b)) ∧ (Fld Z h a1 "java/util/ArrayList" "size" "I" (.int (3 : Int32))) ∧ (Arv Z h b kb (.object "java/lang/Object") (10 : Int32) [(.ref y0), (.ref y1), (.ref x1), .null, .null, .null, .null, .null, .null, .null] .null)
set_option maxRecDepth 65536 in
set_option maxHeartbeats 40000000 in
theorem rmAdd2 (l : Launch) (Z : State) (a0 : Array Value) (hw : ∀ d ∈ tables_1, d.before a0 Z = true) (ws : List Jvm.Cond) (a1 : Addr) (mo : Int32) (b : Addr) (kb : ClassId) (x1 : Addr) (y0 : Addr) (y1 : Addr) (h0 : Heap) (n0 : Nat) (Z0 : n0 ≤ h0.size) (E_a1 : Exa Z h0 a1 "java/util/ArrayList") (F_modCount_a1 : Fld Z h0 a1 "java/util/AbstractList" "modCount" "I" (.int mo)) (F_elementData_a1 : Fld Z h0 a1 "java/util/ArrayList" "elementData" "[Ljava/lang/Object;" (.ref b)) (F_size_a1 : Fld Z h0 a1 "java/util/ArrayList" "size" "I" (.int (2 : Int32))) (g_a1 : n0 ≤ a1) (A_b : Arv Z h0 b kb (.object "java/lang/Object") (10 : Int32) [(.ref y0), (.ref y1), .null, .null, .null, .null, .null, .null, .null, .null] .null) (g_b : n0 ≤ b) (ne_a1_b : a1 ≠ b) (ovr_b : Ovr Z kb "java/lang/Object") (E_x1 : Exa Z h0 x1 "java/lang/String") :
    MetFree l (⟨"java/util/ArrayList", "add", "(Ljava/lang/Object;)Z"⟩ : MethodName) (head1 (Jvm.Cond.code (⟨"java/util/ArrayList", "add", "(Ljava/lang/Object;)Z"⟩ : MethodName) jdk_38_method_25_code 2 (some .boolean) :: ws) ({ frames := 1, cells := 0, slots := 0, locals := 15 } : Room)) (fun a U => a = #[(.ref a1), (.ref x1)] ∧ Z.Warmed39 U.vm ∧ U.heap = h0) (fun _ _ _ _ _ => True) (fun _ U o U' => ∃ v L, o = .returned v ∧ Q_rmAdd2 Z a1 mo b kb x1 y0 y1 h0 n0 v U'.heap L ∧ FrameEnd U o U' L ({ frames := 1, cells := 0, slots := 0, locals := 15 } : Room).cells ({ frames := 1, cells := 0, slots := 0, locals := 15 } : Room).slots) := by
  refine MetFree.of_bodySF (plainFor_of_name pn_9) hisR ?_
  intro p e s m args below meth c s₁ Bd hml0 hP hK
  obtain ⟨rfl, hZ, hh⟩ := hP
  have hx := Bd.exec
  have hby := Bd.bytes
  have hml : c.maxLocals = 2 := hml0
  have hown : s.vm.findClass "java/util/ArrayList" = some m.cls := findClass_of_methodNamed Bd.named
  have hnm := (name_of_methodNamed Bd.named Bd.method).1
  have X0 : Stand p l e ({ frames := 1, cells := 0, slots := 0, locals := 15 } : Room) s m #[(.ref a1), (.ref x1)] below meth c s₁ [] 0 0 := Stand.of_body Bd
  have e0 : s₁.heap = h0 := by rw [← hh, Bd.state]; rfl
  have N0 := Fr.nil n0
  obtain ⟨f0, hf0⟩ : ∃ f : JFrame, f = mkF m 0 #[rv a1, rv x1] [] := ⟨_, rfl⟩
  have pre0 : ∀ t, Steps p.tables e below (s₁.setTop f0) t → Steps p.tables e below (s₁.setTop (entryFrame m #[(.ref a1), (.ref x1)] 2)) t := fun t k => castTop ((ef_rmAdd2 m a1 x1).trans hf0.symm) k
  have R0 : ∀ t, Steps p.tables e below (s₁.setTop (mkF m 0 #[rv a1, rv x1] [])) t → Steps p.tables e below (s₁.setTop f0) t := by rw [hf0]; exact fun t k => k
  have R1 : ∀ t, Steps p.tables e below (s₁.setTop (mkF m 2 #[rv a1, rv x1] [(.ref a1), (.ref a1)])) t → Steps p.tables e below (s₁.setTop f0) t := fun t k => R0 t (by
    show Steps p.tables e below (s₁.setTop (mkF m 0 #[rv a1, rv x1] [])) _
    refine XS.aloadN X0.here hx rfl (hb hby d10_0) rfl rfl ?_
    show Steps p.tables e below (s₁.setTop (mkF m 1 #[rv a1, rv x1] [(.ref a1)])) _
    refine XS.dup X0.here hx rfl (hb hby d10_1) rfl rfl ?_
    exact k)
  obtain ⟨T2, X2, e2, st2⟩ := getF X0 hx hZ hown (host := "") (Or.inl (hw _ (List.mem_of_getElem? (i := 59) rfl))) (Via.of (hw _ (List.mem_of_getElem? (i := 60) rfl))) e0 F_modCount_a1 (g := (mkF m 2 #[rv a1, rv x1] [(.ref a1), (.ref a1)])) rfl rfl (hb hby d10_2)
  have R3 : ∀ t, Steps p.tables e below (T2.setTop (mkF m 5 #[rv a1, rv x1] [(.int mo), (.ref a1)])) t → Steps p.tables e below (s₁.setTop f0) t := fun t k => R1 t (st2 t k)
  have R4 : ∀ t, Steps p.tables e below (T2.setTop (mkF m 7 #[rv a1, rv x1] [(.int (mo + (1 : Int32))), (.ref a1)])) t → Steps p.tables e below (s₁.setTop f0) t := fun t k => R3 t (by
    show Steps p.tables e below (T2.setTop (mkF m 5 #[rv a1, rv x1] [(.int mo), (.ref a1)])) _
    refine XS.iconst X2.here hx rfl (hb hby d10_5) ?_
    show Steps p.tables e below (T2.setTop (mkF m 6 #[rv a1, rv x1] [(.int (1 : Int32)), (.int mo), (.ref a1)])) _
    refine XS.iadd X2.here hx rfl (hb hby d10_6) rfl ?_
    exact k)
  obtain ⟨T5, h5, X5, e5, W5, st5⟩ := putF X2 hx hZ hown (host := "") (Or.inl (hw _ (List.mem_of_getElem? (i := 59) rfl))) (Via.of (hw _ (List.mem_of_getElem? (i := 60) rfl))) e2 F_modCount_a1 E_a1 (Or.inl (hw _ (List.mem_of_getElem? (i := 50) rfl))) (hw _ (List.mem_of_getElem? (i := 31) rfl)) (ty := .int) (by decide) rfl rfl (g := (mkF m 7 #[rv a1, rv x1] [(.int (mo + (1 : Int32))), (.ref a1)])) rfl rfl (hb hby d10_7)
  have fw5 : Fld Z h5 a1 "java/util/AbstractList" "modCount" "I" (.int (mo + (1 : Int32))) := F_modCount_a1.same W5
  have f5_E_a1 : Exa Z h5 a1 "java/util/ArrayList" := E_a1.wr W5
  have f5_F_elementData_a1 : Fld Z h5 a1 "java/util/ArrayList" "elementData" "[Ljava/lang/Object;" (.ref b) := F_elementData_a1.other W5 (Or.inr (slot_ne (Or.inl (hw _ (List.mem_of_getElem? (i := 53) rfl))) (Or.inl (hw _ (List.mem_of_getElem? (i := 50) rfl))) (by decide) (t := (.array (.object "java/lang/Object"))) (t' := .int) (by decide) (by decide)))
  have f5_F_size_a1 : Fld Z h5 a1 "java/util/ArrayList" "size" "I" (.int (2 : Int32)) := F_size_a1.other W5 (Or.inr (slot_ne (Or.inl (hw _ (List.mem_of_getElem? (i := 62) rfl))) (Or.inl (hw _ (List.mem_of_getElem? (i := 50) rfl))) (by decide) (t := .int) (t' := .int) (by decide) (by decide)))
  have f5_A_b : Arv Z h5 b kb (.object "java/lang/Object") (10 : Int32) [(.ref y0), (.ref y1), .null, .null, .null, .null, .null, .null, .null, .null] .null := A_b.other W5 (Ne.symm ne_a1_b)
  have f5_E_x1 : Exa Z h5 x1 "java/lang/String" := E_x1.wr W5
  have z5 : n0 ≤ h5.size := by rw [W5.size]; exact Z0
  have K5 : Keep h0 h5 [a1, b] := (Keep.refl h0 [a1, b]).wr W5 (Or.inl (List.mem_of_getElem? (i := 0) rfl))
  have N5 := Fr.snoc X5 N0 g_a1
  have R6 : ∀ t, Steps p.tables e below (T5.setTop (mkF m 10 #[rv a1, rv x1] [])) t → Steps p.tables e below (s₁.setTop f0) t := fun t k => R4 t (st5 t k)
  have R7 : ∀ t, Steps p.tables e below (T5.setTop (mkF m 13 #[rv a1, rv x1] [(.ref a1), (.ref x1), (.ref a1)])) t → Steps p.tables e below (s₁.setTop f0) t := fun t k => R6 t (by
    show Steps p.tables e below (T5.setTop (mkF m 10 #[rv a1, rv x1] [])) _
    refine XS.aloadN X5.here hx rfl (hb hby d10_10) rfl rfl ?_
    show Steps p.tables e below (T5.setTop (mkF m 11 #[rv a1, rv x1] [(.ref a1)])) _
    refine XS.aloadN X5.here hx rfl (hb hby d10_11) rfl rfl ?_
    show Steps p.tables e below (T5.setTop (mkF m 12 #[rv a1, rv x1] [(.ref x1), (.ref a1)])) _
    refine XS.aloadN X5.here hx rfl (hb hby d10_12) rfl rfl ?_
    exact k)
  obtain ⟨T8, X8, e8, st8⟩ := getF X5 hx hZ hown (host := "") (Or.inl (hw _ (List.mem_of_getElem? (i := 52) rfl))) Via.refl e5 f5_F_elementData_a1 (g := (mkF m 13 #[rv a1, rv x1] [(.ref a1), (.ref x1), (.ref a1)])) rfl rfl (hb hby d10_13)
  have R9 : ∀ t, Steps p.tables e below (T8.setTop (mkF m 16 #[rv a1, rv x1] [(.ref b), (.ref x1), (.ref a1)])) t → Steps p.tables e below (s₁.setTop f0) t := fun t k => R7 t (st8 t k)
  have R10 : ∀ t, Steps p.tables e below (T8.setTop (mkF m 17 #[rv a1, rv x1] [(.ref a1), (.ref b), (.ref x1), (.ref a1)])) t → Steps p.tables e below (s₁.setTop f0) t := fun t k => R9 t (by
    show Steps p.tables e below (T8.setTop (mkF m 16 #[rv a1, rv x1] [(.ref b), (.ref x1), (.ref a1)])) _
    refine XS.aloadN X8.here hx rfl (hb hby d10_16) rfl rfl ?_
    exact k)
  obtain ⟨T11, X11, e11, st11⟩ := getF X8 hx hZ hown (host := "") (Or.inl (hw _ (List.mem_of_getElem? (i := 61) rfl))) Via.refl e8 f5_F_size_a1 (g := (mkF m 17 #[rv a1, rv x1] [(.ref a1), (.ref b), (.ref x1), (.ref a1)])) rfl rfl (hb hby d10_17)
  have R12 : ∀ t, Steps p.tables e below (T11.setTop (mkF m 20 #[rv a1, rv x1] [(.int (2 : Int32)), (.ref b), (.ref x1), (.ref a1)])) t → Steps p.tables e below (s₁.setTop f0) t := fun t k => R10 t (st11 t k)
  obtain ⟨cq13, q13, q13'⟩ := f5_E_a1.cell
  obtain ⟨_, _, ⟨T13, L13, k13, n13⟩, -, X13, ⟨Lc13, hQ13, l13, y13, z13⟩, st13⟩ := X11.privateBack hx (y := (⟨"java/util/ArrayList", "add", sN7⟩ : MethodName)) hown (mvT hZ (hw _ (List.mem_of_getElem? (i := 63) rfl))) (mvT hZ (hw _ (List.mem_of_getElem? (i := 64) rfl))) (mvT hZ (hw _ (List.mem_of_getElem? (i := 66) rfl))) (Cond.privateMethod_at (mvP hZ (hw _ (List.mem_of_getElem? (i := 65) rfl)) (args := #[]))) (mvT hZ (hw _ (List.mem_of_getElem? (i := 67) rfl))) (by decide) (backOf (W := 0) (rmAddP2 l Z a0 hw [] a1 (mo + (1 : Int32)) b kb x1 y0 y1 h5 n0 z5 f5_E_a1 fw5 f5_F_elementData_a1 f5_F_size_a1 g_a1 f5_A_b g_b ne_a1_b ovr_b f5_E_x1) hZ (hw _ (List.mem_of_getElem? (i := 67) rfl)) (hw _ (List.mem_of_getElem? (i := 32) rfl)) (by decide) (by decide)) (g := (mkF m 20 #[rv a1, rv x1] [(.int (2 : Int32)), (.ref b), (.ref x1), (.ref a1)])) rfl (by rw [hml]; rfl) (Steps.refl _) (a := a1) (by rw [e11]; exact q13) q13' (argsL := [(.ref x1), (.ref b), (.int (2 : Int32))]) (rest := []) (lenOf pd_13 rfl) rfl (by show 2 * 0 + _ ≤ _; exact Nat.le_of_eq rfl) (hb hby d10_20) (fun _ _ => ⟨rfl, e11, (by decide : 0 + 0 ≤ _), (by decide : 0 + 0 ≤ _)⟩)
  dsimp only [Pt.U, Pt.locs, Pt.cells, Pt.slots] at X13 l13 y13 z13 st13 hQ13
  subst l13 y13 z13
  obtain ⟨rfl, N13q, p13_0, p13_1, p13_2, p13_3, p13_4⟩ := hQ13
  have N13 := Fr.app N5 N13q
  have f13_E_a1 : Exa Z T13.heap a1 "java/util/ArrayList" := f5_E_a1.keep p13_0
  have f13_E_x1 : Exa Z T13.heap x1 "java/lang/String" := f5_E_x1.keep p13_0
  have z13 : n0 ≤ T13.heap.size := Nat.le_trans z5 p13_0.1
  have K13 : Keep h0 T13.heap [a1, b] := K5.trans p13_0 (allS (Or.inl (List.mem_of_getElem? (i := 0) rfl)) (allS (Or.inl (List.mem_of_getElem? (i := 1) rfl)) all0))
  have R14 : ∀ t, Steps p.tables e below (T13.setTop (mkF m 23 #[rv a1, rv x1] [])) t → Steps p.tables e below (s₁.setTop f0) t := fun t k => R12 t (st13.trans k)
  have R15 : ∀ t, Steps p.tables e below (T13.setTop (mkF m 24 #[rv a1, rv x1] [(.int (1 : Int32))])) t → Steps p.tables e below (s₁.setTop f0) t := fun t k => R14 t (by
    show Steps p.tables e below (T13.setTop (mkF m 23 #[rv a1, rv x1] [])) _
    refine XS.iconst X13.here hx rfl (hb hby d10_23) ?_
    exact k)
  obtain ⟨fs, hr, hrun, hended, hW, hsame⟩ := X13.leave (v := some (.int (1 : Int32))) (fun h => by rw [Bd.returns] at h; cases h)
  refine ⟨_, _, pre0 _ (R15 _ ?_), hrun, hended, _, _, rfl, ?_, ⟨_, rfl⟩, hW, hsame.mono (by decide) (by decide)⟩
  · show Steps p.tables e below (T13.setTop (mkF m 24 #[rv a1, rv x1] [(.int (1 : Int32))])) _
    exact retN X13 hx (t := .boolean) Bd.returns (by simp) (hb hby d10_24) hr
  · show Q_rmAdd2 Z a1 mo b kb x1 y0 y1 h0 n0 _ T13.heap _
    exact ⟨rfl, N13, K13, p13_1, p13_2, p13_3, p13_4⟩
theorem ef_rmAddP3 (m : MethodId) (x0 : Addr) (x1 : Addr) (x2 : Addr) (x3 : Int32) : entryFrame m #[(.ref x0), (.ref x1), (.ref x2), (.int x3)] 4 = mkF m 0 #[rv x0, rv x1, rv x2, iv x3] [] := by first | (simp [entryFrame, mkF, argsToLocals, Value.category]; done) | rfl
def Q_rmAddP3 (Z : State) (a1 : Addr) (mo : Int32) (b : Addr) (kb : ClassId) (x1 : Addr) (y0 : Addr) (y1 : Addr) (y2 : Addr) (h0 : Heap) (n0 : Nat) (v : Option Value) (h : Heap) (L : List Loc) : Prop := v = none ∧ Fr n0 L ∧ Keep h0 h [a1, b] ∧ (Fld Z h a1 "java/util/AbstractList" "modCount" "I" (.int mo)) ∧ (Fld Z h a1 "java/util/ArrayList" "elementData" "[Ljava/lang/Object;" (.ref b)) ∧ (Fld Z h a1 "java/util/ArrayList" "size" "I" (.int (4 : Int32))) ∧ (Arv Z h b kb (.object "java/lang/Object") (10 : Int32) [(.ref y0), (.ref y1), (.ref y2), (.ref x1), .null, .null, .null, .null, .null, .null] .null)
set_option maxRecDepth 65536 in
set_option maxHeartbeats 40000000 in
theorem rmAddP3 (l : Launch) (Z : State) (a0 : Array Value) (hw : ∀ d ∈ tables_1, d.before a0 Z = true) (ws : List Jvm.Cond) (a1 : Addr) (mo : Int32) (b : Addr) (kb : ClassId) (x1 : Addr) (y0 : Addr) (y1 : Addr) (y2 : Addr) (h0 : Heap) (n0 : Nat) (Z0 : n0 ≤ h0.size) (E_a1 : Exa Z h0 a1 "java/util/ArrayList") (F_modCount_a1 : Fld Z h0 a1 "java/util/AbstractList" "modCount" "I" (.int mo)) (F_elementData_a1 : Fld Z h0 a1 "java/util/ArrayList" "elementData" "[Ljava/lang/Object;" (.ref b)) (F_size_a1 : Fld Z h0 a1 "java/util/ArrayList" "size" "I" (.int (3 : Int32))) (g_a1 : n0 ≤ a1) (A_b : Arv Z h0 b kb (.object "java/lang/Object") (10 : Int32) [(.ref y0), (.ref y1), (.ref y2), .null, .null, .null, .null, .null, .null, .null] .null) (g_b : n0 ≤ b) (ne_a1_b : a1 ≠ b) (ovr_b : Ovr Z kb "java/lang/Object") (E_x1 : Exa Z h0 x1 "java/lang/String") :
    MetFree l (⟨"java/util/ArrayList", "add", sN7⟩ : MethodName) (head1 (Jvm.Cond.code (⟨"java/util/ArrayList", "add", sN7⟩ : MethodName) jdk_38_method_24_code 4 none :: ws) ({ frames := 0, cells := 0, slots := 0, locals := 0 } : Room)) (fun a U => a = #[(.ref a1), (.ref x1), (.ref b), (.int (3 : Int32))] ∧ Z.Warmed39 U.vm ∧ U.heap = h0) (fun _ _ _ _ _ => True) (fun _ U o U' => ∃ v L, o = .returned v ∧ Q_rmAddP3 Z a1 mo b kb x1 y0 y1 y2 h0 n0 v U'.heap L ∧ FrameEnd U o U' L ({ frames := 0, cells := 0, slots := 0, locals := 0 } : Room).cells ({ frames := 0, cells := 0, slots := 0, locals := 0 } : Room).slots) := by
  refine MetFree.of_bodySF (plainFor_of_name pn_9) hisR ?_
  intro p e s m args below meth c s₁ Bd hml0 hP hK
  obtain ⟨rfl, hZ, hh⟩ := hP
  have hx := Bd.exec
  have hby := Bd.bytes
  have hml : c.maxLocals = 4 := hml0
  have hown : s.vm.findClass "java/util/ArrayList" = some m.cls := findClass_of_methodNamed Bd.named
  have hnm := (name_of_methodNamed Bd.named Bd.method).1
  have X0 : Stand p l e ({ frames := 0, cells := 0, slots := 0, locals := 0 } : Room) s m #[(.ref a1), (.ref x1), (.ref b), (.int (3 : Int32))] below meth c s₁ [] 0 0 := Stand.of_body Bd
  have e0 : s₁.heap = h0 := by rw [← hh, Bd.state]; rfl
  have N0 := Fr.nil n0
  obtain ⟨f0, hf0⟩ : ∃ f : JFrame, f = mkF m 0 #[rv a1, rv x1, rv b, iv (3 : Int32)] [] := ⟨_, rfl⟩
  have pre0 : ∀ t, Steps p.tables e below (s₁.setTop f0) t → Steps p.tables e below (s₁.setTop (entryFrame m #[(.ref a1), (.ref x1), (.ref b), (.int (3 : Int32))] 4)) t := fun t k => castTop ((ef_rmAddP3 m a1 x1 b (3 : Int32)).trans hf0.symm) k
  have R0 : ∀ t, Steps p.tables e below (s₁.setTop (mkF m 0 #[rv a1, rv x1, rv b, iv (3 : Int32)] [])) t → Steps p.tables e below (s₁.setTop f0) t := by rw [hf0]; exact fun t k => k
  have R1 : ∀ t, Steps p.tables e below (s₁.setTop (mkF m 2 #[rv a1, rv x1, rv b, iv (3 : Int32)] [(.ref b), (.int (3 : Int32))])) t → Steps p.tables e below (s₁.setTop f0) t := fun t k => R0 t (by
    show Steps p.tables e below (s₁.setTop (mkF m 0 #[rv a1, rv x1, rv b, iv (3 : Int32)] [])) _
    refine XS.iloadN X0.here hx rfl (hb hby d11_0) rfl  ?_
    show Steps p.tables e below (s₁.setTop (mkF m 1 #[rv a1, rv x1, rv b, iv (3 : Int32)] [(.int (3 : Int32))])) _
    refine XS.aloadN X0.here hx rfl (hb hby d11_1) rfl rfl ?_
    exact k)
  obtain ⟨cl2, Ar2, -, S2, N2_, -, -⟩ := id A_b
  have R3 : ∀ t, Steps p.tables e below (s₁.setTop (mkF m 3 #[rv a1, rv x1, rv b, iv (3 : Int32)] [(.int (10 : Int32)), (.int (3 : Int32))])) t → Steps p.tables e below (s₁.setTop f0) t := fun t k => R1 t (X0.arraylength hx (by rw [e0]; exact Ar2.1) (State.isArrayOf_alike hZ.alike Ar2.2.1) (g := (mkF m 2 #[rv a1, rv x1, rv b, iv (3 : Int32)] [(.ref b), (.int (3 : Int32))])) rfl rfl (hb hby d11_2) _ (by rw [len_of S2 N2_]; exact k))
  have R4 : ∀ t, Steps p.tables e below (s₁.setTop (mkF m 14 #[rv a1, rv x1, rv b, iv (3 : Int32)] [(.ref x1), (.int (3 : Int32)), (.ref b)])) t → Steps p.tables e below (s₁.setTop f0) t := fun t k => R3 t (by
    show Steps p.tables e below (s₁.setTop (mkF m 3 #[rv a1, rv x1, rv b, iv (3 : Int32)] [(.int (10 : Int32)), (.int (3 : Int32))])) _
    refine XS.icmpYes X0.here hx rfl (pc0 := 3) (pc' := 11) rfl (hb hby d11_3) rfl (feq (by decide : ¬ ((3 : Int32) = (10 : Int32)))).2 (by decide) (by decide) ?_
    show Steps p.tables e below (s₁.setTop (mkF m 11 #[rv a1, rv x1, rv b, iv (3 : Int32)] [])) _
    refine XS.aloadN X0.here hx rfl (hb hby d11_11) rfl rfl ?_
    show Steps p.tables e below (s₁.setTop (mkF m 12 #[rv a1, rv x1, rv b, iv (3 : Int32)] [(.ref b)])) _
    refine XS.iloadN X0.here hx rfl (hb hby d11_12) rfl  ?_
    show Steps p.tables e below (s₁.setTop (mkF m 13 #[rv a1, rv x1, rv b, iv (3 : Int32)] [(.int (3 : Int32)), (.ref b)])) _
    refine XS.aloadN X0.here hx rfl (hb hby d11_13) rfl rfl ?_
    exact k)
  obtain ⟨cl5, Ar5, q5, S5, n5_, H5, G5⟩ := id A_b
  have hin5 : ¬ ((3 : Int32) < 0 ∨ cl5.slots.size ≤ ((3 : Int32)).toNatClampNeg) := inb_of S5 ⟨by decide, by decide⟩
  obtain ⟨T5, h5, X5, e5, W5, st5⟩ := stR X0 hx hZ e0 Ar5 (j := (3 : Int32)) hin5 rfl (Sto.ofV Ar5 q5 ovr_b (Ins.of_exa E_x1 (hw _ (List.mem_of_getElem? (i := 84) rfl)))) (g := (mkF m 14 #[rv a1, rv x1, rv b, iv (3 : Int32)] [(.ref x1), (.int (3 : Int32)), (.ref b)])) rfl rfl (hb hby d11_14)
  have f5_E_a1 : Exa Z h5 a1 "java/util/ArrayList" := E_a1.wr W5
  have f5_F_modCount_a1 : Fld Z h5 a1 "java/util/AbstractList" "modCount" "I" (.int mo) := F_modCount_a1.other W5 (Or.inl ne_a1_b)
  have f5_F_elementData_a1 : Fld Z h5 a1 "java/util/ArrayList" "elementData" "[Ljava/lang/Object;" (.ref b) := F_elementData_a1.other W5 (Or.inl ne_a1_b)
  have f5_F_size_a1 : Fld Z h5 a1 "java/util/ArrayList" "size" "I" (.int (3 : Int32)) := F_size_a1.other W5 (Or.inl ne_a1_b)
  have f5_E_x1 : Exa Z h5 x1 "java/lang/String" := E_x1.wr W5
  have z5 : n0 ≤ h5.size := by rw [W5.size]; exact Z0
  have K5 : Keep h0 h5 [a1, b] := (Keep.refl h0 [a1, b]).wr W5 (Or.inl (List.mem_of_getElem? (i := 1) rfl))
  have v5 : Arv Z h5 b kb (.object "java/lang/Object") (10 : Int32) [(.ref y0), (.ref y1), (.ref y2), (.ref x1), .null, .null, .null, .null, .null, .null] .null := Arv.set Ar5 q5 S5 n5_ H5 G5 rfl W5 3 rfl (Nat.le_of_ble_eq_true rfl)
  have N5 := Fr.snoc X5 N0 g_b
  have R6 : ∀ t, Steps p.tables e below (T5.setTop (mkF m 15 #[rv a1, rv x1, rv b, iv (3 : Int32)] [])) t → Steps p.tables e below (s₁.setTop f0) t := fun t k => R4 t (st5 t k)
  have R7 : ∀ t, Steps p.tables e below (T5.setTop (mkF m 19 #[rv a1, rv x1, rv b, iv (3 : Int32)] [(.int (4 : Int32)), (.ref a1)])) t → Steps p.tables e below (s₁.setTop f0) t := fun t k => R6 t (by
    show Steps p.tables e below (T5.setTop (mkF m 15 #[rv a1, rv x1, rv b, iv (3 : Int32)] [])) _
    refine XS.aloadN X5.here hx rfl (hb hby d11_15) rfl rfl ?_
    show Steps p.tables e below (T5.setTop (mkF m 16 #[rv a1, rv x1, rv b, iv (3 : Int32)] [(.ref a1)])) _
    refine XS.iloadN X5.here hx rfl (hb hby d11_16) rfl  ?_
    show Steps p.tables e below (T5.setTop (mkF m 17 #[rv a1, rv x1, rv b, iv (3 : Int32)] [(.int (3 : Int32)), (.ref a1)])) _
    refine XS.iconst X5.here hx rfl (hb hby d11_17) ?_
    show Steps p.tables e below (T5.setTop (mkF m 18 #[rv a1, rv x1, rv b, iv (3 : Int32)] [(.int (1 : Int32)), (.int (3 : Int32)), (.ref a1)])) _
    refine XS.iadd X5.here hx rfl (hb hby d11_18) rfl ?_
    exact k)
  obtain ⟨T8, h8, X8, e8, W8, st8⟩ := putF X5 hx hZ hown (host := "") (Or.inl (hw _ (List.mem_of_getElem? (i := 61) rfl))) Via.refl e5 f5_F_size_a1 f5_E_a1 (Or.inl (hw _ (List.mem_of_getElem? (i := 62) rfl))) (hw _ (List.mem_of_getElem? (i := 31) rfl)) (ty := .int) (by decide) rfl rfl (g := (mkF m 19 #[rv a1, rv x1, rv b, iv (3 : Int32)] [(.int (4 : Int32)), (.ref a1)])) rfl rfl (hb hby d11_19)
  have fw8 : Fld Z h8 a1 "java/util/ArrayList" "size" "I" (.int (4 : Int32)) := f5_F_size_a1.same W8
  have f8_E_a1 : Exa Z h8 a1 "java/util/ArrayList" := f5_E_a1.wr W8
  have f8_F_modCount_a1 : Fld Z h8 a1 "java/util/AbstractList" "modCount" "I" (.int mo) := f5_F_modCount_a1.other W8 (Or.inr (slot_ne (Or.inl (hw _ (List.mem_of_getElem? (i := 50) rfl))) (Or.inl (hw _ (List.mem_of_getElem? (i := 62) rfl))) (by decide) (t := .int) (t' := .int) (by decide) (by decide)))
  have f8_F_elementData_a1 : Fld Z h8 a1 "java/util/ArrayList" "elementData" "[Ljava/lang/Object;" (.ref b) := f5_F_elementData_a1.other W8 (Or.inr (slot_ne (Or.inl (hw _ (List.mem_of_getElem? (i := 53) rfl))) (Or.inl (hw _ (List.mem_of_getElem? (i := 62) rfl))) (by decide) (t := (.array (.object "java/lang/Object"))) (t' := .int) (by decide) (by decide)))
  have f8_A_b : Arv Z h8 b kb (.object "java/lang/Object") (10 : Int32) [(.ref y0), (.ref y1), (.ref y2), (.ref x1), .null, .null, .null, .null, .null, .null] .null := v5.other W8 (Ne.symm ne_a1_b)
  have f8_E_x1 : Exa Z h8 x1 "java/lang/String" := f5_E_x1.wr W8
  have z8 : n0 ≤ h8.size := by rw [W8.size]; exact z5
  have K8 : Keep h0 h8 [a1, b] := K5.wr W8 (Or.inl (List.mem_of_getElem? (i := 0) rfl))
  have N8 := Fr.snoc X8 N5 g_a1
  have R9 : ∀ t, Steps p.tables e below (T8.setTop (mkF m 22 #[rv a1, rv x1, rv b, iv (3 : Int32)] [])) t → Steps p.tables e below (s₁.setTop f0) t := fun t k => R7 t (st8 t k)
  obtain ⟨fs, hr, hrun, hended, hW, hsame⟩ := X8.leave (v := none) (fun _ => rfl)
  refine ⟨_, _, pre0 _ (R9 _ ?_), hrun, hended, _, _, rfl, ?_, ⟨_, rfl⟩, hW, hsame.mono (by decide) (by decide)⟩
  · show Steps p.tables e below (T8.setTop (mkF m 22 #[rv a1, rv x1, rv b, iv (3 : Int32)] [])) _
    exact X8.returnOut hx Bd.returns (hb hby d11_22) hr
  · show Q_rmAddP3 Z a1 mo b kb x1 y0 y1 y2 h0 n0 _ T8.heap _
    rw [e8]
    exact ⟨rfl, N8, K8, f8_F_modCount_a1, f8_F_elementData_a1, fw8, f8_A_b⟩
theorem ef_rmAdd3 (m : MethodId) (x0 : Addr) (x1 : Addr) : entryFrame m #[(.ref x0), (.ref x1)] 2 = mkF m 0 #[rv x0, rv x1] [] := by first | (simp [entryFrame, mkF, argsToLocals, Value.category]; done) | rfl
def Q_rmAdd3 (Z : State) (a1 : Addr) (mo : Int32) (b : Addr) (kb : ClassId) (x1 : Addr) (y0 : Addr) (y1 : Addr) (y2 : Addr) (h0 : Heap) (n0 : Nat) (v : Option Value) (h : Heap) (L : List Loc) : Prop := v = some (.int (1 : Int32)) ∧ Fr n0 L ∧ Keep h0 h [a1, b] ∧ (Fld Z h a1 "java/util/AbstractList" "modCount" "I" (.int (mo + (1 : Int32)))) ∧ (Fld Z h a1 "java/util/ArrayList" "elementData" "[Ljava/lang/Object;" (.ref b)) ∧ (Fld Z h a1 "java/util/ArrayList" "size" "I" (.int (4 : Int32))) ∧ (Arv Z h b kb (.object "java/lang/Object") (10 : Int32) [(.ref y0), (.ref y1), (.ref y2), (.ref x1), .null, .null, .null, .null, .null, .null] .null)
set_option maxRecDepth 65536 in
set_option maxHeartbeats 40000000 in
theorem rmAdd3 (l : Launch) (Z : State) (a0 : Array Value) (hw : ∀ d ∈ tables_1, d.before a0 Z = true) (ws : List Jvm.Cond) (a1 : Addr) (mo : Int32) (b : Addr) (kb : ClassId) (x1 : Addr) (y0 : Addr) (y1 : Addr) (y2 : Addr) (h0 : Heap) (n0 : Nat) (Z0 : n0 ≤ h0.size) (E_a1 : Exa Z h0 a1 "java/util/ArrayList") (F_modCount_a1 : Fld Z h0 a1 "java/util/AbstractList" "modCount" "I" (.int mo)) (F_elementData_a1 : Fld Z h0 a1 "java/util/ArrayList" "elementData" "[Ljava/lang/Object;" (.ref b)) (F_size_a1 : Fld Z h0 a1 "java/util/ArrayList" "size" "I" (.int (3 : Int32))) (g_a1 : n0 ≤ a1) (A_b : Arv Z h0 b kb (.object "java/lang/Object") (10 : Int32) [(.ref y0), (.ref y1), (.ref y2), .null, .null, .null, .null, .null, .null, .null] .null) (g_b : n0 ≤ b) (ne_a1_b : a1 ≠ b) (ovr_b : Ovr Z kb "java/lang/Object") (E_x1 : Exa Z h0 x1 "java/lang/String") :
    MetFree l (⟨"java/util/ArrayList", "add", "(Ljava/lang/Object;)Z"⟩ : MethodName) (head1 (Jvm.Cond.code (⟨"java/util/ArrayList", "add", "(Ljava/lang/Object;)Z"⟩ : MethodName) jdk_38_method_25_code 2 (some .boolean) :: ws) ({ frames := 1, cells := 0, slots := 0, locals := 15 } : Room)) (fun a U => a = #[(.ref a1), (.ref x1)] ∧ Z.Warmed39 U.vm ∧ U.heap = h0) (fun _ _ _ _ _ => True) (fun _ U o U' => ∃ v L, o = .returned v ∧ Q_rmAdd3 Z a1 mo b kb x1 y0 y1 y2 h0 n0 v U'.heap L ∧ FrameEnd U o U' L ({ frames := 1, cells := 0, slots := 0, locals := 15 } : Room).cells ({ frames := 1, cells := 0, slots := 0, locals := 15 } : Room).slots) := by
  refine MetFree.of_bodySF (plainFor_of_name pn_9) hisR ?_
  intro p e s m args below meth c s₁ Bd hml0 hP hK
  obtain ⟨rfl, hZ, hh⟩ := hP
  have hx := Bd.exec
  have hby := Bd.bytes
  have hml : c.maxLocals = 2 := hml0
  have hown : s.vm.findClass "java/util/ArrayList" = some m.cls := findClass_of_methodNamed Bd.named
  have hnm := (name_of_methodNamed Bd.named Bd.method).1
  have X0 : Stand p l e ({ frames := 1, cells := 0, slots := 0, locals := 15 } : Room) s m #[(.ref a1), (.ref x1)] below meth c s₁ [] 0 0 := Stand.of_body Bd
  have e0 : s₁.heap = h0 := by rw [← hh, Bd.state]; rfl
  have N0 := Fr.nil n0
  obtain ⟨f0, hf0⟩ : ∃ f : JFrame, f = mkF m 0 #[rv a1, rv x1] [] := ⟨_, rfl⟩
  have pre0 : ∀ t, Steps p.tables e below (s₁.setTop f0) t → Steps p.tables e below (s₁.setTop (entryFrame m #[(.ref a1), (.ref x1)] 2)) t := fun t k => castTop ((ef_rmAdd3 m a1 x1).trans hf0.symm) k
  have R0 : ∀ t, Steps p.tables e below (s₁.setTop (mkF m 0 #[rv a1, rv x1] [])) t → Steps p.tables e below (s₁.setTop f0) t := by rw [hf0]; exact fun t k => k
  have R1 : ∀ t, Steps p.tables e below (s₁.setTop (mkF m 2 #[rv a1, rv x1] [(.ref a1), (.ref a1)])) t → Steps p.tables e below (s₁.setTop f0) t := fun t k => R0 t (by
    show Steps p.tables e below (s₁.setTop (mkF m 0 #[rv a1, rv x1] [])) _
    refine XS.aloadN X0.here hx rfl (hb hby d10_0) rfl rfl ?_
    show Steps p.tables e below (s₁.setTop (mkF m 1 #[rv a1, rv x1] [(.ref a1)])) _
    refine XS.dup X0.here hx rfl (hb hby d10_1) rfl rfl ?_
    exact k)
  obtain ⟨T2, X2, e2, st2⟩ := getF X0 hx hZ hown (host := "") (Or.inl (hw _ (List.mem_of_getElem? (i := 59) rfl))) (Via.of (hw _ (List.mem_of_getElem? (i := 60) rfl))) e0 F_modCount_a1 (g := (mkF m 2 #[rv a1, rv x1] [(.ref a1), (.ref a1)])) rfl rfl (hb hby d10_2)
  have R3 : ∀ t, Steps p.tables e below (T2.setTop (mkF m 5 #[rv a1, rv x1] [(.int mo), (.ref a1)])) t → Steps p.tables e below (s₁.setTop f0) t := fun t k => R1 t (st2 t k)
  have R4 : ∀ t, Steps p.tables e below (T2.setTop (mkF m 7 #[rv a1, rv x1] [(.int (mo + (1 : Int32))), (.ref a1)])) t → Steps p.tables e below (s₁.setTop f0) t := fun t k => R3 t (by
    show Steps p.tables e below (T2.setTop (mkF m 5 #[rv a1, rv x1] [(.int mo), (.ref a1)])) _
    refine XS.iconst X2.here hx rfl (hb hby d10_5) ?_
    show Steps p.tables e below (T2.setTop (mkF m 6 #[rv a1, rv x1] [(.int (1 : Int32)), (.int mo), (.ref a1)])) _
    refine XS.iadd X2.here hx rfl (hb hby d10_6) rfl ?_
    exact k)
  obtain ⟨T5, h5, X5, e5, W5, st5⟩ := putF X2 hx hZ hown (host := "") (Or.inl (hw _ (List.mem_of_getElem? (i := 59) rfl))) (Via.of (hw _ (List.mem_of_getElem? (i := 60) rfl))) e2 F_modCount_a1 E_a1 (Or.inl (hw _ (List.mem_of_getElem? (i := 50) rfl))) (hw _ (List.mem_of_getElem? (i := 31) rfl)) (ty := .int) (by decide) rfl rfl (g := (mkF m 7 #[rv a1, rv x1] [(.int (mo + (1 : Int32))), (.ref a1)])) rfl rfl (hb hby d10_7)
  have fw5 : Fld Z h5 a1 "java/util/AbstractList" "modCount" "I" (.int (mo + (1 : Int32))) := F_modCount_a1.same W5
  have f5_E_a1 : Exa Z h5 a1 "java/util/ArrayList" := E_a1.wr W5
  have f5_F_elementData_a1 : Fld Z h5 a1 "java/util/ArrayList" "elementData" "[Ljava/lang/Object;" (.ref b) := F_elementData_a1.other W5 (Or.inr (slot_ne (Or.inl (hw _ (List.mem_of_getElem? (i := 53) rfl))) (Or.inl (hw _ (List.mem_of_getElem? (i := 50) rfl))) (by decide) (t := (.array (.object "java/lang/Object"))) (t' := .int) (by decide) (by decide)))
  have f5_F_size_a1 : Fld Z h5 a1 "java/util/ArrayList" "size" "I" (.int (3 : Int32)) := F_size_a1.other W5 (Or.inr (slot_ne (Or.inl (hw _ (List.mem_of_getElem? (i := 62) rfl))) (Or.inl (hw _ (List.mem_of_getElem? (i := 50) rfl))) (by decide) (t := .int) (t' := .int) (by decide) (by decide)))
  have f5_A_b : Arv Z h5 b kb (.object "java/lang/Object") (10 : Int32) [(.ref y0), (.ref y1), (.ref y2), .null, .null, .null, .null, .null, .null, .null] .null := A_b.other W5 (Ne.symm ne_a1_b)
  have f5_E_x1 : Exa Z h5 x1 "java/lang/String" := E_x1.wr W5
  have z5 : n0 ≤ h5.size := by rw [W5.size]; exact Z0
  have K5 : Keep h0 h5 [a1, b] := (Keep.refl h0 [a1, b]).wr W5 (Or.inl (List.mem_of_getElem? (i := 0) rfl))
  have N5 := Fr.snoc X5 N0 g_a1
  have R6 : ∀ t, Steps p.tables e below (T5.setTop (mkF m 10 #[rv a1, rv x1] [])) t → Steps p.tables e below (s₁.setTop f0) t := fun t k => R4 t (st5 t k)
  have R7 : ∀ t, Steps p.tables e below (T5.setTop (mkF m 13 #[rv a1, rv x1] [(.ref a1), (.ref x1), (.ref a1)])) t → Steps p.tables e below (s₁.setTop f0) t := fun t k => R6 t (by
    show Steps p.tables e below (T5.setTop (mkF m 10 #[rv a1, rv x1] [])) _
    refine XS.aloadN X5.here hx rfl (hb hby d10_10) rfl rfl ?_
    show Steps p.tables e below (T5.setTop (mkF m 11 #[rv a1, rv x1] [(.ref a1)])) _
    refine XS.aloadN X5.here hx rfl (hb hby d10_11) rfl rfl ?_
    show Steps p.tables e below (T5.setTop (mkF m 12 #[rv a1, rv x1] [(.ref x1), (.ref a1)])) _
    refine XS.aloadN X5.here hx rfl (hb hby d10_12) rfl rfl ?_
    exact k)
  obtain ⟨T8, X8, e8, st8⟩ := getF X5 hx hZ hown (host := "") (Or.inl (hw _ (List.mem_of_getElem? (i := 52) rfl))) Via.refl e5 f5_F_elementData_a1 (g := (mkF m 13 #[rv a1, rv x1] [(.ref a1), (.ref x1), (.ref a1)])) rfl rfl (hb hby d10_13)
  have R9 : ∀ t, Steps p.tables e below (T8.setTop (mkF m 16 #[rv a1, rv x1] [(.ref b), (.ref x1), (.ref a1)])) t → Steps p.tables e below (s₁.setTop f0) t := fun t k => R7 t (st8 t k)
  have R10 : ∀ t, Steps p.tables e below (T8.setTop (mkF m 17 #[rv a1, rv x1] [(.ref a1), (.ref b), (.ref x1), (.ref a1)])) t → Steps p.tables e below (s₁.setTop f0) t := fun t k => R9 t (by
    show Steps p.tables e below (T8.setTop (mkF m 16 #[rv a1, rv x1] [(.ref b), (.ref x1), (.ref a1)])) _
    refine XS.aloadN X8.here hx rfl (hb hby d10_16) rfl rfl ?_
    exact k)
  obtain ⟨T11, X11, e11, st11⟩ := getF X8 hx hZ hown (host := "") (Or.inl (hw _ (List.mem_of_getElem? (i := 61) rfl))) Via.refl e8 f5_F_size_a1 (g := (mkF m 17 #[rv a1, rv x1] [(.ref a1), (.ref b), (.ref x1), (.ref a1)])) rfl rfl (hb hby d10_17)
  have R12 : ∀ t, Steps p.tables e below (T11.setTop (mkF m 20 #[rv a1, rv x1] [(.int (3 : Int32)), (.ref b), (.ref x1), (.ref a1)])) t → Steps p.tables e below (s₁.setTop f0) t := fun t k => R10 t (st11 t k)
  obtain ⟨cq13, q13, q13'⟩ := f5_E_a1.cell
  obtain ⟨_, _, ⟨T13, L13, k13, n13⟩, -, X13, ⟨Lc13, hQ13, l13, y13, z13⟩, st13⟩ := X11.privateBack hx (y := (⟨"java/util/ArrayList", "add", sN7⟩ : MethodName)) hown (mvT hZ (hw _ (List.mem_of_getElem? (i := 63) rfl))) (mvT hZ (hw _ (List.mem_of_getElem? (i := 64) rfl))) (mvT hZ (hw _ (List.mem_of_getElem? (i := 66) rfl))) (Cond.privateMethod_at (mvP hZ (hw _ (List.mem_of_getElem? (i := 65) rfl)) (args := #[]))) (mvT hZ (hw _ (List.mem_of_getElem? (i := 67) rfl))) (by decide) (backOf (W := 0) (rmAddP3 l Z a0 hw [] a1 (mo + (1 : Int32)) b kb x1 y0 y1 y2 h5 n0 z5 f5_E_a1 fw5 f5_F_elementData_a1 f5_F_size_a1 g_a1 f5_A_b g_b ne_a1_b ovr_b f5_E_x1) hZ (hw _ (List.mem_of_getElem? (i := 67) rfl)) (hw _ (List.mem_of_getElem? (i := 32) rfl)) (by decide) (by decide)) (g := (mkF m 20 #[rv a1, rv x1] [(.int (3 : Int32)), (.ref b), (.ref x1), (.ref a1)])) rfl (by rw [hml]; rfl) (Steps.refl _) (a := a1) (by rw [e11]; exact q13) q13' (argsL := [(.ref x1), (.ref b), (.int (3 : Int32))]) (rest := []) (lenOf pd_13 rfl) rfl (by show 2 * 0 + _ ≤ _; exact Nat.le_of_eq rfl) (hb hby d10_20) (fun _ _ => ⟨rfl, e11, (by decide : 0 + 0 ≤ _), (by decide : 0 + 0 ≤ _)⟩)
  dsimp only [Pt.U, Pt.locs, Pt.cells, Pt.slots] at X13 l13 y13 z13 st13 hQ13
  subst l13 y13 z13
  obtain ⟨rfl, N13q, p13_0, p13_1, p13_2, p13_3, p13_4⟩ := hQ13
  have N13 := Fr.app N5 N13q
  have f13_E_a1 : Exa Z T13.heap a1 "java/util/ArrayList" := f5_E_a1.keep p13_0
  have f13_E_x1 : Exa Z T13.heap x1 "java/lang/String" := f5_E_x1.keep p13_0
  have z13 : n0 ≤ T13.heap.size := Nat.le_trans z5 p13_0.1
  have K13 : Keep h0 T13.heap [a1, b] := K5.trans p13_0 (allS (Or.inl (List.mem_of_getElem? (i := 0) rfl)) (allS (Or.inl (List.mem_of_getElem? (i := 1) rfl)) all0))
  have R14 : ∀ t, Steps p.tables e below (T13.setTop (mkF m 23 #[rv a1, rv x1] [])) t → Steps p.tables e below (s₁.setTop f0) t := fun t k => R12 t (st13.trans k)
  have R15 : ∀ t, Steps p.tables e below (T13.setTop (mkF m 24 #[rv a1, rv x1] [(.int (1 : Int32))])) t → Steps p.tables e below (s₁.setTop f0) t := fun t k => R14 t (by
    show Steps p.tables e below (T13.setTop (mkF m 23 #[rv a1, rv x1] [])) _
    refine XS.iconst X13.here hx rfl (hb hby d10_23) ?_
    exact k)
  obtain ⟨fs, hr, hrun, hended, hW, hsame⟩ := X13.leave (v := some (.int (1 : Int32))) (fun h => by rw [Bd.returns] at h; cases h)
  refine ⟨_, _, pre0 _ (R15 _ ?_), hrun, hended, _, _, rfl, ?_, ⟨_, rfl⟩, hW, hsame.mono (by decide) (by decide)⟩
  · show Steps p.tables e below (T13.setTop (mkF m 24 #[rv a1, rv x1] [(.int (1 : Int32))])) _
    exact retN X13 hx (t := .boolean) Bd.returns (by simp) (hb hby d10_24) hr
  · show Q_rmAdd3 Z a1 mo b kb x1 y0 y1 y2 h0 n0 _ T13.heap _
    exact ⟨rfl, N13, K13, p13_1, p13_2, p13_3, p13_4⟩
theorem ef_rmPre0 (m : MethodId) (x0 : Int32) (x1 : Int32) : entryFrame m #[(.int x0), (.int x1), .null] 3 = mkF m 0 #[iv x0, iv x1, .val .null] [] := by first | (simp [entryFrame, mkF, argsToLocals, Value.category]; done) | rfl
def Q_rmPre0 (Z : State)  (h0 : Heap) (n0 : Nat) (v : Option Value) (h : Heap) (L : List Loc) : Prop := v = some (.int (0 : Int32)) ∧ Fr n0 L ∧ h = h0
set_option maxRecDepth 65536 in
set_option maxHeartbeats 40000000 in
theorem rmPre0 (l : Launch) (Z : State) (a0 : Array Value) (hw : ∀ d ∈ tables_1, d.before a0 Z = true) (ws : List Jvm.Cond)  (h0 : Heap) (n0 : Nat) (Z0 : n0 ≤ h0.size) :
    MetFree l (⟨sN8, "checkIndex", sN9⟩ : MethodName) (head1 (Jvm.Cond.code (⟨sN8, "checkIndex", sN9⟩ : MethodName) jdk_41_method_11_code 3 (some .int) :: ws) ({ frames := 0, cells := 0, slots := 0, locals := 0 } : Room)) (fun a U => a = #[(.int (0 : Int32)), (.int (4 : Int32)), .null] ∧ Z.Warmed39 U.vm ∧ U.heap = h0) (fun _ _ _ _ _ => True) (fun _ U o U' => ∃ v L, o = .returned v ∧ Q_rmPre0 Z  h0 n0 v U'.heap L ∧ FrameEnd U o U' L ({ frames := 0, cells := 0, slots := 0, locals := 0 } : Room).cells ({ frames := 0, cells := 0, slots := 0, locals := 0 } : Room).slots) := by
  refine MetFree.of_bodySF (plainFor_of_name pn_14) hisR ?_
  intro p e s m args below meth c s₁ Bd hml0 hP hK
  obtain ⟨rfl, hZ, hh⟩ := hP
  have hx := Bd.exec
  have hby := Bd.bytes
  have hml : c.maxLocals = 3 := hml0
  have hown : s.vm.findClass sN8 = some m.cls := findClass_of_methodNamed Bd.named
  have hnm := (name_of_methodNamed Bd.named Bd.method).1
  have X0 : Stand p l e ({ frames := 0, cells := 0, slots := 0, locals := 0 } : Room) s m #[(.int (0 : Int32)), (.int (4 : Int32)), .null] below meth c s₁ [] 0 0 := Stand.of_body Bd
  have e0 : s₁.heap = h0 := by rw [← hh, Bd.state]; rfl
  have N0 := Fr.nil n0
  obtain ⟨f0, hf0⟩ : ∃ f : JFrame, f = mkF m 0 #[iv (0 : Int32), iv (4 : Int32), .val .null] [] := ⟨_, rfl⟩
  have pre0 : ∀ t, Steps p.tables e below (s₁.setTop f0) t → Steps p.tables e below (s₁.setTop (entryFrame m #[(.int (0 : Int32)), (.int (4 : Int32)), .null] 3)) t := fun t k => castTop ((ef_rmPre0 m (0 : Int32) (4 : Int32)).trans hf0.symm) k
  have R0 : ∀ t, Steps p.tables e below (s₁.setTop (mkF m 0 #[iv (0 : Int32), iv (4 : Int32), .val .null] [])) t → Steps p.tables e below (s₁.setTop f0) t := by rw [hf0]; exact fun t k => k
  have R1 : ∀ t, Steps p.tables e below (s₁.setTop (mkF m 17 #[iv (0 : Int32), iv (4 : Int32), .val .null] [(.int (0 : Int32))])) t → Steps p.tables e below (s₁.setTop f0) t := fun t k => R0 t (by
    show Steps p.tables e below (s₁.setTop (mkF m 0 #[iv (0 : Int32), iv (4 : Int32), .val .null] [])) _
    refine XS.iloadN X0.here hx rfl (hb hby d19_0) rfl  ?_
    show Steps p.tables e below (s₁.setTop (mkF m 1 #[iv (0 : Int32), iv (4 : Int32), .val .null] [(.int (0 : Int32))])) _
    refine XS.ifNo X0.here hx rfl (hb hby d19_1) rfl ((if0 _ _).trans (flt (by decide : ¬ ((0 : Int32) < (0 : Int32)))).1) ?_
    show Steps p.tables e below (s₁.setTop (mkF m 4 #[iv (0 : Int32), iv (4 : Int32), .val .null] [])) _
    refine XS.iloadN X0.here hx rfl (hb hby d19_4) rfl  ?_
    show Steps p.tables e below (s₁.setTop (mkF m 5 #[iv (0 : Int32), iv (4 : Int32), .val .null] [(.int (0 : Int32))])) _
    refine XS.iloadN X0.here hx rfl (hb hby d19_5) rfl  ?_
    show Steps p.tables e below (s₁.setTop (mkF m 6 #[iv (0 : Int32), iv (4 : Int32), .val .null] [(.int (4 : Int32)), (.int (0 : Int32))])) _
    refine XS.icmpYes X0.here hx rfl (pc0 := 6) (pc' := 16) rfl (hb hby d19_6) rfl (tlt (by decide : (0 : Int32) < (4 : Int32))).1 (by decide) (by decide) ?_
    show Steps p.tables e below (s₁.setTop (mkF m 16 #[iv (0 : Int32), iv (4 : Int32), .val .null] [])) _
    refine XS.iloadN X0.here hx rfl (hb hby d19_16) rfl  ?_
    exact k)
  obtain ⟨fs, hr, hrun, hended, hW, hsame⟩ := X0.leave (v := some (.int (0 : Int32))) (fun h => by rw [Bd.returns] at h; cases h)
  refine ⟨_, _, pre0 _ (R1 _ ?_), hrun, hended, _, _, rfl, ?_, ⟨_, rfl⟩, hW, hsame.mono (by decide) (by decide)⟩
  · show Steps p.tables e below (s₁.setTop (mkF m 17 #[iv (0 : Int32), iv (4 : Int32), .val .null] [(.int (0 : Int32))])) _
    exact retI X0 hx Bd.returns (hb hby d19_17) hr
  · show Q_rmPre0 Z  h0 n0 _ s₁.heap _
    rw [e0]
    exact ⟨rfl, N0, rfl⟩
theorem ef_rmObChk0 (m : MethodId) (x0 : Int32) (x1 : Int32) : entryFrame m #[(.int x0), (.int x1)] 2 = mkF m 0 #[iv x0, iv x1] [] := by first | (simp [entryFrame, mkF, argsToLocals, Value.category]; done) | rfl
def Q_rmObChk0 (Z : State)  (h0 : Heap) (n0 : Nat) (v : Option Value) (h : Heap) (L : List Loc) : Prop := v = some (.int (0 : Int32)) ∧ Fr n0 L ∧ h = h0
set_option maxRecDepth 65536 in
set_option maxHeartbeats 40000000 in
theorem rmObChk0 (l : Launch) (Z : State) (a0 : Array Value) (hw : ∀ d ∈ tables_1, d.before a0 Z = true) (ws : List Jvm.Cond)  (h0 : Heap) (n0 : Nat) (Z0 : n0 ≤ h0.size) :
    MetFree l (⟨"java/util/Objects", "checkIndex", "(II)I"⟩ : MethodName) (head1 (Jvm.Cond.code (⟨"java/util/Objects", "checkIndex", "(II)I"⟩ : MethodName) jdk_31_method_17_code 2 (some .int) :: ws) ({ frames := 1, cells := 0, slots := 0, locals := 14 } : Room)) (fun a U => a = #[(.int (0 : Int32)), (.int (4 : Int32))] ∧ Z.Warmed39 U.vm ∧ U.heap = h0) (fun _ _ _ _ _ => True) (fun _ U o U' => ∃ v L, o = .returned v ∧ Q_rmObChk0 Z  h0 n0 v U'.heap L ∧ FrameEnd U o U' L ({ frames := 1, cells := 0, slots := 0, locals := 14 } : Room).cells ({ frames := 1, cells := 0, slots := 0, locals := 14 } : Room).slots) := by
  refine MetFree.of_bodySF (plainFor_of_name pn_15) hisR ?_
  intro p e s m args below meth c s₁ Bd hml0 hP hK
  obtain ⟨rfl, hZ, hh⟩ := hP
  have hx := Bd.exec
  have hby := Bd.bytes
  have hml : c.maxLocals = 2 := hml0
  have hown : s.vm.findClass "java/util/Objects" = some m.cls := findClass_of_methodNamed Bd.named
  have hnm := (name_of_methodNamed Bd.named Bd.method).1
  have X0 : Stand p l e ({ frames := 1, cells := 0, slots := 0, locals := 14 } : Room) s m #[(.int (0 : Int32)), (.int (4 : Int32))] below meth c s₁ [] 0 0 := Stand.of_body Bd
  have e0 : s₁.heap = h0 := by rw [← hh, Bd.state]; rfl
  have N0 := Fr.nil n0
  obtain ⟨f0, hf0⟩ : ∃ f : JFrame, f = mkF m 0 #[iv (0 : Int32), iv (4 : Int32)] [] := ⟨_, rfl⟩
  have pre0 : ∀ t, Steps p.tables e below (s₁.setTop f0) t → Steps p.tables e below (s₁.setTop (entryFrame m #[(.int (0 : Int32)), (.int (4 : Int32))] 2)) t := fun t k => castTop ((ef_rmObChk0 m (0 : Int32) (4 : Int32)).trans hf0.symm) k
  have R0 : ∀ t, Steps p.tables e below (s₁.setTop (mkF m 0 #[iv (0 : Int32), iv (4 : Int32)] [])) t → Steps p.tables e below (s₁.setTop f0) t := by rw [hf0]; exact fun t k => k
  have R1 : ∀ t, Steps p.tables e below (s₁.setTop (mkF m 3 #[iv (0 : Int32), iv (4 : Int32)] [.null, (.int (4 : Int32)), (.int (0 : Int32))])) t → Steps p.tables e below (s₁.setTop f0) t := fun t k => R0 t (by
    show Steps p.tables e below (s₁.setTop (mkF m 0 #[iv (0 : Int32), iv (4 : Int32)] [])) _
    refine XS.iloadN X0.here hx rfl (hb hby d18_0) rfl  ?_
    show Steps p.tables e below (s₁.setTop (mkF m 1 #[iv (0 : Int32), iv (4 : Int32)] [(.int (0 : Int32))])) _
    refine XS.iloadN X0.here hx rfl (hb hby d18_1) rfl  ?_
    show Steps p.tables e below (s₁.setTop (mkF m 2 #[iv (0 : Int32), iv (4 : Int32)] [(.int (4 : Int32)), (.int (0 : Int32))])) _
    refine XS.aconstNull X0.here hx rfl (hb hby d18_2) ?_
    exact k)
  obtain ⟨_, _, ⟨T2, L2, k2, n2⟩, -, X2, ⟨Lc2, hQ2, l2, y2, z2⟩, st2⟩ := Jvm.LawKit.callS X0 hx (y := (⟨sN8, "checkIndex", sN9⟩ : MethodName)) hown (mvT hZ (hw _ (List.mem_of_getElem? (i := 116) rfl))) (mvT hZ (hw _ (List.mem_of_getElem? (i := 117) rfl))) (mvT hZ (hw _ (List.mem_of_getElem? (i := 118) rfl))) (mvT hZ (hw _ (List.mem_of_getElem? (i := 119) rfl))) (by decide) (backOf (W := 0) (rmPre0 l Z a0 hw []  h0 n0 Z0) hZ (hw _ (List.mem_of_getElem? (i := 119) rfl)) (hw _ (List.mem_of_getElem? (i := 118) rfl)) (by decide) (by decide)) (g := (mkF m 3 #[iv (0 : Int32), iv (4 : Int32)] [.null, (.int (4 : Int32)), (.int (0 : Int32))])) rfl (by rw [hml]; rfl) (argsL := [(.int (0 : Int32)), (.int (4 : Int32)), .null]) (rest := []) (lenOf pd_16 rfl) rfl (by show 2 * 0 + _ ≤ _; exact Nat.le_of_eq rfl) (hb hby d18_3) (fun _ _ => ⟨rfl, e0, (by decide : 0 + 0 ≤ _), (by decide : 0 + 0 ≤ _)⟩)
  dsimp only [Pt.U, Pt.locs, Pt.cells, Pt.slots] at X2 l2 y2 z2 st2 hQ2
  subst l2 y2 z2
  obtain ⟨rfl, N2q, p2_0⟩ := hQ2
  have N2 := Fr.app N0 N2q
  have R3 : ∀ t, Steps p.tables e below (T2.setTop (mkF m 6 #[iv (0 : Int32), iv (4 : Int32)] [(.int (0 : Int32))])) t → Steps p.tables e below (s₁.setTop f0) t := fun t k => R1 t (st2 t k)
  obtain ⟨fs, hr, hrun, hended, hW, hsame⟩ := X2.leave (v := some (.int (0 : Int32))) (fun h => by rw [Bd.returns] at h; cases h)
  refine ⟨_, _, pre0 _ (R3 _ ?_), hrun, hended, _, _, rfl, ?_, ⟨_, rfl⟩, hW, hsame.mono (by decide) (by decide)⟩
  · show Steps p.tables e below (T2.setTop (mkF m 6 #[iv (0 : Int32), iv (4 : Int32)] [(.int (0 : Int32))])) _
    exact retI X2 hx Bd.returns (hb hby d18_6) hr
  · show Q_rmObChk0 Z  h0 n0 _ T2.heap _
    rw [p2_0]
    exact ⟨rfl, N2, rfl⟩
theorem ef_rmEld0 (m : MethodId) (x0 : Addr) (x1 : Int32) : entryFrame m #[(.ref x0), (.int x1)] 2 = mkF m 0 #[rv x0, iv x1] [] := by first | (simp [entryFrame, mkF, argsToLocals, Value.category]; done) | rfl
def Q_rmEld0 (Z : State) (a1 : Addr) (b : Addr) (kb : ClassId) (y0 : Addr) (y1 : Addr) (y2 : Addr) (y3 : Addr) (h0 : Heap) (n0 : Nat) (v : Option Value) (h : Heap) (L : List Loc) : Prop := v = some (.ref y0) ∧ Fr n0 L ∧ h = h0
set_option maxRecDepth 65536 in
set_option maxHeartbeats 40000000 in
theorem rmEld0 (l : Launch) (Z : State) (a0 : Array Value) (hw : ∀ d ∈ tables_1, d.before a0 Z = true) (ws : List Jvm.Cond) (a1 : Addr) (b : Addr) (kb : ClassId) (y0 : Addr) (y1 : Addr) (y2 : Addr) (y3 : Addr) (h0 : Heap) (n0 : Nat) (Z0 : n0 ≤ h0.size) (E_a1 : Exa Z h0 a1 "java/util/ArrayList") (F_elementData_a1 : Fld Z h0 a1 "java/util/ArrayList" "elementData" "[Ljava/lang/Object;" (.ref b)) (F_size_a1 : Fld Z h0 a1 "java/util/ArrayList" "size" "I" (.int (4 : Int32))) (A_b : Arv Z h0 b kb (.object "java/lang/Object") (10 : Int32) [(.ref y0), (.ref y1), (.ref y2), (.ref y3), .null, .null, .null, .null, .null, .null] .null) :
    MetFree l (⟨"java/util/ArrayList", "elementData", "(I)Ljava/lang/Object;"⟩ : MethodName) (head1 (Jvm.Cond.code (⟨"java/util/ArrayList", "elementData", "(I)Ljava/lang/Object;"⟩ : MethodName) jdk_38_method_18_code 2 (some (.object "java/lang/Object")) :: ws) ({ frames := 0, cells := 0, slots := 0, locals := 0 } : Room)) (fun a U => a = #[(.ref a1), (.int (0 : Int32))] ∧ Z.Warmed39 U.vm ∧ U.heap = h0) (fun _ _ _ _ _ => True) (fun _ U o U' => ∃ v L, o = .returned v ∧ Q_rmEld0 Z a1 b kb y0 y1 y2 y3 h0 n0 v U'.heap L ∧ FrameEnd U o U' L ({ frames := 0, cells := 0, slots := 0, locals := 0 } : Room).cells ({ frames := 0, cells := 0, slots := 0, locals := 0 } : Room).slots) := by
  refine MetFree.of_bodySF (plainFor_of_name pn_9) hisR ?_
  intro p e s m args below meth c s₁ Bd hml0 hP hK
  obtain ⟨rfl, hZ, hh⟩ := hP
  have hx := Bd.exec
  have hby := Bd.bytes
  have hml : c.maxLocals = 2 := hml0
  have hown : s.vm.findClass "java/util/ArrayList" = some m.cls := findClass_of_methodNamed Bd.named
  have hnm := (name_of_methodNamed Bd.named Bd.method).1
  have X0 : Stand p l e ({ frames := 0, cells := 0, slots := 0, locals := 0 } : Room) s m #[(.ref a1), (.int (0 : Int32))] below meth c s₁ [] 0 0 := Stand.of_body Bd
  have e0 : s₁.heap = h0 := by rw [← hh, Bd.state]; rfl
  have N0 := Fr.nil n0
  obtain ⟨f0, hf0⟩ : ∃ f : JFrame, f = mkF m 0 #[rv a1, iv (0 : Int32)] [] := ⟨_, rfl⟩
  have pre0 : ∀ t, Steps p.tables e below (s₁.setTop f0) t → Steps p.tables e below (s₁.setTop (entryFrame m #[(.ref a1), (.int (0 : Int32))] 2)) t := fun t k => castTop ((ef_rmEld0 m a1 (0 : Int32)).trans hf0.symm) k
  have R0 : ∀ t, Steps p.tables e below (s₁.setTop (mkF m 0 #[rv a1, iv (0 : Int32)] [])) t → Steps p.tables e below (s₁.setTop f0) t := by rw [hf0]; exact fun t k => k
  have R1 : ∀ t, Steps p.tables e below (s₁.setTop (mkF m 1 #[rv a1, iv (0 : Int32)] [(.ref a1)])) t → Steps p.tables e below (s₁.setTop f0) t := fun t k => R0 t (by
    show Steps p.tables e below (s₁.setTop (mkF m 0 #[rv a1, iv (0 : Int32)] [])) _
    refine XS.aloadN X0.here hx rfl (hb hby d20_0) rfl rfl ?_
    exact k)
  obtain ⟨T2, X2, e2, st2⟩ := getF X0 hx hZ hown (host := "") (Or.inl (hw _ (List.mem_of_getElem? (i := 52) rfl))) Via.refl e0 F_elementData_a1 (g := (mkF m 1 #[rv a1, iv (0 : Int32)] [(.ref a1)])) rfl rfl (hb hby d20_1)
  have R3 : ∀ t, Steps p.tables e below (T2.setTop (mkF m 4 #[rv a1, iv (0 : Int32)] [(.ref b)])) t → Steps p.tables e below (s₁.setTop f0) t := fun t k => R1 t (st2 t k)
  have R4 : ∀ t, Steps p.tables e below (T2.setTop (mkF m 5 #[rv a1, iv (0 : Int32)] [(.int (0 : Int32)), (.ref b)])) t → Steps p.tables e below (s₁.setTop f0) t := fun t k => R3 t (by
    show Steps p.tables e below (T2.setTop (mkF m 4 #[rv a1, iv (0 : Int32)] [(.ref b)])) _
    refine XS.iloadN X2.here hx rfl (hb hby d20_4) rfl  ?_
    exact k)
  obtain ⟨cl5, Ar5, q5, S5, n5_, H5, G5⟩ := id A_b
  have hin5 : ¬ ((0 : Int32) < 0 ∨ cl5.slots.size ≤ ((0 : Int32)).toNatClampNeg) := inb_of S5 ⟨by decide, by decide⟩
  have hat5 : cl5.slots[((0 : Int32)).toNatClampNeg]? = some (.ref y0) := Has.at H5 hin5 rfl
  have R6 : ∀ t, Steps p.tables e below (T2.setTop (mkF m 6 #[rv a1, iv (0 : Int32)] [(.ref y0)])) t → Steps p.tables e below (s₁.setTop f0) t := fun t k => R4 t (X2.aaload hx (j := (0 : Int32)) (v := (.ref y0)) (by rw [e2]; exact Ar5.1) (State.isArrayOf_alike hZ.alike Ar5.2.1) rfl Ar5.2.2 hin5 hat5 (g := (mkF m 5 #[rv a1, iv (0 : Int32)] [(.int (0 : Int32)), (.ref b)])) rfl rfl (hb hby d20_5) _ k)
  obtain ⟨fs, hr, hrun, hended, hW, hsame⟩ := X2.leave (v := some (.ref y0)) (fun h => by rw [Bd.returns] at h; cases h)
  refine ⟨_, _, pre0 _ (R6 _ ?_), hrun, hended, _, _, rfl, ?_, ⟨_, rfl⟩, hW, hsame.mono (by decide) (by decide)⟩
  · show Steps p.tables e below (T2.setTop (mkF m 6 #[rv a1, iv (0 : Int32)] [(.ref y0)])) _
    exact retOut X2 hx (t := (.object "java/lang/Object")) Bd.returns rfl (Or.inr (Or.inr (Or.inr (Or.inr ⟨rfl, rfl, rfl⟩)))) (hb hby d20_6) hr
  · show Q_rmEld0 Z a1 b kb y0 y1 y2 y3 h0 n0 _ T2.heap _
    rw [e2]
    exact ⟨rfl, N0, rfl⟩
theorem ef_rmGet0 (m : MethodId) (x0 : Addr) (x1 : Int32) : entryFrame m #[(.ref x0), (.int x1)] 2 = mkF m 0 #[rv x0, iv x1] [] := by first | (simp [entryFrame, mkF, argsToLocals, Value.category]; done) | rfl
def Q_rmGet0 (Z : State) (a1 : Addr) (b : Addr) (kb : ClassId) (y0 : Addr) (y1 : Addr) (y2 : Addr) (y3 : Addr) (h0 : Heap) (n0 : Nat) (v : Option Value) (h : Heap) (L : List Loc) : Prop := v = some (.ref y0) ∧ Fr n0 L ∧ h = h0
set_option maxRecDepth 65536 in
set_option maxHeartbeats 40000000 in
theorem rmGet0 (l : Launch) (Z : State) (a0 : Array Value) (hw : ∀ d ∈ tables_1, d.before a0 Z = true) (ws : List Jvm.Cond) (a1 : Addr) (b : Addr) (kb : ClassId) (y0 : Addr) (y1 : Addr) (y2 : Addr) (y3 : Addr) (h0 : Heap) (n0 : Nat) (Z0 : n0 ≤ h0.size) (E_a1 : Exa Z h0 a1 "java/util/ArrayList") (F_elementData_a1 : Fld Z h0 a1 "java/util/ArrayList" "elementData" "[Ljava/lang/Object;" (.ref b)) (F_size_a1 : Fld Z h0 a1 "java/util/ArrayList" "size" "I" (.int (4 : Int32))) (A_b : Arv Z h0 b kb (.object "java/lang/Object") (10 : Int32) [(.ref y0), (.ref y1), (.ref y2), (.ref y3), .null, .null, .null, .null, .null, .null] .null) :
    MetFree l (⟨"java/util/ArrayList", "get", "(I)Ljava/lang/Object;"⟩ : MethodName) (head1 (Jvm.Cond.code (⟨"java/util/ArrayList", "get", "(I)Ljava/lang/Object;"⟩ : MethodName) jdk_38_method_20_code 2 (some (.object "java/lang/Object")) :: ws) ({ frames := 2, cells := 0, slots := 0, locals := 27 } : Room)) (fun a U => a = #[(.ref a1), (.int (0 : Int32))] ∧ Z.Warmed39 U.vm ∧ U.heap = h0) (fun _ _ _ _ _ => True) (fun _ U o U' => ∃ v L, o = .returned v ∧ Q_rmGet0 Z a1 b kb y0 y1 y2 y3 h0 n0 v U'.heap L ∧ FrameEnd U o U' L ({ frames := 2, cells := 0, slots := 0, locals := 27 } : Room).cells ({ frames := 2, cells := 0, slots := 0, locals := 27 } : Room).slots) := by
  refine MetFree.of_bodySF (plainFor_of_name pn_9) hisR ?_
  intro p e s m args below meth c s₁ Bd hml0 hP hK
  obtain ⟨rfl, hZ, hh⟩ := hP
  have hx := Bd.exec
  have hby := Bd.bytes
  have hml : c.maxLocals = 2 := hml0
  have hown : s.vm.findClass "java/util/ArrayList" = some m.cls := findClass_of_methodNamed Bd.named
  have hnm := (name_of_methodNamed Bd.named Bd.method).1
  have X0 : Stand p l e ({ frames := 2, cells := 0, slots := 0, locals := 27 } : Room) s m #[(.ref a1), (.int (0 : Int32))] below meth c s₁ [] 0 0 := Stand.of_body Bd
  have e0 : s₁.heap = h0 := by rw [← hh, Bd.state]; rfl
  have N0 := Fr.nil n0
  obtain ⟨f0, hf0⟩ : ∃ f : JFrame, f = mkF m 0 #[rv a1, iv (0 : Int32)] [] := ⟨_, rfl⟩
  have pre0 : ∀ t, Steps p.tables e below (s₁.setTop f0) t → Steps p.tables e below (s₁.setTop (entryFrame m #[(.ref a1), (.int (0 : Int32))] 2)) t := fun t k => castTop ((ef_rmGet0 m a1 (0 : Int32)).trans hf0.symm) k
  have R0 : ∀ t, Steps p.tables e below (s₁.setTop (mkF m 0 #[rv a1, iv (0 : Int32)] [])) t → Steps p.tables e below (s₁.setTop f0) t := by rw [hf0]; exact fun t k => k
  have R1 : ∀ t, Steps p.tables e below (s₁.setTop (mkF m 2 #[rv a1, iv (0 : Int32)] [(.ref a1), (.int (0 : Int32))])) t → Steps p.tables e below (s₁.setTop f0) t := fun t k => R0 t (by
    show Steps p.tables e below (s₁.setTop (mkF m 0 #[rv a1, iv (0 : Int32)] [])) _
    refine XS.iloadN X0.here hx rfl (hb hby d17_0) rfl  ?_
    show Steps p.tables e below (s₁.setTop (mkF m 1 #[rv a1, iv (0 : Int32)] [(.int (0 : Int32))])) _
    refine XS.aloadN X0.here hx rfl (hb hby d17_1) rfl rfl ?_
    exact k)
  obtain ⟨T2, X2, e2, st2⟩ := getF X0 hx hZ hown (host := "") (Or.inl (hw _ (List.mem_of_getElem? (i := 61) rfl))) Via.refl e0 F_size_a1 (g := (mkF m 2 #[rv a1, iv (0 : Int32)] [(.ref a1), (.int (0 : Int32))])) rfl rfl (hb hby d17_2)
  have R3 : ∀ t, Steps p.tables e below (T2.setTop (mkF m 5 #[rv a1, iv (0 : Int32)] [(.int (4 : Int32)), (.int (0 : Int32))])) t → Steps p.tables e below (s₁.setTop f0) t := fun t k => R1 t (st2 t k)
  obtain ⟨_, _, ⟨T4, L4, k4, n4⟩, -, X4, ⟨Lc4, hQ4, l4, y4, z4⟩, st4⟩ := Jvm.LawKit.callS X2 hx (y := (⟨"java/util/Objects", "checkIndex", "(II)I"⟩ : MethodName)) hown (mvT hZ (hw _ (List.mem_of_getElem? (i := 112) rfl))) (mvT hZ (hw _ (List.mem_of_getElem? (i := 113) rfl))) (mvT hZ (hw _ (List.mem_of_getElem? (i := 114) rfl))) (mvT hZ (hw _ (List.mem_of_getElem? (i := 115) rfl))) (by decide) (backOf (W := 0) (rmObChk0 l Z a0 hw []  h0 n0 Z0) hZ (hw _ (List.mem_of_getElem? (i := 115) rfl)) (hw _ (List.mem_of_getElem? (i := 114) rfl)) (by decide) (by decide)) (g := (mkF m 5 #[rv a1, iv (0 : Int32)] [(.int (4 : Int32)), (.int (0 : Int32))])) rfl (by rw [hml]; rfl) (argsL := [(.int (0 : Int32)), (.int (4 : Int32))]) (rest := []) (lenOf pd_10 rfl) rfl (by show 2 * 0 + _ ≤ _; exact Nat.le_of_eq rfl) (hb hby d17_5) (fun _ _ => ⟨rfl, e2, (by decide : 0 + 0 ≤ _), (by decide : 0 + 0 ≤ _)⟩)
  dsimp only [Pt.U, Pt.locs, Pt.cells, Pt.slots] at X4 l4 y4 z4 st4 hQ4
  subst l4 y4 z4
  obtain ⟨rfl, N4q, p4_0⟩ := hQ4
  have N4 := Fr.app N0 N4q
  have R5 : ∀ t, Steps p.tables e below (T4.setTop (mkF m 8 #[rv a1, iv (0 : Int32)] [(.int (0 : Int32))])) t → Steps p.tables e below (s₁.setTop f0) t := fun t k => R3 t (st4 t k)
  have R6 : ∀ t, Steps p.tables e below (T4.setTop (mkF m 11 #[rv a1, iv (0 : Int32)] [(.int (0 : Int32)), (.ref a1)])) t → Steps p.tables e below (s₁.setTop f0) t := fun t k => R5 t (by
    show Steps p.tables e below (T4.setTop (mkF m 8 #[rv a1, iv (0 : Int32)] [(.int (0 : Int32))])) _
    refine XS.pop X4.here hx rfl (hb hby d17_8) rfl rfl ?_
    show Steps p.tables e below (T4.setTop (mkF m 9 #[rv a1, iv (0 : Int32)] [])) _
    refine XS.aloadN X4.here hx rfl (hb hby d17_9) rfl rfl ?_
    show Steps p.tables e below (T4.setTop (mkF m 10 #[rv a1, iv (0 : Int32)] [(.ref a1)])) _
    refine XS.iloadN X4.here hx rfl (hb hby d17_10) rfl  ?_
    exact k)
  obtain ⟨cq7, kq7, q7a, q7b, q7c⟩ := isOf hZ p4_0 E_a1
  obtain ⟨_, _, ⟨T7, L7, k7, n7⟩, -, X7, ⟨Lc7, hQ7, l7, y7, z7⟩, st7⟩ := X4.virtualBack hx (y := (⟨"java/util/ArrayList", "elementData", "(I)Ljava/lang/Object;"⟩ : MethodName)) (z := (⟨"java/util/ArrayList", "elementData", "(I)Ljava/lang/Object;"⟩ : MethodName)) hown (mvT hZ (hw _ (List.mem_of_getElem? (i := 120) rfl))) (mvT hZ (hw _ (List.mem_of_getElem? (i := 121) rfl))) (notFace_of_selects (args := #[]) (mvT hZ (hw _ (List.mem_of_getElem? (i := 123) rfl)))) (mvT hZ (hw _ (List.mem_of_getElem? (i := 123) rfl))) (mvT hZ (hw _ (List.mem_of_getElem? (i := 122) rfl))) (by decide) (backOf (W := 0) (rmEld0 l Z a0 hw [] a1 b kb y0 y1 y2 y3 h0 n0 Z0 E_a1 F_elementData_a1 F_size_a1 A_b) hZ (hw _ (List.mem_of_getElem? (i := 124) rfl)) (hw _ (List.mem_of_getElem? (i := 32) rfl)) (by decide) (by decide)) q7a q7c (g := (mkF m 11 #[rv a1, iv (0 : Int32)] [(.int (0 : Int32)), (.ref a1)])) rfl (by rw [hml]; rfl) (Steps.refl _) (argsL := [(.int (0 : Int32))]) (rest := []) (lenOf pd_17 rfl) rfl (by show 2 * 0 + _ ≤ _; exact Nat.le_of_eq rfl) (hb hby d17_11) (fun _ _ => ⟨rfl, p4_0, (by decide : 0 + 0 ≤ _), (by decide : 0 + 0 ≤ _)⟩)
  dsimp only [Pt.U, Pt.locs, Pt.cells, Pt.slots] at X7 l7 y7 z7 st7 hQ7
  subst l7 y7 z7
  obtain ⟨rfl, N7q, p7_0⟩ := hQ7
  have N7 := Fr.app N4 N7q
  have R8 : ∀ t, Steps p.tables e below (T7.setTop (mkF m 14 #[rv a1, iv (0 : Int32)] [(.ref y0)])) t → Steps p.tables e below (s₁.setTop f0) t := fun t k => R6 t (st7.trans k)
  obtain ⟨fs, hr, hrun, hended, hW, hsame⟩ := X7.leave (v := some (.ref y0)) (fun h => by rw [Bd.returns] at h; cases h)
  refine ⟨_, _, pre0 _ (R8 _ ?_), hrun, hended, _, _, rfl, ?_, ⟨_, rfl⟩, hW, hsame.mono (by decide) (by decide)⟩
  · show Steps p.tables e below (T7.setTop (mkF m 14 #[rv a1, iv (0 : Int32)] [(.ref y0)])) _
    exact retOut X7 hx (t := (.object "java/lang/Object")) Bd.returns rfl (Or.inr (Or.inr (Or.inr (Or.inr ⟨rfl, rfl, rfl⟩)))) (hb hby d17_14) hr
  · show Q_rmGet0 Z a1 b kb y0 y1 y2 y3 h0 n0 _ T7.heap _
    rw [p7_0]
    exact ⟨rfl, N7, rfl⟩
theorem ef_rmPre1 (m : MethodId) (x0 : Int32) (x1 : Int32) : entryFrame m #[(.int x0), (.int x1), .null] 3 = mkF m 0 #[iv x0, iv x1, .val .null] [] := by first | (simp [entryFrame, mkF, argsToLocals, Value.category]; done) | rfl
def Q_rmPre1 (Z : State)  (h0 : Heap) (n0 : Nat) (v : Option Value) (h : Heap) (L : List Loc) : Prop := v = some (.int (1 : Int32)) ∧ Fr n0 L ∧ h = h0
set_option maxRecDepth 65536 in
set_option maxHeartbeats 40000000 in
theorem rmPre1 (l : Launch) (Z : State) (a0 : Array Value) (hw : ∀ d ∈ tables_1, d.before a0 Z = true) (ws : List Jvm.Cond)  (h0 : Heap) (n0 : Nat) (Z0 : n0 ≤ h0.size) :
    MetFree l (⟨sN8, "checkIndex", sN9⟩ : MethodName) (head1 (Jvm.Cond.code (⟨sN8, "checkIndex", sN9⟩ : MethodName) jdk_41_method_11_code 3 (some .int) :: ws) ({ frames := 0, cells := 0, slots := 0, locals := 0 } : Room)) (fun a U => a = #[(.int (1 : Int32)), (.int (4 : Int32)), .null] ∧ Z.Warmed39 U.vm ∧ U.heap = h0) (fun _ _ _ _ _ => True) (fun _ U o U' => ∃ v L, o = .returned v ∧ Q_rmPre1 Z  h0 n0 v U'.heap L ∧ FrameEnd U o U' L ({ frames := 0, cells := 0, slots := 0, locals := 0 } : Room).cells ({ frames := 0, cells := 0, slots := 0, locals := 0 } : Room).slots) := by
  refine MetFree.of_bodySF (plainFor_of_name pn_14) hisR ?_
  intro p e s m args below meth c s₁ Bd hml0 hP hK
  obtain ⟨rfl, hZ, hh⟩ := hP
  have hx := Bd.exec
  have hby := Bd.bytes
  have hml : c.maxLocals = 3 := hml0
  have hown : s.vm.findClass sN8 = some m.cls := findClass_of_methodNamed Bd.named
  have hnm := (name_of_methodNamed Bd.named Bd.method).1
  have X0 : Stand p l e ({ frames := 0, cells := 0, slots := 0, locals := 0 } : Room) s m #[(.int (1 : Int32)), (.int (4 : Int32)), .null] below meth c s₁ [] 0 0 := Stand.of_body Bd
  have e0 : s₁.heap = h0 := by rw [← hh, Bd.state]; rfl
  have N0 := Fr.nil n0
  obtain ⟨f0, hf0⟩ : ∃ f : JFrame, f = mkF m 0 #[iv (1 : Int32), iv (4 : Int32), .val .null] [] := ⟨_, rfl⟩
  have pre0 : ∀ t, Steps p.tables e below (s₁.setTop f0) t → Steps p.tables e below (s₁.setTop (entryFrame m #[(.int (1 : Int32)), (.int (4 : Int32)), .null] 3)) t := fun t k => castTop ((ef_rmPre1 m (1 : Int32) (4 : Int32)).trans hf0.symm) k
  have R0 : ∀ t, Steps p.tables e below (s₁.setTop (mkF m 0 #[iv (1 : Int32), iv (4 : Int32), .val .null] [])) t → Steps p.tables e below (s₁.setTop f0) t := by rw [hf0]; exact fun t k => k
  have R1 : ∀ t, Steps p.tables e below (s₁.setTop (mkF m 17 #[iv (1 : Int32), iv (4 : Int32), .val .null] [(.int (1 : Int32))])) t → Steps p.tables e below (s₁.setTop f0) t := fun t k => R0 t (by
    show Steps p.tables e below (s₁.setTop (mkF m 0 #[iv (1 : Int32), iv (4 : Int32), .val .null] [])) _
    refine XS.iloadN X0.here hx rfl (hb hby d19_0) rfl  ?_
    show Steps p.tables e below (s₁.setTop (mkF m 1 #[iv (1 : Int32), iv (4 : Int32), .val .null] [(.int (1 : Int32))])) _
    refine XS.ifNo X0.here hx rfl (hb hby d19_1) rfl ((if0 _ _).trans (flt (by decide : ¬ ((1 : Int32) < (0 : Int32)))).1) ?_
    show Steps p.tables e below (s₁.setTop (mkF m 4 #[iv (1 : Int32), iv (4 : Int32), .val .null] [])) _
    refine XS.iloadN X0.here hx rfl (hb hby d19_4) rfl  ?_
    show Steps p.tables e below (s₁.setTop (mkF m 5 #[iv (1 : Int32), iv (4 : Int32), .val .null] [(.int (1 : Int32))])) _
    refine XS.iloadN X0.here hx rfl (hb hby d19_5) rfl  ?_
    show Steps p.tables e below (s₁.setTop (mkF m 6 #[iv (1 : Int32), iv (4 : Int32), .val .null] [(.int (4 : Int32)), (.int (1 : Int32))])) _
    refine XS.icmpYes X0.here hx rfl (pc0 := 6) (pc' := 16) rfl (hb hby d19_6) rfl (tlt (by decide : (1 : Int32) < (4 : Int32))).1 (by decide) (by decide) ?_
    show Steps p.tables e below (s₁.setTop (mkF m 16 #[iv (1 : Int32), iv (4 : Int32), .val .null] [])) _
    refine XS.iloadN X0.here hx rfl (hb hby d19_16) rfl  ?_
    exact k)
  obtain ⟨fs, hr, hrun, hended, hW, hsame⟩ := X0.leave (v := some (.int (1 : Int32))) (fun h => by rw [Bd.returns] at h; cases h)
  refine ⟨_, _, pre0 _ (R1 _ ?_), hrun, hended, _, _, rfl, ?_, ⟨_, rfl⟩, hW, hsame.mono (by decide) (by decide)⟩
  · show Steps p.tables e below (s₁.setTop (mkF m 17 #[iv (1 : Int32), iv (4 : Int32), .val .null] [(.int (1 : Int32))])) _
    exact retI X0 hx Bd.returns (hb hby d19_17) hr
  · show Q_rmPre1 Z  h0 n0 _ s₁.heap _
    rw [e0]
    exact ⟨rfl, N0, rfl⟩
theorem ef_rmObChk1 (m : MethodId) (x0 : Int32) (x1 : Int32) : entryFrame m #[(.int x0), (.int x1)] 2 = mkF m 0 #[iv x0, iv x1] [] := by first | (simp [entryFrame, mkF, argsToLocals, Value.category]; done) | rfl
def Q_rmObChk1 (Z : State)  (h0 : Heap) (n0 : Nat) (v : Option Value) (h : Heap) (L : List Loc) : Prop := v = some (.int (1 : Int32)) ∧ Fr n0 L ∧ h = h0
set_option maxRecDepth 65536 in
set_option maxHeartbeats 40000000 in
theorem rmObChk1 (l : Launch) (Z : State) (a0 : Array Value) (hw : ∀ d ∈ tables_1, d.before a0 Z = true) (ws : List Jvm.Cond)  (h0 : Heap) (n0 : Nat) (Z0 : n0 ≤ h0.size) :
    MetFree l (⟨"java/util/Objects", "checkIndex", "(II)I"⟩ : MethodName) (head1 (Jvm.Cond.code (⟨"java/util/Objects", "checkIndex", "(II)I"⟩ : MethodName) jdk_31_method_17_code 2 (some .int) :: ws) ({ frames := 1, cells := 0, slots := 0, locals := 14 } : Room)) (fun a U => a = #[(.int (1 : Int32)), (.int (4 : Int32))] ∧ Z.Warmed39 U.vm ∧ U.heap = h0) (fun _ _ _ _ _ => True) (fun _ U o U' => ∃ v L, o = .returned v ∧ Q_rmObChk1 Z  h0 n0 v U'.heap L ∧ FrameEnd U o U' L ({ frames := 1, cells := 0, slots := 0, locals := 14 } : Room).cells ({ frames := 1, cells := 0, slots := 0, locals := 14 } : Room).slots) := by
  refine MetFree.of_bodySF (plainFor_of_name pn_15) hisR ?_
  intro p e s m args below meth c s₁ Bd hml0 hP hK
  obtain ⟨rfl, hZ, hh⟩ := hP
  have hx := Bd.exec
  have hby := Bd.bytes
  have hml : c.maxLocals = 2 := hml0
  have hown : s.vm.findClass "java/util/Objects" = some m.cls := findClass_of_methodNamed Bd.named
  have hnm := (name_of_methodNamed Bd.named Bd.method).1
  have X0 : Stand p l e ({ frames := 1, cells := 0, slots := 0, locals := 14 } : Room) s m #[(.int (1 : Int32)), (.int (4 : Int32))] below meth c s₁ [] 0 0 := Stand.of_body Bd
  have e0 : s₁.heap = h0 := by rw [← hh, Bd.state]; rfl
  have N0 := Fr.nil n0
  obtain ⟨f0, hf0⟩ : ∃ f : JFrame, f = mkF m 0 #[iv (1 : Int32), iv (4 : Int32)] [] := ⟨_, rfl⟩
  have pre0 : ∀ t, Steps p.tables e below (s₁.setTop f0) t → Steps p.tables e below (s₁.setTop (entryFrame m #[(.int (1 : Int32)), (.int (4 : Int32))] 2)) t := fun t k => castTop ((ef_rmObChk1 m (1 : Int32) (4 : Int32)).trans hf0.symm) k
  have R0 : ∀ t, Steps p.tables e below (s₁.setTop (mkF m 0 #[iv (1 : Int32), iv (4 : Int32)] [])) t → Steps p.tables e below (s₁.setTop f0) t := by rw [hf0]; exact fun t k => k
  have R1 : ∀ t, Steps p.tables e below (s₁.setTop (mkF m 3 #[iv (1 : Int32), iv (4 : Int32)] [.null, (.int (4 : Int32)), (.int (1 : Int32))])) t → Steps p.tables e below (s₁.setTop f0) t := fun t k => R0 t (by
    show Steps p.tables e below (s₁.setTop (mkF m 0 #[iv (1 : Int32), iv (4 : Int32)] [])) _
    refine XS.iloadN X0.here hx rfl (hb hby d18_0) rfl  ?_
    show Steps p.tables e below (s₁.setTop (mkF m 1 #[iv (1 : Int32), iv (4 : Int32)] [(.int (1 : Int32))])) _
    refine XS.iloadN X0.here hx rfl (hb hby d18_1) rfl  ?_
    show Steps p.tables e below (s₁.setTop (mkF m 2 #[iv (1 : Int32), iv (4 : Int32)] [(.int (4 : Int32)), (.int (1 : Int32))])) _
    refine XS.aconstNull X0.here hx rfl (hb hby d18_2) ?_
    exact k)
  obtain ⟨_, _, ⟨T2, L2, k2, n2⟩, -, X2, ⟨Lc2, hQ2, l2, y2, z2⟩, st2⟩ := Jvm.LawKit.callS X0 hx (y := (⟨sN8, "checkIndex", sN9⟩ : MethodName)) hown (mvT hZ (hw _ (List.mem_of_getElem? (i := 116) rfl))) (mvT hZ (hw _ (List.mem_of_getElem? (i := 117) rfl))) (mvT hZ (hw _ (List.mem_of_getElem? (i := 118) rfl))) (mvT hZ (hw _ (List.mem_of_getElem? (i := 119) rfl))) (by decide) (backOf (W := 0) (rmPre1 l Z a0 hw []  h0 n0 Z0) hZ (hw _ (List.mem_of_getElem? (i := 119) rfl)) (hw _ (List.mem_of_getElem? (i := 118) rfl)) (by decide) (by decide)) (g := (mkF m 3 #[iv (1 : Int32), iv (4 : Int32)] [.null, (.int (4 : Int32)), (.int (1 : Int32))])) rfl (by rw [hml]; rfl) (argsL := [(.int (1 : Int32)), (.int (4 : Int32)), .null]) (rest := []) (lenOf pd_16 rfl) rfl (by show 2 * 0 + _ ≤ _; exact Nat.le_of_eq rfl) (hb hby d18_3) (fun _ _ => ⟨rfl, e0, (by decide : 0 + 0 ≤ _), (by decide : 0 + 0 ≤ _)⟩)
  dsimp only [Pt.U, Pt.locs, Pt.cells, Pt.slots] at X2 l2 y2 z2 st2 hQ2
  subst l2 y2 z2
  obtain ⟨rfl, N2q, p2_0⟩ := hQ2
  have N2 := Fr.app N0 N2q
  have R3 : ∀ t, Steps p.tables e below (T2.setTop (mkF m 6 #[iv (1 : Int32), iv (4 : Int32)] [(.int (1 : Int32))])) t → Steps p.tables e below (s₁.setTop f0) t := fun t k => R1 t (st2 t k)
  obtain ⟨fs, hr, hrun, hended, hW, hsame⟩ := X2.leave (v := some (.int (1 : Int32))) (fun h => by rw [Bd.returns] at h; cases h)
  refine ⟨_, _, pre0 _ (R3 _ ?_), hrun, hended, _, _, rfl, ?_, ⟨_, rfl⟩, hW, hsame.mono (by decide) (by decide)⟩
  · show Steps p.tables e below (T2.setTop (mkF m 6 #[iv (1 : Int32), iv (4 : Int32)] [(.int (1 : Int32))])) _
    exact retI X2 hx Bd.returns (hb hby d18_6) hr
  · show Q_rmObChk1 Z  h0 n0 _ T2.heap _
    rw [p2_0]
    exact ⟨rfl, N2, rfl⟩
theorem ef_rmEld1 (m : MethodId) (x0 : Addr) (x1 : Int32) : entryFrame m #[(.ref x0), (.int x1)] 2 = mkF m 0 #[rv x0, iv x1] [] := by first | (simp [entryFrame, mkF, argsToLocals, Value.category]; done) | rfl
def Q_rmEld1 (Z : State) (a1 : Addr) (b : Addr) (kb : ClassId) (y0 : Addr) (y1 : Addr) (y2 : Addr) (y3 : Addr) (h0 : Heap) (n0 : Nat) (v : Option Value) (h : Heap) (L : List Loc) : Prop := v = some (.ref y1) ∧ Fr n0 L ∧ h = h0
set_option maxRecDepth 65536 in
set_option maxHeartbeats 40000000 in
theorem rmEld1 (l : Launch) (Z : State) (a0 : Array Value) (hw : ∀ d ∈ tables_1, d.before a0 Z = true) (ws : List Jvm.Cond) (a1 : Addr) (b : Addr) (kb : ClassId) (y0 : Addr) (y1 : Addr) (y2 : Addr) (y3 : Addr) (h0 : Heap) (n0 : Nat) (Z0 : n0 ≤ h0.size) (E_a1 : Exa Z h0 a1 "java/util/ArrayList") (F_elementData_a1 : Fld Z h0 a1 "java/util/ArrayList" "elementData" "[Ljava/lang/Object;" (.ref b)) (F_size_a1 : Fld Z h0 a1 "java/util/ArrayList" "size" "I" (.int (4 : Int32))) (A_b : Arv Z h0 b kb (.object "java/lang/Object") (10 : Int32) [(.ref y0), (.ref y1), (.ref y2), (.ref y3), .null, .null, .null, .null, .null, .null] .null) :
    MetFree l (⟨"java/util/ArrayList", "elementData", "(I)Ljava/lang/Object;"⟩ : MethodName) (head1 (Jvm.Cond.code (⟨"java/util/ArrayList", "elementData", "(I)Ljava/lang/Object;"⟩ : MethodName) jdk_38_method_18_code 2 (some (.object "java/lang/Object")) :: ws) ({ frames := 0, cells := 0, slots := 0, locals := 0 } : Room)) (fun a U => a = #[(.ref a1), (.int (1 : Int32))] ∧ Z.Warmed39 U.vm ∧ U.heap = h0) (fun _ _ _ _ _ => True) (fun _ U o U' => ∃ v L, o = .returned v ∧ Q_rmEld1 Z a1 b kb y0 y1 y2 y3 h0 n0 v U'.heap L ∧ FrameEnd U o U' L ({ frames := 0, cells := 0, slots := 0, locals := 0 } : Room).cells ({ frames := 0, cells := 0, slots := 0, locals := 0 } : Room).slots) := by
  refine MetFree.of_bodySF (plainFor_of_name pn_9) hisR ?_
  intro p e s m args below meth c s₁ Bd hml0 hP hK
  obtain ⟨rfl, hZ, hh⟩ := hP
  have hx := Bd.exec
  have hby := Bd.bytes
  have hml : c.maxLocals = 2 := hml0
  have hown : s.vm.findClass "java/util/ArrayList" = some m.cls := findClass_of_methodNamed Bd.named
  have hnm := (name_of_methodNamed Bd.named Bd.method).1
  have X0 : Stand p l e ({ frames := 0, cells := 0, slots := 0, locals := 0 } : Room) s m #[(.ref a1), (.int (1 : Int32))] below meth c s₁ [] 0 0 := Stand.of_body Bd
  have e0 : s₁.heap = h0 := by rw [← hh, Bd.state]; rfl
  have N0 := Fr.nil n0
  obtain ⟨f0, hf0⟩ : ∃ f : JFrame, f = mkF m 0 #[rv a1, iv (1 : Int32)] [] := ⟨_, rfl⟩
  have pre0 : ∀ t, Steps p.tables e below (s₁.setTop f0) t → Steps p.tables e below (s₁.setTop (entryFrame m #[(.ref a1), (.int (1 : Int32))] 2)) t := fun t k => castTop ((ef_rmEld1 m a1 (1 : Int32)).trans hf0.symm) k
  have R0 : ∀ t, Steps p.tables e below (s₁.setTop (mkF m 0 #[rv a1, iv (1 : Int32)] [])) t → Steps p.tables e below (s₁.setTop f0) t := by rw [hf0]; exact fun t k => k
  have R1 : ∀ t, Steps p.tables e below (s₁.setTop (mkF m 1 #[rv a1, iv (1 : Int32)] [(.ref a1)])) t → Steps p.tables e below (s₁.setTop f0) t := fun t k => R0 t (by
    show Steps p.tables e below (s₁.setTop (mkF m 0 #[rv a1, iv (1 : Int32)] [])) _
    refine XS.aloadN X0.here hx rfl (hb hby d20_0) rfl rfl ?_
    exact k)
  obtain ⟨T2, X2, e2, st2⟩ := getF X0 hx hZ hown (host := "") (Or.inl (hw _ (List.mem_of_getElem? (i := 52) rfl))) Via.refl e0 F_elementData_a1 (g := (mkF m 1 #[rv a1, iv (1 : Int32)] [(.ref a1)])) rfl rfl (hb hby d20_1)
  have R3 : ∀ t, Steps p.tables e below (T2.setTop (mkF m 4 #[rv a1, iv (1 : Int32)] [(.ref b)])) t → Steps p.tables e below (s₁.setTop f0) t := fun t k => R1 t (st2 t k)
  have R4 : ∀ t, Steps p.tables e below (T2.setTop (mkF m 5 #[rv a1, iv (1 : Int32)] [(.int (1 : Int32)), (.ref b)])) t → Steps p.tables e below (s₁.setTop f0) t := fun t k => R3 t (by
    show Steps p.tables e below (T2.setTop (mkF m 4 #[rv a1, iv (1 : Int32)] [(.ref b)])) _
    refine XS.iloadN X2.here hx rfl (hb hby d20_4) rfl  ?_
    exact k)
  obtain ⟨cl5, Ar5, q5, S5, n5_, H5, G5⟩ := id A_b
  have hin5 : ¬ ((1 : Int32) < 0 ∨ cl5.slots.size ≤ ((1 : Int32)).toNatClampNeg) := inb_of S5 ⟨by decide, by decide⟩
  have hat5 : cl5.slots[((1 : Int32)).toNatClampNeg]? = some (.ref y1) := Has.at H5 hin5 rfl
  have R6 : ∀ t, Steps p.tables e below (T2.setTop (mkF m 6 #[rv a1, iv (1 : Int32)] [(.ref y1)])) t → Steps p.tables e below (s₁.setTop f0) t := fun t k => R4 t (X2.aaload hx (j := (1 : Int32)) (v := (.ref y1)) (by rw [e2]; exact Ar5.1) (State.isArrayOf_alike hZ.alike Ar5.2.1) rfl Ar5.2.2 hin5 hat5 (g := (mkF m 5 #[rv a1, iv (1 : Int32)] [(.int (1 : Int32)), (.ref b)])) rfl rfl (hb hby d20_5) _ k)
  obtain ⟨fs, hr, hrun, hended, hW, hsame⟩ := X2.leave (v := some (.ref y1)) (fun h => by rw [Bd.returns] at h; cases h)
  refine ⟨_, _, pre0 _ (R6 _ ?_), hrun, hended, _, _, rfl, ?_, ⟨_, rfl⟩, hW, hsame.mono (by decide) (by decide)⟩
  · show Steps p.tables e below (T2.setTop (mkF m 6 #[rv a1, iv (1 : Int32)] [(.ref y1)])) _
    exact retOut X2 hx (t := (.object "java/lang/Object")) Bd.returns rfl (Or.inr (Or.inr (Or.inr (Or.inr ⟨rfl, rfl, rfl⟩)))) (hb hby d20_6) hr
  · show Q_rmEld1 Z a1 b kb y0 y1 y2 y3 h0 n0 _ T2.heap _
    rw [e2]
    exact ⟨rfl, N0, rfl⟩
theorem ef_rmGet1 (m : MethodId) (x0 : Addr) (x1 : Int32) : entryFrame m #[(.ref x0), (.int x1)] 2 = mkF m 0 #[rv x0, iv x1] [] := by first | (simp [entryFrame, mkF, argsToLocals, Value.category]; done) | rfl
def Q_rmGet1 (Z : State) (a1 : Addr) (b : Addr) (kb : ClassId) (y0 : Addr) (y1 : Addr) (y2 : Addr) (y3 : Addr) (h0 : Heap) (n0 : Nat) (v : Option Value) (h : Heap) (L : List Loc) : Prop := v = some (.ref y1) ∧ Fr n0 L ∧ h = h0
set_option maxRecDepth 65536 in
set_option maxHeartbeats 40000000 in
theorem rmGet1 (l : Launch) (Z : State) (a0 : Array Value) (hw : ∀ d ∈ tables_1, d.before a0 Z = true) (ws : List Jvm.Cond) (a1 : Addr) (b : Addr) (kb : ClassId) (y0 : Addr) (y1 : Addr) (y2 : Addr) (y3 : Addr) (h0 : Heap) (n0 : Nat) (Z0 : n0 ≤ h0.size) (E_a1 : Exa Z h0 a1 "java/util/ArrayList") (F_elementData_a1 : Fld Z h0 a1 "java/util/ArrayList" "elementData" "[Ljava/lang/Object;" (.ref b)) (F_size_a1 : Fld Z h0 a1 "java/util/ArrayList" "size" "I" (.int (4 : Int32))) (A_b : Arv Z h0 b kb (.object "java/lang/Object") (10 : Int32) [(.ref y0), (.ref y1), (.ref y2), (.ref y3), .null, .null, .null, .null, .null, .null] .null) :
    MetFree l (⟨"java/util/ArrayList", "get", "(I)Ljava/lang/Object;"⟩ : MethodName) (head1 (Jvm.Cond.code (⟨"java/util/ArrayList", "get", "(I)Ljava/lang/Object;"⟩ : MethodName) jdk_38_method_20_code 2 (some (.object "java/lang/Object")) :: ws) ({ frames := 2, cells := 0, slots := 0, locals := 27 } : Room)) (fun a U => a = #[(.ref a1), (.int (1 : Int32))] ∧ Z.Warmed39 U.vm ∧ U.heap = h0) (fun _ _ _ _ _ => True) (fun _ U o U' => ∃ v L, o = .returned v ∧ Q_rmGet1 Z a1 b kb y0 y1 y2 y3 h0 n0 v U'.heap L ∧ FrameEnd U o U' L ({ frames := 2, cells := 0, slots := 0, locals := 27 } : Room).cells ({ frames := 2, cells := 0, slots := 0, locals := 27 } : Room).slots) := by
  refine MetFree.of_bodySF (plainFor_of_name pn_9) hisR ?_
  intro p e s m args below meth c s₁ Bd hml0 hP hK
  obtain ⟨rfl, hZ, hh⟩ := hP
  have hx := Bd.exec
  have hby := Bd.bytes
  have hml : c.maxLocals = 2 := hml0
  have hown : s.vm.findClass "java/util/ArrayList" = some m.cls := findClass_of_methodNamed Bd.named
  have hnm := (name_of_methodNamed Bd.named Bd.method).1
  have X0 : Stand p l e ({ frames := 2, cells := 0, slots := 0, locals := 27 } : Room) s m #[(.ref a1), (.int (1 : Int32))] below meth c s₁ [] 0 0 := Stand.of_body Bd
  have e0 : s₁.heap = h0 := by rw [← hh, Bd.state]; rfl
  have N0 := Fr.nil n0
  obtain ⟨f0, hf0⟩ : ∃ f : JFrame, f = mkF m 0 #[rv a1, iv (1 : Int32)] [] := ⟨_, rfl⟩
  have pre0 : ∀ t, Steps p.tables e below (s₁.setTop f0) t → Steps p.tables e below (s₁.setTop (entryFrame m #[(.ref a1), (.int (1 : Int32))] 2)) t := fun t k => castTop ((ef_rmGet1 m a1 (1 : Int32)).trans hf0.symm) k
  have R0 : ∀ t, Steps p.tables e below (s₁.setTop (mkF m 0 #[rv a1, iv (1 : Int32)] [])) t → Steps p.tables e below (s₁.setTop f0) t := by rw [hf0]; exact fun t k => k
  have R1 : ∀ t, Steps p.tables e below (s₁.setTop (mkF m 2 #[rv a1, iv (1 : Int32)] [(.ref a1), (.int (1 : Int32))])) t → Steps p.tables e below (s₁.setTop f0) t := fun t k => R0 t (by
    show Steps p.tables e below (s₁.setTop (mkF m 0 #[rv a1, iv (1 : Int32)] [])) _
    refine XS.iloadN X0.here hx rfl (hb hby d17_0) rfl  ?_
    show Steps p.tables e below (s₁.setTop (mkF m 1 #[rv a1, iv (1 : Int32)] [(.int (1 : Int32))])) _
    refine XS.aloadN X0.here hx rfl (hb hby d17_1) rfl rfl ?_
    exact k)
  obtain ⟨T2, X2, e2, st2⟩ := getF X0 hx hZ hown (host := "") (Or.inl (hw _ (List.mem_of_getElem? (i := 61) rfl))) Via.refl e0 F_size_a1 (g := (mkF m 2 #[rv a1, iv (1 : Int32)] [(.ref a1), (.int (1 : Int32))])) rfl rfl (hb hby d17_2)
  have R3 : ∀ t, Steps p.tables e below (T2.setTop (mkF m 5 #[rv a1, iv (1 : Int32)] [(.int (4 : Int32)), (.int (1 : Int32))])) t → Steps p.tables e below (s₁.setTop f0) t := fun t k => R1 t (st2 t k)
  obtain ⟨_, _, ⟨T4, L4, k4, n4⟩, -, X4, ⟨Lc4, hQ4, l4, y4, z4⟩, st4⟩ := Jvm.LawKit.callS X2 hx (y := (⟨"java/util/Objects", "checkIndex", "(II)I"⟩ : MethodName)) hown (mvT hZ (hw _ (List.mem_of_getElem? (i := 112) rfl))) (mvT hZ (hw _ (List.mem_of_getElem? (i := 113) rfl))) (mvT hZ (hw _ (List.mem_of_getElem? (i := 114) rfl))) (mvT hZ (hw _ (List.mem_of_getElem? (i := 115) rfl))) (by decide) (backOf (W := 0) (rmObChk1 l Z a0 hw []  h0 n0 Z0) hZ (hw _ (List.mem_of_getElem? (i := 115) rfl)) (hw _ (List.mem_of_getElem? (i := 114) rfl)) (by decide) (by decide)) (g := (mkF m 5 #[rv a1, iv (1 : Int32)] [(.int (4 : Int32)), (.int (1 : Int32))])) rfl (by rw [hml]; rfl) (argsL := [(.int (1 : Int32)), (.int (4 : Int32))]) (rest := []) (lenOf pd_10 rfl) rfl (by show 2 * 0 + _ ≤ _; exact Nat.le_of_eq rfl) (hb hby d17_5) (fun _ _ => ⟨rfl, e2, (by decide : 0 + 0 ≤ _), (by decide : 0 + 0 ≤ _)⟩)
  dsimp only [Pt.U, Pt.locs, Pt.cells, Pt.slots] at X4 l4 y4 z4 st4 hQ4
  subst l4 y4 z4
  obtain ⟨rfl, N4q, p4_0⟩ := hQ4
  have N4 := Fr.app N0 N4q
  have R5 : ∀ t, Steps p.tables e below (T4.setTop (mkF m 8 #[rv a1, iv (1 : Int32)] [(.int (1 : Int32))])) t → Steps p.tables e below (s₁.setTop f0) t := fun t k => R3 t (st4 t k)
  have R6 : ∀ t, Steps p.tables e below (T4.setTop (mkF m 11 #[rv a1, iv (1 : Int32)] [(.int (1 : Int32)), (.ref a1)])) t → Steps p.tables e below (s₁.setTop f0) t := fun t k => R5 t (by
    show Steps p.tables e below (T4.setTop (mkF m 8 #[rv a1, iv (1 : Int32)] [(.int (1 : Int32))])) _
    refine XS.pop X4.here hx rfl (hb hby d17_8) rfl rfl ?_
    show Steps p.tables e below (T4.setTop (mkF m 9 #[rv a1, iv (1 : Int32)] [])) _
    refine XS.aloadN X4.here hx rfl (hb hby d17_9) rfl rfl ?_
    show Steps p.tables e below (T4.setTop (mkF m 10 #[rv a1, iv (1 : Int32)] [(.ref a1)])) _
    refine XS.iloadN X4.here hx rfl (hb hby d17_10) rfl  ?_
    exact k)
  obtain ⟨cq7, kq7, q7a, q7b, q7c⟩ := isOf hZ p4_0 E_a1
  obtain ⟨_, _, ⟨T7, L7, k7, n7⟩, -, X7, ⟨Lc7, hQ7, l7, y7, z7⟩, st7⟩ := X4.virtualBack hx (y := (⟨"java/util/ArrayList", "elementData", "(I)Ljava/lang/Object;"⟩ : MethodName)) (z := (⟨"java/util/ArrayList", "elementData", "(I)Ljava/lang/Object;"⟩ : MethodName)) hown (mvT hZ (hw _ (List.mem_of_getElem? (i := 120) rfl))) (mvT hZ (hw _ (List.mem_of_getElem? (i := 121) rfl))) (notFace_of_selects (args := #[]) (mvT hZ (hw _ (List.mem_of_getElem? (i := 123) rfl)))) (mvT hZ (hw _ (List.mem_of_getElem? (i := 123) rfl))) (mvT hZ (hw _ (List.mem_of_getElem? (i := 122) rfl))) (by decide) (backOf (W := 0) (rmEld1 l Z a0 hw [] a1 b kb y0 y1 y2 y3 h0 n0 Z0 E_a1 F_elementData_a1 F_size_a1 A_b) hZ (hw _ (List.mem_of_getElem? (i := 124) rfl)) (hw _ (List.mem_of_getElem? (i := 32) rfl)) (by decide) (by decide)) q7a q7c (g := (mkF m 11 #[rv a1, iv (1 : Int32)] [(.int (1 : Int32)), (.ref a1)])) rfl (by rw [hml]; rfl) (Steps.refl _) (argsL := [(.int (1 : Int32))]) (rest := []) (lenOf pd_17 rfl) rfl (by show 2 * 0 + _ ≤ _; exact Nat.le_of_eq rfl) (hb hby d17_11) (fun _ _ => ⟨rfl, p4_0, (by decide : 0 + 0 ≤ _), (by decide : 0 + 0 ≤ _)⟩)
  dsimp only [Pt.U, Pt.locs, Pt.cells, Pt.slots] at X7 l7 y7 z7 st7 hQ7
  subst l7 y7 z7
  obtain ⟨rfl, N7q, p7_0⟩ := hQ7
  have N7 := Fr.app N4 N7q
  have R8 : ∀ t, Steps p.tables e below (T7.setTop (mkF m 14 #[rv a1, iv (1 : Int32)] [(.ref y1)])) t → Steps p.tables e below (s₁.setTop f0) t := fun t k => R6 t (st7.trans k)
  obtain ⟨fs, hr, hrun, hended, hW, hsame⟩ := X7.leave (v := some (.ref y1)) (fun h => by rw [Bd.returns] at h; cases h)
  refine ⟨_, _, pre0 _ (R8 _ ?_), hrun, hended, _, _, rfl, ?_, ⟨_, rfl⟩, hW, hsame.mono (by decide) (by decide)⟩
  · show Steps p.tables e below (T7.setTop (mkF m 14 #[rv a1, iv (1 : Int32)] [(.ref y1)])) _
    exact retOut X7 hx (t := (.object "java/lang/Object")) Bd.returns rfl (Or.inr (Or.inr (Or.inr (Or.inr ⟨rfl, rfl, rfl⟩)))) (hb hby d17_14) hr
  · show Q_rmGet1 Z a1 b kb y0 y1 y2 y3 h0 n0 _ T7.heap _
    rw [p7_0]
    exact ⟨rfl, N7, rfl⟩
theorem ef_rmPre2 (m : MethodId) (x0 : Int32) (x1 : Int32) : entryFrame m #[(.int x0), (.int x1), .null] 3 = mkF m 0 #[iv x0, iv x1, .val .null] [] := by first | (simp [entryFrame, mkF, argsToLocals, Value.category]; done) | rfl
def Q_rmPre2 (Z : State)  (h0 : Heap) (n0 : Nat) (v : Option Value) (h : Heap) (L : List Loc) : Prop := v = some (.int (2 : Int32)) ∧ Fr n0 L ∧ h = h0
set_option maxRecDepth 65536 in
set_option maxHeartbeats 40000000 in
theorem rmPre2 (l : Launch) (Z : State) (a0 : Array Value) (hw : ∀ d ∈ tables_1, d.before a0 Z = true) (ws : List Jvm.Cond)  (h0 : Heap) (n0 : Nat) (Z0 : n0 ≤ h0.size) :
    MetFree l (⟨sN8, "checkIndex", sN9⟩ : MethodName) (head1 (Jvm.Cond.code (⟨sN8, "checkIndex", sN9⟩ : MethodName) jdk_41_method_11_code 3 (some .int) :: ws) ({ frames := 0, cells := 0, slots := 0, locals := 0 } : Room)) (fun a U => a = #[(.int (2 : Int32)), (.int (4 : Int32)), .null] ∧ Z.Warmed39 U.vm ∧ U.heap = h0) (fun _ _ _ _ _ => True) (fun _ U o U' => ∃ v L, o = .returned v ∧ Q_rmPre2 Z  h0 n0 v U'.heap L ∧ FrameEnd U o U' L ({ frames := 0, cells := 0, slots := 0, locals := 0 } : Room).cells ({ frames := 0, cells := 0, slots := 0, locals := 0 } : Room).slots) := by
  refine MetFree.of_bodySF (plainFor_of_name pn_14) hisR ?_
  intro p e s m args below meth c s₁ Bd hml0 hP hK
  obtain ⟨rfl, hZ, hh⟩ := hP
  have hx := Bd.exec
  have hby := Bd.bytes
  have hml : c.maxLocals = 3 := hml0
  have hown : s.vm.findClass sN8 = some m.cls := findClass_of_methodNamed Bd.named
  have hnm := (name_of_methodNamed Bd.named Bd.method).1
  have X0 : Stand p l e ({ frames := 0, cells := 0, slots := 0, locals := 0 } : Room) s m #[(.int (2 : Int32)), (.int (4 : Int32)), .null] below meth c s₁ [] 0 0 := Stand.of_body Bd
  have e0 : s₁.heap = h0 := by rw [← hh, Bd.state]; rfl
  have N0 := Fr.nil n0
  obtain ⟨f0, hf0⟩ : ∃ f : JFrame, f = mkF m 0 #[iv (2 : Int32), iv (4 : Int32), .val .null] [] := ⟨_, rfl⟩
  have pre0 : ∀ t, Steps p.tables e below (s₁.setTop f0) t → Steps p.tables e below (s₁.setTop (entryFrame m #[(.int (2 : Int32)), (.int (4 : Int32)), .null] 3)) t := fun t k => castTop ((ef_rmPre2 m (2 : Int32) (4 : Int32)).trans hf0.symm) k
  have R0 : ∀ t, Steps p.tables e below (s₁.setTop (mkF m 0 #[iv (2 : Int32), iv (4 : Int32), .val .null] [])) t → Steps p.tables e below (s₁.setTop f0) t := by rw [hf0]; exact fun t k => k
  have R1 : ∀ t, Steps p.tables e below (s₁.setTop (mkF m 17 #[iv (2 : Int32), iv (4 : Int32), .val .null] [(.int (2 : Int32))])) t → Steps p.tables e below (s₁.setTop f0) t := fun t k => R0 t (by
    show Steps p.tables e below (s₁.setTop (mkF m 0 #[iv (2 : Int32), iv (4 : Int32), .val .null] [])) _
    refine XS.iloadN X0.here hx rfl (hb hby d19_0) rfl  ?_
    show Steps p.tables e below (s₁.setTop (mkF m 1 #[iv (2 : Int32), iv (4 : Int32), .val .null] [(.int (2 : Int32))])) _
    refine XS.ifNo X0.here hx rfl (hb hby d19_1) rfl ((if0 _ _).trans (flt (by decide : ¬ ((2 : Int32) < (0 : Int32)))).1) ?_
    show Steps p.tables e below (s₁.setTop (mkF m 4 #[iv (2 : Int32), iv (4 : Int32), .val .null] [])) _
    refine XS.iloadN X0.here hx rfl (hb hby d19_4) rfl  ?_
    show Steps p.tables e below (s₁.setTop (mkF m 5 #[iv (2 : Int32), iv (4 : Int32), .val .null] [(.int (2 : Int32))])) _
    refine XS.iloadN X0.here hx rfl (hb hby d19_5) rfl  ?_
    show Steps p.tables e below (s₁.setTop (mkF m 6 #[iv (2 : Int32), iv (4 : Int32), .val .null] [(.int (4 : Int32)), (.int (2 : Int32))])) _
    refine XS.icmpYes X0.here hx rfl (pc0 := 6) (pc' := 16) rfl (hb hby d19_6) rfl (tlt (by decide : (2 : Int32) < (4 : Int32))).1 (by decide) (by decide) ?_
    show Steps p.tables e below (s₁.setTop (mkF m 16 #[iv (2 : Int32), iv (4 : Int32), .val .null] [])) _
    refine XS.iloadN X0.here hx rfl (hb hby d19_16) rfl  ?_
    exact k)
  obtain ⟨fs, hr, hrun, hended, hW, hsame⟩ := X0.leave (v := some (.int (2 : Int32))) (fun h => by rw [Bd.returns] at h; cases h)
  refine ⟨_, _, pre0 _ (R1 _ ?_), hrun, hended, _, _, rfl, ?_, ⟨_, rfl⟩, hW, hsame.mono (by decide) (by decide)⟩
  · show Steps p.tables e below (s₁.setTop (mkF m 17 #[iv (2 : Int32), iv (4 : Int32), .val .null] [(.int (2 : Int32))])) _
    exact retI X0 hx Bd.returns (hb hby d19_17) hr
  · show Q_rmPre2 Z  h0 n0 _ s₁.heap _
    rw [e0]
    exact ⟨rfl, N0, rfl⟩
theorem ef_rmObChk2 (m : MethodId) (x0 : Int32) (x1 : Int32) : entryFrame m #[(.int x0), (.int x1)] 2 = mkF m 0 #[iv x0, iv x1] [] := by first | (simp [entryFrame, mkF, argsToLocals, Value.category]; done) | rfl
def Q_rmObChk2 (Z : State)  (h0 : Heap) (n0 : Nat) (v : Option Value) (h : Heap) (L : List Loc) : Prop := v = some (.int (2 : Int32)) ∧ Fr n0 L ∧ h = h0
set_option maxRecDepth 65536 in
set_option maxHeartbeats 40000000 in
theorem rmObChk2 (l : Launch) (Z : State) (a0 : Array Value) (hw : ∀ d ∈ tables_1, d.before a0 Z = true) (ws : List Jvm.Cond)  (h0 : Heap) (n0 : Nat) (Z0 : n0 ≤ h0.size) :
    MetFree l (⟨"java/util/Objects", "checkIndex", "(II)I"⟩ : MethodName) (head1 (Jvm.Cond.code (⟨"java/util/Objects", "checkIndex", "(II)I"⟩ : MethodName) jdk_31_method_17_code 2 (some .int) :: ws) ({ frames := 1, cells := 0, slots := 0, locals := 14 } : Room)) (fun a U => a = #[(.int (2 : Int32)), (.int (4 : Int32))] ∧ Z.Warmed39 U.vm ∧ U.heap = h0) (fun _ _ _ _ _ => True) (fun _ U o U' => ∃ v L, o = .returned v ∧ Q_rmObChk2 Z  h0 n0 v U'.heap L ∧ FrameEnd U o U' L ({ frames := 1, cells := 0, slots := 0, locals := 14 } : Room).cells ({ frames := 1, cells := 0, slots := 0, locals := 14 } : Room).slots) := by
  refine MetFree.of_bodySF (plainFor_of_name pn_15) hisR ?_
  intro p e s m args below meth c s₁ Bd hml0 hP hK
  obtain ⟨rfl, hZ, hh⟩ := hP
  have hx := Bd.exec
  have hby := Bd.bytes
  have hml : c.maxLocals = 2 := hml0
  have hown : s.vm.findClass "java/util/Objects" = some m.cls := findClass_of_methodNamed Bd.named
  have hnm := (name_of_methodNamed Bd.named Bd.method).1
  have X0 : Stand p l e ({ frames := 1, cells := 0, slots := 0, locals := 14 } : Room) s m #[(.int (2 : Int32)), (.int (4 : Int32))] below meth c s₁ [] 0 0 := Stand.of_body Bd
  have e0 : s₁.heap = h0 := by rw [← hh, Bd.state]; rfl
  have N0 := Fr.nil n0
  obtain ⟨f0, hf0⟩ : ∃ f : JFrame, f = mkF m 0 #[iv (2 : Int32), iv (4 : Int32)] [] := ⟨_, rfl⟩
  have pre0 : ∀ t, Steps p.tables e below (s₁.setTop f0) t → Steps p.tables e below (s₁.setTop (entryFrame m #[(.int (2 : Int32)), (.int (4 : Int32))] 2)) t := fun t k => castTop ((ef_rmObChk2 m (2 : Int32) (4 : Int32)).trans hf0.symm) k
  have R0 : ∀ t, Steps p.tables e below (s₁.setTop (mkF m 0 #[iv (2 : Int32), iv (4 : Int32)] [])) t → Steps p.tables e below (s₁.setTop f0) t := by rw [hf0]; exact fun t k => k
  have R1 : ∀ t, Steps p.tables e below (s₁.setTop (mkF m 3 #[iv (2 : Int32), iv (4 : Int32)] [.null, (.int (4 : Int32)), (.int (2 : Int32))])) t → Steps p.tables e below (s₁.setTop f0) t := fun t k => R0 t (by
    show Steps p.tables e below (s₁.setTop (mkF m 0 #[iv (2 : Int32), iv (4 : Int32)] [])) _
    refine XS.iloadN X0.here hx rfl (hb hby d18_0) rfl  ?_
    show Steps p.tables e below (s₁.setTop (mkF m 1 #[iv (2 : Int32), iv (4 : Int32)] [(.int (2 : Int32))])) _
    refine XS.iloadN X0.here hx rfl (hb hby d18_1) rfl  ?_
    show Steps p.tables e below (s₁.setTop (mkF m 2 #[iv (2 : Int32), iv (4 : Int32)] [(.int (4 : Int32)), (.int (2 : Int32))])) _
    refine XS.aconstNull X0.here hx rfl (hb hby d18_2) ?_
    exact k)
  obtain ⟨_, _, ⟨T2, L2, k2, n2⟩, -, X2, ⟨Lc2, hQ2, l2, y2, z2⟩, st2⟩ := Jvm.LawKit.callS X0 hx (y := (⟨sN8, "checkIndex", sN9⟩ : MethodName)) hown (mvT hZ (hw _ (List.mem_of_getElem? (i := 116) rfl))) (mvT hZ (hw _ (List.mem_of_getElem? (i := 117) rfl))) (mvT hZ (hw _ (List.mem_of_getElem? (i := 118) rfl))) (mvT hZ (hw _ (List.mem_of_getElem? (i := 119) rfl))) (by decide) (backOf (W := 0) (rmPre2 l Z a0 hw []  h0 n0 Z0) hZ (hw _ (List.mem_of_getElem? (i := 119) rfl)) (hw _ (List.mem_of_getElem? (i := 118) rfl)) (by decide) (by decide)) (g := (mkF m 3 #[iv (2 : Int32), iv (4 : Int32)] [.null, (.int (4 : Int32)), (.int (2 : Int32))])) rfl (by rw [hml]; rfl) (argsL := [(.int (2 : Int32)), (.int (4 : Int32)), .null]) (rest := []) (lenOf pd_16 rfl) rfl (by show 2 * 0 + _ ≤ _; exact Nat.le_of_eq rfl) (hb hby d18_3) (fun _ _ => ⟨rfl, e0, (by decide : 0 + 0 ≤ _), (by decide : 0 + 0 ≤ _)⟩)
  dsimp only [Pt.U, Pt.locs, Pt.cells, Pt.slots] at X2 l2 y2 z2 st2 hQ2
  subst l2 y2 z2
  obtain ⟨rfl, N2q, p2_0⟩ := hQ2
  have N2 := Fr.app N0 N2q
  have R3 : ∀ t, Steps p.tables e below (T2.setTop (mkF m 6 #[iv (2 : Int32), iv (4 : Int32)] [(.int (2 : Int32))])) t → Steps p.tables e below (s₁.setTop f0) t := fun t k => R1 t (st2 t k)
  obtain ⟨fs, hr, hrun, hended, hW, hsame⟩ := X2.leave (v := some (.int (2 : Int32))) (fun h => by rw [Bd.returns] at h; cases h)
  refine ⟨_, _, pre0 _ (R3 _ ?_), hrun, hended, _, _, rfl, ?_, ⟨_, rfl⟩, hW, hsame.mono (by decide) (by decide)⟩
  · show Steps p.tables e below (T2.setTop (mkF m 6 #[iv (2 : Int32), iv (4 : Int32)] [(.int (2 : Int32))])) _
    exact retI X2 hx Bd.returns (hb hby d18_6) hr
  · show Q_rmObChk2 Z  h0 n0 _ T2.heap _
    rw [p2_0]
    exact ⟨rfl, N2, rfl⟩
theorem ef_rmEld2 (m : MethodId) (x0 : Addr) (x1 : Int32) : entryFrame m #[(.ref x0), (.int x1)] 2 = mkF m 0 #[rv x0, iv x1] [] := by first | (simp [entryFrame, mkF, argsToLocals, Value.category]; done) | rfl
def Q_rmEld2 (Z : State) (a1 : Addr) (b : Addr) (kb : ClassId) (y0 : Addr) (y1 : Addr) (y2 : Addr) (y3 : Addr) (h0 : Heap) (n0 : Nat) (v : Option Value) (h : Heap) (L : List Loc) : Prop := v = some (.ref y2) ∧ Fr n0 L ∧ h = h0
set_option maxRecDepth 65536 in
set_option maxHeartbeats 40000000 in
theorem rmEld2 (l : Launch) (Z : State) (a0 : Array Value) (hw : ∀ d ∈ tables_1, d.before a0 Z = true) (ws : List Jvm.Cond) (a1 : Addr) (b : Addr) (kb : ClassId) (y0 : Addr) (y1 : Addr) (y2 : Addr) (y3 : Addr) (h0 : Heap) (n0 : Nat) (Z0 : n0 ≤ h0.size) (E_a1 : Exa Z h0 a1 "java/util/ArrayList") (F_elementData_a1 : Fld Z h0 a1 "java/util/ArrayList" "elementData" "[Ljava/lang/Object;" (.ref b)) (F_size_a1 : Fld Z h0 a1 "java/util/ArrayList" "size" "I" (.int (4 : Int32))) (A_b : Arv Z h0 b kb (.object "java/lang/Object") (10 : Int32) [(.ref y0), (.ref y1), (.ref y2), (.ref y3), .null, .null, .null, .null, .null, .null] .null) :
    MetFree l (⟨"java/util/ArrayList", "elementData", "(I)Ljava/lang/Object;"⟩ : MethodName) (head1 (Jvm.Cond.code (⟨"java/util/ArrayList", "elementData", "(I)Ljava/lang/Object;"⟩ : MethodName) jdk_38_method_18_code 2 (some (.object "java/lang/Object")) :: ws) ({ frames := 0, cells := 0, slots := 0, locals := 0 } : Room)) (fun a U => a = #[(.ref a1), (.int (2 : Int32))] ∧ Z.Warmed39 U.vm ∧ U.heap = h0) (fun _ _ _ _ _ => True) (fun _ U o U' => ∃ v L, o = .returned v ∧ Q_rmEld2 Z a1 b kb y0 y1 y2 y3 h0 n0 v U'.heap L ∧ FrameEnd U o U' L ({ frames := 0, cells := 0, slots := 0, locals := 0 } : Room).cells ({ frames := 0, cells := 0, slots := 0, locals := 0 } : Room).slots) := by
  refine MetFree.of_bodySF (plainFor_of_name pn_9) hisR ?_
  intro p e s m args below meth c s₁ Bd hml0 hP hK
  obtain ⟨rfl, hZ, hh⟩ := hP
  have hx := Bd.exec
  have hby := Bd.bytes
  have hml : c.maxLocals = 2 := hml0
  have hown : s.vm.findClass "java/util/ArrayList" = some m.cls := findClass_of_methodNamed Bd.named
  have hnm := (name_of_methodNamed Bd.named Bd.method).1
  have X0 : Stand p l e ({ frames := 0, cells := 0, slots := 0, locals := 0 } : Room) s m #[(.ref a1), (.int (2 : Int32))] below meth c s₁ [] 0 0 := Stand.of_body Bd
  have e0 : s₁.heap = h0 := by rw [← hh, Bd.state]; rfl
  have N0 := Fr.nil n0
  obtain ⟨f0, hf0⟩ : ∃ f : JFrame, f = mkF m 0 #[rv a1, iv (2 : Int32)] [] := ⟨_, rfl⟩
  have pre0 : ∀ t, Steps p.tables e below (s₁.setTop f0) t → Steps p.tables e below (s₁.setTop (entryFrame m #[(.ref a1), (.int (2 : Int32))] 2)) t := fun t k => castTop ((ef_rmEld2 m a1 (2 : Int32)).trans hf0.symm) k
  have R0 : ∀ t, Steps p.tables e below (s₁.setTop (mkF m 0 #[rv a1, iv (2 : Int32)] [])) t → Steps p.tables e below (s₁.setTop f0) t := by rw [hf0]; exact fun t k => k
  have R1 : ∀ t, Steps p.tables e below (s₁.setTop (mkF m 1 #[rv a1, iv (2 : Int32)] [(.ref a1)])) t → Steps p.tables e below (s₁.setTop f0) t := fun t k => R0 t (by
    show Steps p.tables e below (s₁.setTop (mkF m 0 #[rv a1, iv (2 : Int32)] [])) _
    refine XS.aloadN X0.here hx rfl (hb hby d20_0) rfl rfl ?_
    exact k)
  obtain ⟨T2, X2, e2, st2⟩ := getF X0 hx hZ hown (host := "") (Or.inl (hw _ (List.mem_of_getElem? (i := 52) rfl))) Via.refl e0 F_elementData_a1 (g := (mkF m 1 #[rv a1, iv (2 : Int32)] [(.ref a1)])) rfl rfl (hb hby d20_1)
  have R3 : ∀ t, Steps p.tables e below (T2.setTop (mkF m 4 #[rv a1, iv (2 : Int32)] [(.ref b)])) t → Steps p.tables e below (s₁.setTop f0) t := fun t k => R1 t (st2 t k)
  have R4 : ∀ t, Steps p.tables e below (T2.setTop (mkF m 5 #[rv a1, iv (2 : Int32)] [(.int (2 : Int32)), (.ref b)])) t → Steps p.tables e below (s₁.setTop f0) t := fun t k => R3 t (by
    show Steps p.tables e below (T2.setTop (mkF m 4 #[rv a1, iv (2 : Int32)] [(.ref b)])) _
    refine XS.iloadN X2.here hx rfl (hb hby d20_4) rfl  ?_
    exact k)
  obtain ⟨cl5, Ar5, q5, S5, n5_, H5, G5⟩ := id A_b
  have hin5 : ¬ ((2 : Int32) < 0 ∨ cl5.slots.size ≤ ((2 : Int32)).toNatClampNeg) := inb_of S5 ⟨by decide, by decide⟩
  have hat5 : cl5.slots[((2 : Int32)).toNatClampNeg]? = some (.ref y2) := Has.at H5 hin5 rfl
  have R6 : ∀ t, Steps p.tables e below (T2.setTop (mkF m 6 #[rv a1, iv (2 : Int32)] [(.ref y2)])) t → Steps p.tables e below (s₁.setTop f0) t := fun t k => R4 t (X2.aaload hx (j := (2 : Int32)) (v := (.ref y2)) (by rw [e2]; exact Ar5.1) (State.isArrayOf_alike hZ.alike Ar5.2.1) rfl Ar5.2.2 hin5 hat5 (g := (mkF m 5 #[rv a1, iv (2 : Int32)] [(.int (2 : Int32)), (.ref b)])) rfl rfl (hb hby d20_5) _ k)
  obtain ⟨fs, hr, hrun, hended, hW, hsame⟩ := X2.leave (v := some (.ref y2)) (fun h => by rw [Bd.returns] at h; cases h)
  refine ⟨_, _, pre0 _ (R6 _ ?_), hrun, hended, _, _, rfl, ?_, ⟨_, rfl⟩, hW, hsame.mono (by decide) (by decide)⟩
  · show Steps p.tables e below (T2.setTop (mkF m 6 #[rv a1, iv (2 : Int32)] [(.ref y2)])) _
    exact retOut X2 hx (t := (.object "java/lang/Object")) Bd.returns rfl (Or.inr (Or.inr (Or.inr (Or.inr ⟨rfl, rfl, rfl⟩)))) (hb hby d20_6) hr
  · show Q_rmEld2 Z a1 b kb y0 y1 y2 y3 h0 n0 _ T2.heap _
    rw [e2]
    exact ⟨rfl, N0, rfl⟩
theorem ef_rmGet2 (m : MethodId) (x0 : Addr) (x1 : Int32) : entryFrame m #[(.ref x0), (.int x1)] 2 = mkF m 0 #[rv x0, iv x1] [] := by first | (simp [entryFrame, mkF, argsToLocals, Value.category]; done) | rfl
def Q_rmGet2 (Z : State) (a1 : Addr) (b : Addr) (kb : ClassId) (y0 : Addr) (y1 : Addr) (y2 : Addr) (y3 : Addr) (h0 : Heap) (n0 : Nat) (v : Option Value) (h : Heap) (L : List Loc) : Prop := v = some (.ref y2) ∧ Fr n0 L ∧ h = h0
set_option maxRecDepth 65536 in
set_option maxHeartbeats 40000000 in
theorem rmGet2 (l : Launch) (Z : State) (a0 : Array Value) (hw : ∀ d ∈ tables_1, d.before a0 Z = true) (ws : List Jvm.Cond) (a1 : Addr) (b : Addr) (kb : ClassId) (y0 : Addr) (y1 : Addr) (y2 : Addr) (y3 : Addr) (h0 : Heap) (n0 : Nat) (Z0 : n0 ≤ h0.size) (E_a1 : Exa Z h0 a1 "java/util/ArrayList") (F_elementData_a1 : Fld Z h0 a1 "java/util/ArrayList" "elementData" "[Ljava/lang/Object;" (.ref b)) (F_size_a1 : Fld Z h0 a1 "java/util/ArrayList" "size" "I" (.int (4 : Int32))) (A_b : Arv Z h0 b kb (.object "java/lang/Object") (10 : Int32) [(.ref y0), (.ref y1), (.ref y2), (.ref y3), .null, .null, .null, .null, .null, .null] .null) :
    MetFree l (⟨"java/util/ArrayList", "get", "(I)Ljava/lang/Object;"⟩ : MethodName) (head1 (Jvm.Cond.code (⟨"java/util/ArrayList", "get", "(I)Ljava/lang/Object;"⟩ : MethodName) jdk_38_method_20_code 2 (some (.object "java/lang/Object")) :: ws) ({ frames := 2, cells := 0, slots := 0, locals := 27 } : Room)) (fun a U => a = #[(.ref a1), (.int (2 : Int32))] ∧ Z.Warmed39 U.vm ∧ U.heap = h0) (fun _ _ _ _ _ => True) (fun _ U o U' => ∃ v L, o = .returned v ∧ Q_rmGet2 Z a1 b kb y0 y1 y2 y3 h0 n0 v U'.heap L ∧ FrameEnd U o U' L ({ frames := 2, cells := 0, slots := 0, locals := 27 } : Room).cells ({ frames := 2, cells := 0, slots := 0, locals := 27 } : Room).slots) := by
  refine MetFree.of_bodySF (plainFor_of_name pn_9) hisR ?_
  intro p e s m args below meth c s₁ Bd hml0 hP hK
  obtain ⟨rfl, hZ, hh⟩ := hP
  have hx := Bd.exec
  have hby := Bd.bytes
  have hml : c.maxLocals = 2 := hml0
  have hown : s.vm.findClass "java/util/ArrayList" = some m.cls := findClass_of_methodNamed Bd.named
  have hnm := (name_of_methodNamed Bd.named Bd.method).1
  have X0 : Stand p l e ({ frames := 2, cells := 0, slots := 0, locals := 27 } : Room) s m #[(.ref a1), (.int (2 : Int32))] below meth c s₁ [] 0 0 := Stand.of_body Bd
  have e0 : s₁.heap = h0 := by rw [← hh, Bd.state]; rfl
  have N0 := Fr.nil n0
  obtain ⟨f0, hf0⟩ : ∃ f : JFrame, f = mkF m 0 #[rv a1, iv (2 : Int32)] [] := ⟨_, rfl⟩
  have pre0 : ∀ t, Steps p.tables e below (s₁.setTop f0) t → Steps p.tables e below (s₁.setTop (entryFrame m #[(.ref a1), (.int (2 : Int32))] 2)) t := fun t k => castTop ((ef_rmGet2 m a1 (2 : Int32)).trans hf0.symm) k
  have R0 : ∀ t, Steps p.tables e below (s₁.setTop (mkF m 0 #[rv a1, iv (2 : Int32)] [])) t → Steps p.tables e below (s₁.setTop f0) t := by rw [hf0]; exact fun t k => k
  have R1 : ∀ t, Steps p.tables e below (s₁.setTop (mkF m 2 #[rv a1, iv (2 : Int32)] [(.ref a1), (.int (2 : Int32))])) t → Steps p.tables e below (s₁.setTop f0) t := fun t k => R0 t (by
    show Steps p.tables e below (s₁.setTop (mkF m 0 #[rv a1, iv (2 : Int32)] [])) _
    refine XS.iloadN X0.here hx rfl (hb hby d17_0) rfl  ?_
    show Steps p.tables e below (s₁.setTop (mkF m 1 #[rv a1, iv (2 : Int32)] [(.int (2 : Int32))])) _
    refine XS.aloadN X0.here hx rfl (hb hby d17_1) rfl rfl ?_
    exact k)
  obtain ⟨T2, X2, e2, st2⟩ := getF X0 hx hZ hown (host := "") (Or.inl (hw _ (List.mem_of_getElem? (i := 61) rfl))) Via.refl e0 F_size_a1 (g := (mkF m 2 #[rv a1, iv (2 : Int32)] [(.ref a1), (.int (2 : Int32))])) rfl rfl (hb hby d17_2)
  have R3 : ∀ t, Steps p.tables e below (T2.setTop (mkF m 5 #[rv a1, iv (2 : Int32)] [(.int (4 : Int32)), (.int (2 : Int32))])) t → Steps p.tables e below (s₁.setTop f0) t := fun t k => R1 t (st2 t k)
  obtain ⟨_, _, ⟨T4, L4, k4, n4⟩, -, X4, ⟨Lc4, hQ4, l4, y4, z4⟩, st4⟩ := Jvm.LawKit.callS X2 hx (y := (⟨"java/util/Objects", "checkIndex", "(II)I"⟩ : MethodName)) hown (mvT hZ (hw _ (List.mem_of_getElem? (i := 112) rfl))) (mvT hZ (hw _ (List.mem_of_getElem? (i := 113) rfl))) (mvT hZ (hw _ (List.mem_of_getElem? (i := 114) rfl))) (mvT hZ (hw _ (List.mem_of_getElem? (i := 115) rfl))) (by decide) (backOf (W := 0) (rmObChk2 l Z a0 hw []  h0 n0 Z0) hZ (hw _ (List.mem_of_getElem? (i := 115) rfl)) (hw _ (List.mem_of_getElem? (i := 114) rfl)) (by decide) (by decide)) (g := (mkF m 5 #[rv a1, iv (2 : Int32)] [(.int (4 : Int32)), (.int (2 : Int32))])) rfl (by rw [hml]; rfl) (argsL := [(.int (2 : Int32)), (.int (4 : Int32))]) (rest := []) (lenOf pd_10 rfl) rfl (by show 2 * 0 + _ ≤ _; exact Nat.le_of_eq rfl) (hb hby d17_5) (fun _ _ => ⟨rfl, e2, (by decide : 0 + 0 ≤ _), (by decide : 0 + 0 ≤ _)⟩)
  dsimp only [Pt.U, Pt.locs, Pt.cells, Pt.slots] at X4 l4 y4 z4 st4 hQ4
  subst l4 y4 z4
  obtain ⟨rfl, N4q, p4_0⟩ := hQ4
  have N4 := Fr.app N0 N4q
  have R5 : ∀ t, Steps p.tables e below (T4.setTop (mkF m 8 #[rv a1, iv (2 : Int32)] [(.int (2 : Int32))])) t → Steps p.tables e below (s₁.setTop f0) t := fun t k => R3 t (st4 t k)
  have R6 : ∀ t, Steps p.tables e below (T4.setTop (mkF m 11 #[rv a1, iv (2 : Int32)] [(.int (2 : Int32)), (.ref a1)])) t → Steps p.tables e below (s₁.setTop f0) t := fun t k => R5 t (by
    show Steps p.tables e below (T4.setTop (mkF m 8 #[rv a1, iv (2 : Int32)] [(.int (2 : Int32))])) _
    refine XS.pop X4.here hx rfl (hb hby d17_8) rfl rfl ?_
    show Steps p.tables e below (T4.setTop (mkF m 9 #[rv a1, iv (2 : Int32)] [])) _
    refine XS.aloadN X4.here hx rfl (hb hby d17_9) rfl rfl ?_
    show Steps p.tables e below (T4.setTop (mkF m 10 #[rv a1, iv (2 : Int32)] [(.ref a1)])) _
    refine XS.iloadN X4.here hx rfl (hb hby d17_10) rfl  ?_
    exact k)
  obtain ⟨cq7, kq7, q7a, q7b, q7c⟩ := isOf hZ p4_0 E_a1
  obtain ⟨_, _, ⟨T7, L7, k7, n7⟩, -, X7, ⟨Lc7, hQ7, l7, y7, z7⟩, st7⟩ := X4.virtualBack hx (y := (⟨"java/util/ArrayList", "elementData", "(I)Ljava/lang/Object;"⟩ : MethodName)) (z := (⟨"java/util/ArrayList", "elementData", "(I)Ljava/lang/Object;"⟩ : MethodName)) hown (mvT hZ (hw _ (List.mem_of_getElem? (i := 120) rfl))) (mvT hZ (hw _ (List.mem_of_getElem? (i := 121) rfl))) (notFace_of_selects (args := #[]) (mvT hZ (hw _ (List.mem_of_getElem? (i := 123) rfl)))) (mvT hZ (hw _ (List.mem_of_getElem? (i := 123) rfl))) (mvT hZ (hw _ (List.mem_of_getElem? (i := 122) rfl))) (by decide) (backOf (W := 0) (rmEld2 l Z a0 hw [] a1 b kb y0 y1 y2 y3 h0 n0 Z0 E_a1 F_elementData_a1 F_size_a1 A_b) hZ (hw _ (List.mem_of_getElem? (i := 124) rfl)) (hw _ (List.mem_of_getElem? (i := 32) rfl)) (by decide) (by decide)) q7a q7c (g := (mkF m 11 #[rv a1, iv (2 : Int32)] [(.int (2 : Int32)), (.ref a1)])) rfl (by rw [hml]; rfl) (Steps.refl _) (argsL := [(.int (2 : Int32))]) (rest := []) (lenOf pd_17 rfl) rfl (by show 2 * 0 + _ ≤ _; exact Nat.le_of_eq rfl) (hb hby d17_11) (fun _ _ => ⟨rfl, p4_0, (by decide : 0 + 0 ≤ _), (by decide : 0 + 0 ≤ _)⟩)
  dsimp only [Pt.U, Pt.locs, Pt.cells, Pt.slots] at X7 l7 y7 z7 st7 hQ7
  subst l7 y7 z7
  obtain ⟨rfl, N7q, p7_0⟩ := hQ7
  have N7 := Fr.app N4 N7q
  have R8 : ∀ t, Steps p.tables e below (T7.setTop (mkF m 14 #[rv a1, iv (2 : Int32)] [(.ref y2)])) t → Steps p.tables e below (s₁.setTop f0) t := fun t k => R6 t (st7.trans k)
  obtain ⟨fs, hr, hrun, hended, hW, hsame⟩ := X7.leave (v := some (.ref y2)) (fun h => by rw [Bd.returns] at h; cases h)
  refine ⟨_, _, pre0 _ (R8 _ ?_), hrun, hended, _, _, rfl, ?_, ⟨_, rfl⟩, hW, hsame.mono (by decide) (by decide)⟩
  · show Steps p.tables e below (T7.setTop (mkF m 14 #[rv a1, iv (2 : Int32)] [(.ref y2)])) _
    exact retOut X7 hx (t := (.object "java/lang/Object")) Bd.returns rfl (Or.inr (Or.inr (Or.inr (Or.inr ⟨rfl, rfl, rfl⟩)))) (hb hby d17_14) hr
  · show Q_rmGet2 Z a1 b kb y0 y1 y2 y3 h0 n0 _ T7.heap _
    rw [p7_0]
    exact ⟨rfl, N7, rfl⟩
theorem ef_rmAic (m : MethodId) (x0 : Addr) : entryFrame m #[(.ref x0)] 1 = mkF m 0 #[rv x0] [] := by first | (simp [entryFrame, mkF, argsToLocals, Value.category]; done) | rfl
def Q_rmAic (Z : State) (a1 : Addr) (h0 : Heap) (n0 : Nat) (v : Option Value) (h : Heap) (L : List Loc) : Prop := v = none ∧ Fr n0 L ∧ h = h0
set_option maxRecDepth 65536 in
set_option maxHeartbeats 40000000 in
theorem rmAic (l : Launch) (Z : State) (a0 : Array Value) (hw : ∀ d ∈ tables_1, d.before a0 Z = true) (ws : List Jvm.Cond) (a1 : Addr) (h0 : Heap) (n0 : Nat) (Z0 : n0 ≤ h0.size) :
    MetFree l (⟨"java/util/ImmutableCollections$AbstractImmutableCollection", "<init>", "()V"⟩ : MethodName) (head1 (Jvm.Cond.code (⟨"java/util/ImmutableCollections$AbstractImmutableCollection", "<init>", "()V"⟩ : MethodName) jdk_47_method_1_code 1 none :: ws) ({ frames := 2, cells := 0, slots := 0, locals := 24 } : Room)) (fun a U => a = #[(.ref a1)] ∧ Z.Warmed39 U.vm ∧ U.heap = h0) (fun _ _ _ _ _ => True) (fun _ U o U' => ∃ v L, o = .returned v ∧ Q_rmAic Z a1 h0 n0 v U'.heap L ∧ FrameEnd U o U' L ({ frames := 2, cells := 0, slots := 0, locals := 24 } : Room).cells ({ frames := 2, cells := 0, slots := 0, locals := 24 } : Room).slots) := by
  refine MetFree.of_bodySF (plainFor_of_name pn_18) hisR ?_
  intro p e s m args below meth c s₁ Bd hml0 hP hK
  obtain ⟨rfl, hZ, hh⟩ := hP
  have hx := Bd.exec
  have hby := Bd.bytes
  have hml : c.maxLocals = 1 := hml0
  have hown : s.vm.findClass "java/util/ImmutableCollections$AbstractImmutableCollection" = some m.cls := findClass_of_methodNamed Bd.named
  have hnm := (name_of_methodNamed Bd.named Bd.method).1
  have X0 : Stand p l e ({ frames := 2, cells := 0, slots := 0, locals := 24 } : Room) s m #[(.ref a1)] below meth c s₁ [] 0 0 := Stand.of_body Bd
  have e0 : s₁.heap = h0 := by rw [← hh, Bd.state]; rfl
  have N0 := Fr.nil n0
  obtain ⟨f0, hf0⟩ : ∃ f : JFrame, f = mkF m 0 #[rv a1] [] := ⟨_, rfl⟩
  have pre0 : ∀ t, Steps p.tables e below (s₁.setTop f0) t → Steps p.tables e below (s₁.setTop (entryFrame m #[(.ref a1)] 1)) t := fun t k => castTop ((ef_rmAic m a1).trans hf0.symm) k
  have R0 : ∀ t, Steps p.tables e below (s₁.setTop (mkF m 0 #[rv a1] [])) t → Steps p.tables e below (s₁.setTop f0) t := by rw [hf0]; exact fun t k => k
  have R1 : ∀ t, Steps p.tables e below (s₁.setTop (mkF m 1 #[rv a1] [(.ref a1)])) t → Steps p.tables e below (s₁.setTop f0) t := fun t k => R0 t (by
    show Steps p.tables e below (s₁.setTop (mkF m 0 #[rv a1] [])) _
    refine XS.aloadN X0.here hx rfl (hb hby d24_0) rfl rfl ?_
    exact k)
  obtain ⟨_, _, ⟨T2, L2, k2, n2⟩, -, X2, ⟨Lc2, hQ2, l2, y2, z2⟩, st2⟩ := X0.specialBack hx (y := (⟨"java/util/AbstractCollection", "<init>", "()V"⟩ : MethodName)) rfl hown (mvT hZ (hw _ (List.mem_of_getElem? (i := 149) rfl))) (mvT hZ (hw _ (List.mem_of_getElem? (i := 43) rfl))) (mvT hZ (hw _ (List.mem_of_getElem? (i := 47) rfl))) (by decide) (backOf (W := 0) (rmAci l Z a0 hw [] a1 h0 n0 Z0) hZ (hw _ (List.mem_of_getElem? (i := 47) rfl)) (hw _ (List.mem_of_getElem? (i := 46) rfl)) (by decide) (by decide)) (g := (mkF m 1 #[rv a1] [(.ref a1)])) rfl (by rw [hml]; rfl) (Steps.refl _) (a := a1) (argsL := []) (rest := []) (lenOf pd_8 rfl) rfl (by show 2 * 0 + _ ≤ _; exact Nat.le_of_eq rfl) (hb hby d24_1) (fun _ _ => ⟨rfl, e0, (by decide : 0 + 0 ≤ _), (by decide : 0 + 0 ≤ _)⟩)
  dsimp only [Pt.U, Pt.locs, Pt.cells, Pt.slots] at X2 l2 y2 z2 st2 hQ2
  subst l2 y2 z2
  obtain ⟨rfl, N2q, p2_0⟩ := hQ2
  have N2 := Fr.app N0 N2q
  have R3 : ∀ t, Steps p.tables e below (T2.setTop (mkF m 4 #[rv a1] [])) t → Steps p.tables e below (s₁.setTop f0) t := fun t k => R1 t (st2.trans k)
  obtain ⟨fs, hr, hrun, hended, hW, hsame⟩ := X2.leave (v := none) (fun _ => rfl)
  refine ⟨_, _, pre0 _ (R3 _ ?_), hrun, hended, _, _, rfl, ?_, ⟨_, rfl⟩, hW, hsame.mono (by decide) (by decide)⟩
  · show Steps p.tables e below (T2.setTop (mkF m 4 #[rv a1] [])) _
    exact X2.returnOut hx Bd.returns (hb hby d24_4) hr
  · show Q_rmAic Z a1 h0 n0 _ T2.heap _
    rw [p2_0]
    exact ⟨rfl, N2, rfl⟩
theorem ef_rmAil (m : MethodId) (x0 : Addr) : entryFrame m #[(.ref x0)] 1 = mkF m 0 #[rv x0] [] := by first | (simp [entryFrame, mkF, argsToLocals, Value.category]; done) | rfl
def Q_rmAil (Z : State) (a1 : Addr) (h0 : Heap) (n0 : Nat) (v : Option Value) (h : Heap) (L : List Loc) : Prop := v = none ∧ Fr n0 L ∧ h = h0
set_option maxRecDepth 65536 in
set_option maxHeartbeats 40000000 in
theorem rmAil (l : Launch) (Z : State) (a0 : Array Value) (hw : ∀ d ∈ tables_1, d.before a0 Z = true) (ws : List Jvm.Cond) (a1 : Addr) (h0 : Heap) (n0 : Nat) (Z0 : n0 ≤ h0.size) :
    MetFree l (⟨"java/util/ImmutableCollections$AbstractImmutableList", "<init>", "()V"⟩ : MethodName) (head1 (Jvm.Cond.code (⟨"java/util/ImmutableCollections$AbstractImmutableList", "<init>", "()V"⟩ : MethodName) jdk_46_method_1_code 1 none :: ws) ({ frames := 3, cells := 0, slots := 0, locals := 36 } : Room)) (fun a U => a = #[(.ref a1)] ∧ Z.Warmed39 U.vm ∧ U.heap = h0) (fun _ _ _ _ _ => True) (fun _ U o U' => ∃ v L, o = .returned v ∧ Q_rmAil Z a1 h0 n0 v U'.heap L ∧ FrameEnd U o U' L ({ frames := 3, cells := 0, slots := 0, locals := 36 } : Room).cells ({ frames := 3, cells := 0, slots := 0, locals := 36 } : Room).slots) := by
  refine MetFree.of_bodySF (plainFor_of_name pn_19) hisR ?_
  intro p e s m args below meth c s₁ Bd hml0 hP hK
  obtain ⟨rfl, hZ, hh⟩ := hP
  have hx := Bd.exec
  have hby := Bd.bytes
  have hml : c.maxLocals = 1 := hml0
  have hown : s.vm.findClass "java/util/ImmutableCollections$AbstractImmutableList" = some m.cls := findClass_of_methodNamed Bd.named
  have hnm := (name_of_methodNamed Bd.named Bd.method).1
  have X0 : Stand p l e ({ frames := 3, cells := 0, slots := 0, locals := 36 } : Room) s m #[(.ref a1)] below meth c s₁ [] 0 0 := Stand.of_body Bd
  have e0 : s₁.heap = h0 := by rw [← hh, Bd.state]; rfl
  have N0 := Fr.nil n0
  obtain ⟨f0, hf0⟩ : ∃ f : JFrame, f = mkF m 0 #[rv a1] [] := ⟨_, rfl⟩
  have pre0 : ∀ t, Steps p.tables e below (s₁.setTop f0) t → Steps p.tables e below (s₁.setTop (entryFrame m #[(.ref a1)] 1)) t := fun t k => castTop ((ef_rmAil m a1).trans hf0.symm) k
  have R0 : ∀ t, Steps p.tables e below (s₁.setTop (mkF m 0 #[rv a1] [])) t → Steps p.tables e below (s₁.setTop f0) t := by rw [hf0]; exact fun t k => k
  have R1 : ∀ t, Steps p.tables e below (s₁.setTop (mkF m 1 #[rv a1] [(.ref a1)])) t → Steps p.tables e below (s₁.setTop f0) t := fun t k => R0 t (by
    show Steps p.tables e below (s₁.setTop (mkF m 0 #[rv a1] [])) _
    refine XS.aloadN X0.here hx rfl (hb hby d23_0) rfl rfl ?_
    exact k)
  obtain ⟨_, _, ⟨T2, L2, k2, n2⟩, -, X2, ⟨Lc2, hQ2, l2, y2, z2⟩, st2⟩ := X0.specialBack hx (y := (⟨"java/util/ImmutableCollections$AbstractImmutableCollection", "<init>", "()V"⟩ : MethodName)) rfl hown (mvT hZ (hw _ (List.mem_of_getElem? (i := 143) rfl))) (mvT hZ (hw _ (List.mem_of_getElem? (i := 144) rfl))) (mvT hZ (hw _ (List.mem_of_getElem? (i := 148) rfl))) (by decide) (backOf (W := 0) (rmAic l Z a0 hw [] a1 h0 n0 Z0) hZ (hw _ (List.mem_of_getElem? (i := 148) rfl)) (hw _ (List.mem_of_getElem? (i := 147) rfl)) (by decide) (by decide)) (g := (mkF m 1 #[rv a1] [(.ref a1)])) rfl (by rw [hml]; rfl) (Steps.refl _) (a := a1) (argsL := []) (rest := []) (lenOf pd_8 rfl) rfl (by show 2 * 0 + _ ≤ _; exact Nat.le_of_eq rfl) (hb hby d23_1) (fun _ _ => ⟨rfl, e0, (by decide : 0 + 0 ≤ _), (by decide : 0 + 0 ≤ _)⟩)
  dsimp only [Pt.U, Pt.locs, Pt.cells, Pt.slots] at X2 l2 y2 z2 st2 hQ2
  subst l2 y2 z2
  obtain ⟨rfl, N2q, p2_0⟩ := hQ2
  have N2 := Fr.app N0 N2q
  have R3 : ∀ t, Steps p.tables e below (T2.setTop (mkF m 4 #[rv a1] [])) t → Steps p.tables e below (s₁.setTop f0) t := fun t k => R1 t (st2.trans k)
  obtain ⟨fs, hr, hrun, hended, hW, hsame⟩ := X2.leave (v := none) (fun _ => rfl)
  refine ⟨_, _, pre0 _ (R3 _ ?_), hrun, hended, _, _, rfl, ?_, ⟨_, rfl⟩, hW, hsame.mono (by decide) (by decide)⟩
  · show Steps p.tables e below (T2.setTop (mkF m 4 #[rv a1] [])) _
    exact X2.returnOut hx Bd.returns (hb hby d23_4) hr
  · show Q_rmAil Z a1 h0 n0 _ T2.heap _
    rw [p2_0]
    exact ⟨rfl, N2, rfl⟩
theorem ef_rmRnn (m : MethodId) (x0 : Addr) : entryFrame m #[(.ref x0)] 1 = mkF m 0 #[rv x0] [] := by first | (simp [entryFrame, mkF, argsToLocals, Value.category]; done) | rfl
def Q_rmRnn (Z : State) (a1 : Addr) (h0 : Heap) (n0 : Nat) (v : Option Value) (h : Heap) (L : List Loc) : Prop := v = some (.ref a1) ∧ Fr n0 L ∧ h = h0
set_option maxRecDepth 65536 in
set_option maxHeartbeats 40000000 in
theorem rmRnn (l : Launch) (Z : State) (a0 : Array Value) (hw : ∀ d ∈ tables_1, d.before a0 Z = true) (ws : List Jvm.Cond) (a1 : Addr) (h0 : Heap) (n0 : Nat) (Z0 : n0 ≤ h0.size) :
    MetFree l (⟨"java/util/Objects", "requireNonNull", "(Ljava/lang/Object;)Ljava/lang/Object;"⟩ : MethodName) (head1 (Jvm.Cond.code (⟨"java/util/Objects", "requireNonNull", "(Ljava/lang/Object;)Ljava/lang/Object;"⟩ : MethodName) jdk_31_method_10_code 1 (some (.object "java/lang/Object")) :: ws) ({ frames := 0, cells := 0, slots := 0, locals := 0 } : Room)) (fun a U => a = #[(.ref a1)] ∧ Z.Warmed39 U.vm ∧ U.heap = h0) (fun _ _ _ _ _ => True) (fun _ U o U' => ∃ v L, o = .returned v ∧ Q_rmRnn Z a1 h0 n0 v U'.heap L ∧ FrameEnd U o U' L ({ frames := 0, cells := 0, slots := 0, locals := 0 } : Room).cells ({ frames := 0, cells := 0, slots := 0, locals := 0 } : Room).slots) := by
  refine MetFree.of_bodySF (plainFor_of_name pn_15) hisR ?_
  intro p e s m args below meth c s₁ Bd hml0 hP hK
  obtain ⟨rfl, hZ, hh⟩ := hP
  have hx := Bd.exec
  have hby := Bd.bytes
  have hml : c.maxLocals = 1 := hml0
  have hown : s.vm.findClass "java/util/Objects" = some m.cls := findClass_of_methodNamed Bd.named
  have hnm := (name_of_methodNamed Bd.named Bd.method).1
  have X0 : Stand p l e ({ frames := 0, cells := 0, slots := 0, locals := 0 } : Room) s m #[(.ref a1)] below meth c s₁ [] 0 0 := Stand.of_body Bd
  have e0 : s₁.heap = h0 := by rw [← hh, Bd.state]; rfl
  have N0 := Fr.nil n0
  obtain ⟨f0, hf0⟩ : ∃ f : JFrame, f = mkF m 0 #[rv a1] [] := ⟨_, rfl⟩
  have pre0 : ∀ t, Steps p.tables e below (s₁.setTop f0) t → Steps p.tables e below (s₁.setTop (entryFrame m #[(.ref a1)] 1)) t := fun t k => castTop ((ef_rmRnn m a1).trans hf0.symm) k
  have R0 : ∀ t, Steps p.tables e below (s₁.setTop (mkF m 0 #[rv a1] [])) t → Steps p.tables e below (s₁.setTop f0) t := by rw [hf0]; exact fun t k => k
  have R1 : ∀ t, Steps p.tables e below (s₁.setTop (mkF m 13 #[rv a1] [(.ref a1)])) t → Steps p.tables e below (s₁.setTop f0) t := fun t k => R0 t (by
    show Steps p.tables e below (s₁.setTop (mkF m 0 #[rv a1] [])) _
    refine XS.aloadN X0.here hx rfl (hb hby d25_0) rfl rfl ?_
    show Steps p.tables e below (s₁.setTop (mkF m 1 #[rv a1] [(.ref a1)])) _
    refine XS.ifnonnullYes X0.here hx rfl (pc0 := 1) (pc' := 12) rfl (hb hby d25_1) rfl (by decide) (by decide) ?_
    show Steps p.tables e below (s₁.setTop (mkF m 12 #[rv a1] [])) _
    refine XS.aloadN X0.here hx rfl (hb hby d25_12) rfl rfl ?_
    exact k)
  obtain ⟨fs, hr, hrun, hended, hW, hsame⟩ := X0.leave (v := some (.ref a1)) (fun h => by rw [Bd.returns] at h; cases h)
  refine ⟨_, _, pre0 _ (R1 _ ?_), hrun, hended, _, _, rfl, ?_, ⟨_, rfl⟩, hW, hsame.mono (by decide) (by decide)⟩
  · show Steps p.tables e below (s₁.setTop (mkF m 13 #[rv a1] [(.ref a1)])) _
    exact retOut X0 hx (t := (.object "java/lang/Object")) Bd.returns rfl (Or.inr (Or.inr (Or.inr (Or.inr ⟨rfl, rfl, rfl⟩)))) (hb hby d25_13) hr
  · show Q_rmRnn Z a1 h0 n0 _ s₁.heap _
    rw [e0]
    exact ⟨rfl, N0, rfl⟩
theorem ef_rmL12 (m : MethodId) (x0 : Addr) (x1 : Addr) : entryFrame m #[(.ref x0), (.ref x1)] 2 = mkF m 0 #[rv x0, rv x1] [] := by first | (simp [entryFrame, mkF, argsToLocals, Value.category]; done) | rfl
def Q_rmL12 (Z : State) (a1 : Addr) (x1 : Addr) (u1 : Value) (u2 : Value) (em : Addr) (h0 : Heap) (n0 : Nat) (v : Option Value) (h : Heap) (L : List Loc) : Prop := v = none ∧ Fr n0 L ∧ Keep h0 h [a1] ∧ (Fld Z h a1 sN3 "e0" "Ljava/lang/Object;" (.ref x1)) ∧ (Fld Z h a1 sN3 "e1" "Ljava/lang/Object;" (.ref em))
set_option maxRecDepth 65536 in
set_option maxHeartbeats 40000000 in
theorem rmL12 (l : Launch) (Z : State) (a0 : Array Value) (hw : ∀ d ∈ tables_1, d.before a0 Z = true) (ws : List Jvm.Cond) (a1 : Addr) (x1 : Addr) (u1 : Value) (u2 : Value) (em : Addr) (h0 : Heap) (n0 : Nat) (Z0 : n0 ≤ h0.size) (E_a1 : Exa Z h0 a1 sN3) (F_e0_a1 : Fld Z h0 a1 sN3 "e0" "Ljava/lang/Object;" u1) (F_e1_a1 : Fld Z h0 a1 sN3 "e1" "Ljava/lang/Object;" u2) (g_a1 : n0 ≤ a1) (S_ImmutableCollections_EMPTY : Sta Z h0 sN1 "EMPTY" "Ljava/lang/Object;" (.ref em)) :
    MetFree l (⟨sN3, "<init>", "(Ljava/lang/Object;)V"⟩ : MethodName) (head1 (Jvm.Cond.code (⟨sN3, "<init>", "(Ljava/lang/Object;)V"⟩ : MethodName) jdk_44_method_1_code 2 none :: ws) ({ frames := 4, cells := 0, slots := 0, locals := 48 } : Room)) (fun a U => a = #[(.ref a1), (.ref x1)] ∧ Z.Warmed39 U.vm ∧ U.heap = h0) (fun _ _ _ _ _ => True) (fun _ U o U' => ∃ v L, o = .returned v ∧ Q_rmL12 Z a1 x1 u1 u2 em h0 n0 v U'.heap L ∧ FrameEnd U o U' L ({ frames := 4, cells := 0, slots := 0, locals := 48 } : Room).cells ({ frames := 4, cells := 0, slots := 0, locals := 48 } : Room).slots) := by
  refine MetFree.of_bodySF (plainFor_of_name pn_20) hisR ?_
  intro p e s m args below meth c s₁ Bd hml0 hP hK
  obtain ⟨rfl, hZ, hh⟩ := hP
  have hx := Bd.exec
  have hby := Bd.bytes
  have hml : c.maxLocals = 2 := hml0
  have hown : s.vm.findClass sN3 = some m.cls := findClass_of_methodNamed Bd.named
  have hnm := (name_of_methodNamed Bd.named Bd.method).1
  have X0 : Stand p l e ({ frames := 4, cells := 0, slots := 0, locals := 48 } : Room) s m #[(.ref a1), (.ref x1)] below meth c s₁ [] 0 0 := Stand.of_body Bd
  have e0 : s₁.heap = h0 := by rw [← hh, Bd.state]; rfl
  have N0 := Fr.nil n0
  obtain ⟨f0, hf0⟩ : ∃ f : JFrame, f = mkF m 0 #[rv a1, rv x1] [] := ⟨_, rfl⟩
  have pre0 : ∀ t, Steps p.tables e below (s₁.setTop f0) t → Steps p.tables e below (s₁.setTop (entryFrame m #[(.ref a1), (.ref x1)] 2)) t := fun t k => castTop ((ef_rmL12 m a1 x1).trans hf0.symm) k
  have R0 : ∀ t, Steps p.tables e below (s₁.setTop (mkF m 0 #[rv a1, rv x1] [])) t → Steps p.tables e below (s₁.setTop f0) t := by rw [hf0]; exact fun t k => k
  have R1 : ∀ t, Steps p.tables e below (s₁.setTop (mkF m 1 #[rv a1, rv x1] [(.ref a1)])) t → Steps p.tables e below (s₁.setTop f0) t := fun t k => R0 t (by
    show Steps p.tables e below (s₁.setTop (mkF m 0 #[rv a1, rv x1] [])) _
    refine XS.aloadN X0.here hx rfl (hb hby d22_0) rfl rfl ?_
    exact k)
  obtain ⟨_, _, ⟨T2, L2, k2, n2⟩, -, X2, ⟨Lc2, hQ2, l2, y2, z2⟩, st2⟩ := X0.specialBack hx (y := (⟨"java/util/ImmutableCollections$AbstractImmutableList", "<init>", "()V"⟩ : MethodName)) rfl hown (mvT hZ (hw _ (List.mem_of_getElem? (i := 137) rfl))) (mvT hZ (hw _ (List.mem_of_getElem? (i := 138) rfl))) (mvT hZ (hw _ (List.mem_of_getElem? (i := 142) rfl))) (by decide) (backOf (W := 0) (rmAil l Z a0 hw [] a1 h0 n0 Z0) hZ (hw _ (List.mem_of_getElem? (i := 142) rfl)) (hw _ (List.mem_of_getElem? (i := 141) rfl)) (by decide) (by decide)) (g := (mkF m 1 #[rv a1, rv x1] [(.ref a1)])) rfl (by rw [hml]; rfl) (Steps.refl _) (a := a1) (argsL := []) (rest := []) (lenOf pd_8 rfl) rfl (by show 2 * 0 + _ ≤ _; exact Nat.le_of_eq rfl) (hb hby d22_1) (fun _ _ => ⟨rfl, e0, (by decide : 0 + 0 ≤ _), (by decide : 0 + 0 ≤ _)⟩)
  dsimp only [Pt.U, Pt.locs, Pt.cells, Pt.slots] at X2 l2 y2 z2 st2 hQ2
  subst l2 y2 z2
  obtain ⟨rfl, N2q, p2_0⟩ := hQ2
  have N2 := Fr.app N0 N2q
  have R3 : ∀ t, Steps p.tables e below (T2.setTop (mkF m 4 #[rv a1, rv x1] [])) t → Steps p.tables e below (s₁.setTop f0) t := fun t k => R1 t (st2.trans k)
  have R4 : ∀ t, Steps p.tables e below (T2.setTop (mkF m 6 #[rv a1, rv x1] [(.ref x1), (.ref a1)])) t → Steps p.tables e below (s₁.setTop f0) t := fun t k => R3 t (by
    show Steps p.tables e below (T2.setTop (mkF m 4 #[rv a1, rv x1] [])) _
    refine XS.aloadN X2.here hx rfl (hb hby d22_4) rfl rfl ?_
    show Steps p.tables e below (T2.setTop (mkF m 5 #[rv a1, rv x1] [(.ref a1)])) _
    refine XS.aloadN X2.here hx rfl (hb hby d22_5) rfl rfl ?_
    exact k)
  obtain ⟨_, _, ⟨T5, L5, k5, n5⟩, -, X5, ⟨Lc5, hQ5, l5, y5, z5⟩, st5⟩ := Jvm.LawKit.callS X2 hx (y := (⟨"java/util/Objects", "requireNonNull", "(Ljava/lang/Object;)Ljava/lang/Object;"⟩ : MethodName)) hown (mvT hZ (hw _ (List.mem_of_getElem? (i := 151) rfl))) (mvT hZ (hw _ (List.mem_of_getElem? (i := 152) rfl))) (mvT hZ (hw _ (List.mem_of_getElem? (i := 114) rfl))) (mvT hZ (hw _ (List.mem_of_getElem? (i := 153) rfl))) (by decide) (backOf (W := 1) (rmRnn l Z a0 hw [] x1 h0 n0 Z0) hZ (hw _ (List.mem_of_getElem? (i := 153) rfl)) (hw _ (List.mem_of_getElem? (i := 114) rfl)) (by decide) (by decide)) (g := (mkF m 6 #[rv a1, rv x1] [(.ref x1), (.ref a1)])) rfl (by rw [hml]; rfl) (argsL := [(.ref x1)]) (rest := [(.ref a1)]) (lenOf pd_21 rfl) rfl (by show 2 * 0 + _ ≤ _; exact Nat.le_of_eq rfl) (hb hby d22_6) (fun _ _ => ⟨rfl, p2_0, (by decide : 0 + 0 ≤ _), (by decide : 0 + 0 ≤ _)⟩)
  dsimp only [Pt.U, Pt.locs, Pt.cells, Pt.slots] at X5 l5 y5 z5 st5 hQ5
  subst l5 y5 z5
  obtain ⟨rfl, N5q, p5_0⟩ := hQ5
  have N5 := Fr.app N2 N5q
  have R6 : ∀ t, Steps p.tables e below (T5.setTop (mkF m 9 #[rv a1, rv x1] [(.ref x1), (.ref a1)])) t → Steps p.tables e below (s₁.setTop f0) t := fun t k => R4 t (st5 t k)
  obtain ⟨T7, h7, X7, e7, W7, st7⟩ := putF X5 hx hZ hown (host := "") (Or.inl (hw _ (List.mem_of_getElem? (i := 154) rfl))) Via.refl p5_0 F_e0_a1 E_a1 (Or.inr ⟨(hw _ (List.mem_of_getElem? (i := 155) rfl)), rfl, hnm⟩) (hw _ (List.mem_of_getElem? (i := 131) rfl)) (ty := (.object "java/lang/Object")) (by decide) rfl rfl (g := (mkF m 9 #[rv a1, rv x1] [(.ref x1), (.ref a1)])) rfl rfl (hb hby d22_9)
  have fw7 : Fld Z h7 a1 sN3 "e0" "Ljava/lang/Object;" (.ref x1) := F_e0_a1.same W7
  have f7_E_a1 : Exa Z h7 a1 sN3 := E_a1.wr W7
  have f7_F_e1_a1 : Fld Z h7 a1 sN3 "e1" "Ljava/lang/Object;" u2 := F_e1_a1.other W7 (Or.inr (slot_ne (Or.inr (hw _ (List.mem_of_getElem? (i := 159) rfl))) (Or.inr (hw _ (List.mem_of_getElem? (i := 155) rfl))) (by decide) (t := (.object "java/lang/Object")) (t' := (.object "java/lang/Object")) (by decide) (by decide)))
  have f7_S_ImmutableCollections_EMPTY : Sta Z h7 sN1 "EMPTY" "Ljava/lang/Object;" (.ref em) := S_ImmutableCollections_EMPTY.wr W7
  have z7 : n0 ≤ h7.size := by rw [W7.size]; exact Z0
  have K7 : Keep h0 h7 [a1] := (Keep.refl h0 [a1]).wr W7 (Or.inl (List.mem_of_getElem? (i := 0) rfl))
  have N7 := Fr.snoc X7 N5 g_a1
  have R8 : ∀ t, Steps p.tables e below (T7.setTop (mkF m 12 #[rv a1, rv x1] [])) t → Steps p.tables e below (s₁.setTop f0) t := fun t k => R6 t (st7 t k)
  have R9 : ∀ t, Steps p.tables e below (T7.setTop (mkF m 13 #[rv a1, rv x1] [(.ref a1)])) t → Steps p.tables e below (s₁.setTop f0) t := fun t k => R8 t (by
    show Steps p.tables e below (T7.setTop (mkF m 12 #[rv a1, rv x1] [])) _
    refine XS.aloadN X7.here hx rfl (hb hby d22_12) rfl rfl ?_
    exact k)
  obtain ⟨T10, X10, e10, st10⟩ := getS2 X7 hx hZ hown (Or.inr (hw _ (List.mem_of_getElem? (i := 156) rfl))) Via.refl e7 f7_S_ImmutableCollections_EMPTY (g := (mkF m 13 #[rv a1, rv x1] [(.ref a1)])) rfl (hb hby d22_13)
  have R11 : ∀ t, Steps p.tables e below (T10.setTop (mkF m 16 #[rv a1, rv x1] [(.ref em), (.ref a1)])) t → Steps p.tables e below (s₁.setTop f0) t := fun t k => R9 t (st10 t k)
  obtain ⟨T12, h12, X12, e12, W12, st12⟩ := putF X10 hx hZ hown (host := "") (Or.inl (hw _ (List.mem_of_getElem? (i := 158) rfl))) Via.refl e10 f7_F_e1_a1 f7_E_a1 (Or.inr ⟨(hw _ (List.mem_of_getElem? (i := 159) rfl)), rfl, hnm⟩) (hw _ (List.mem_of_getElem? (i := 131) rfl)) (ty := (.object "java/lang/Object")) (by decide) rfl rfl (g := (mkF m 16 #[rv a1, rv x1] [(.ref em), (.ref a1)])) rfl rfl (hb hby d22_16)
  have fw12 : Fld Z h12 a1 sN3 "e1" "Ljava/lang/Object;" (.ref em) := f7_F_e1_a1.same W12
  have f12_E_a1 : Exa Z h12 a1 sN3 := f7_E_a1.wr W12
  have f12_F_e0_a1 : Fld Z h12 a1 sN3 "e0" "Ljava/lang/Object;" (.ref x1) := fw7.other W12 (Or.inr (slot_ne (Or.inr (hw _ (List.mem_of_getElem? (i := 155) rfl))) (Or.inr (hw _ (List.mem_of_getElem? (i := 159) rfl))) (by decide) (t := (.object "java/lang/Object")) (t' := (.object "java/lang/Object")) (by decide) (by decide)))
  have f12_S_ImmutableCollections_EMPTY : Sta Z h12 sN1 "EMPTY" "Ljava/lang/Object;" (.ref em) := f7_S_ImmutableCollections_EMPTY.wr W12
  have z12 : n0 ≤ h12.size := by rw [W12.size]; exact z7
  have K12 : Keep h0 h12 [a1] := K7.wr W12 (Or.inl (List.mem_of_getElem? (i := 0) rfl))
  have N12 := Fr.snoc X12 N7 g_a1
  have R13 : ∀ t, Steps p.tables e below (T12.setTop (mkF m 19 #[rv a1, rv x1] [])) t → Steps p.tables e below (s₁.setTop f0) t := fun t k => R11 t (st12 t k)
  obtain ⟨fs, hr, hrun, hended, hW, hsame⟩ := X12.leave (v := none) (fun _ => rfl)
  refine ⟨_, _, pre0 _ (R13 _ ?_), hrun, hended, _, _, rfl, ?_, ⟨_, rfl⟩, hW, hsame.mono (by decide) (by decide)⟩
  · show Steps p.tables e below (T12.setTop (mkF m 19 #[rv a1, rv x1] [])) _
    exact X12.returnOut hx Bd.returns (hb hby d22_19) hr
  · show Q_rmL12 Z a1 x1 u1 u2 em h0 n0 _ T12.heap _
    rw [e12]
    exact ⟨rfl, N12, K12, f12_F_e0_a1, fw12⟩
theorem ef_rmLof (m : MethodId) (x0 : Addr) : entryFrame m #[(.ref x0)] 1 = mkF m 0 #[rv x0] [] := by first | (simp [entryFrame, mkF, argsToLocals, Value.category]; done) | rfl
def Q_rmLof (Z : State) (x1 : Addr) (em : Addr) (h0 : Heap) (n0 : Nat) (v : Option Value) (h : Heap) (L : List Loc) : Prop := ∃ r : Addr, v = some (.ref r) ∧ Fr n0 L ∧ Keep h0 h [] ∧ (Exa Z h r sN3) ∧ (Fld Z h r sN3 "e0" "Ljava/lang/Object;" (.ref x1)) ∧ (Fld Z h r sN3 "e1" "Ljava/lang/Object;" (.ref em)) ∧ (h0.size ≤ r)
set_option maxRecDepth 65536 in
set_option maxHeartbeats 40000000 in
theorem rmLof (l : Launch) (Z : State) (a0 : Array Value) (hw : ∀ d ∈ tables_1, d.before a0 Z = true) (ws : List Jvm.Cond) (x1 : Addr) (em : Addr) (h0 : Heap) (n0 : Nat) (Z0 : n0 ≤ h0.size) (S_ImmutableCollections_EMPTY : Sta Z h0 sN1 "EMPTY" "Ljava/lang/Object;" (.ref em)) :
    MetFree l (⟨"java/util/List", "of", "(Ljava/lang/Object;)Ljava/util/List;"⟩ : MethodName) (head1 (Jvm.Cond.code (⟨"java/util/List", "of", "(Ljava/lang/Object;)Ljava/util/List;"⟩ : MethodName) jdk_40_method_37_code 1 (some (.object "java/util/List")) :: ws) ({ frames := 5, cells := 1, slots := 2, locals := 62 } : Room)) (fun a U => a = #[(.ref x1)] ∧ Z.Warmed39 U.vm ∧ U.heap = h0) (fun _ _ _ _ _ => True) (fun _ U o U' => ∃ v L, o = .returned v ∧ Q_rmLof Z x1 em h0 n0 v U'.heap L ∧ FrameEnd U o U' L ({ frames := 5, cells := 1, slots := 2, locals := 62 } : Room).cells ({ frames := 5, cells := 1, slots := 2, locals := 62 } : Room).slots) := by
  refine MetFree.of_bodySF (plainFor_of_name pn_22) hisR ?_
  intro p e s m args below meth c s₁ Bd hml0 hP hK
  obtain ⟨rfl, hZ, hh⟩ := hP
  have hx := Bd.exec
  have hby := Bd.bytes
  have hml : c.maxLocals = 1 := hml0
  have hown : s.vm.findClass "java/util/List" = some m.cls := findClass_of_methodNamed Bd.named
  have hnm := (name_of_methodNamed Bd.named Bd.method).1
  have X0 : Stand p l e ({ frames := 5, cells := 1, slots := 2, locals := 62 } : Room) s m #[(.ref x1)] below meth c s₁ [] 0 0 := Stand.of_body Bd
  have e0 : s₁.heap = h0 := by rw [← hh, Bd.state]; rfl
  have N0 := Fr.nil n0
  obtain ⟨f0, hf0⟩ : ∃ f : JFrame, f = mkF m 0 #[rv x1] [] := ⟨_, rfl⟩
  have pre0 : ∀ t, Steps p.tables e below (s₁.setTop f0) t → Steps p.tables e below (s₁.setTop (entryFrame m #[(.ref x1)] 1)) t := fun t k => castTop ((ef_rmLof m x1).trans hf0.symm) k
  have R0 : ∀ t, Steps p.tables e below (s₁.setTop (mkF m 0 #[rv x1] [])) t → Steps p.tables e below (s₁.setTop f0) t := by rw [hf0]; exact fun t k => k
  obtain ⟨T1, h1, X1, e1, E1, A1, D1, -, st1⟩ := newO X0 hx hZ hown (hw _ (List.mem_of_getElem? (i := 130) rfl)) (hw _ (List.mem_of_getElem? (i := 131) rfl)) (hw _ (List.mem_of_getElem? (i := 132) rfl)) e0 (g := (mkF m 0 #[rv x1] [])) rfl (hb hby d21_0) (by decide) (by decide)
  obtain ⟨b1, g1⟩ : ∃ z, z = h0.size := ⟨_, rfl⟩
  rw [← g1] at A1 D1 st1
  have g_b1 : n0 ≤ b1 := Nat.le_trans Z0 (Nat.le_of_eq g1.symm)
  have sz_b1 : h0.size ≤ b1 := Nat.le_trans (Keep.refl h0 []).1 (Nat.le_of_eq g1.symm)
  have f1_S_ImmutableCollections_EMPTY : Sta Z h1 sN1 "EMPTY" "Ljava/lang/Object;" (.ref em) := S_ImmutableCollections_EMPTY.ext E1
  have z1 : n0 ≤ h1.size := Nat.le_trans Z0 E1.1
  have K1 : Keep h0 h1 [] := (Keep.refl h0 []).ext E1
  have d1_e0 : Fld Z h1 b1 sN3 "e0" "Ljava/lang/Object;" .null := D1 (Or.inr (hw _ (List.mem_of_getElem? (i := 155) rfl))) (ty := (.object "java/lang/Object")) (by decide)
  have d1_e1 : Fld Z h1 b1 sN3 "e1" "Ljava/lang/Object;" .null := D1 (Or.inr (hw _ (List.mem_of_getElem? (i := 159) rfl))) (ty := (.object "java/lang/Object")) (by decide)
  have R2 : ∀ t, Steps p.tables e below (T1.setTop (mkF m 3 #[rv x1] [(.ref b1)])) t → Steps p.tables e below (s₁.setTop f0) t := fun t k => R0 t (st1 t k)
  have R3 : ∀ t, Steps p.tables e below (T1.setTop (mkF m 5 #[rv x1] [(.ref x1), (.ref b1), (.ref b1)])) t → Steps p.tables e below (s₁.setTop f0) t := fun t k => R2 t (by
    show Steps p.tables e below (T1.setTop (mkF m 3 #[rv x1] [(.ref b1)])) _
    refine XS.dup X1.here hx rfl (hb hby d21_3) rfl rfl ?_
    show Steps p.tables e below (T1.setTop (mkF m 4 #[rv x1] [(.ref b1), (.ref b1)])) _
    refine XS.aloadN X1.here hx rfl (hb hby d21_4) rfl rfl ?_
    exact k)
  obtain ⟨_, _, ⟨T4, L4, k4, n4⟩, -, X4, ⟨Lc4, hQ4, l4, y4, z4⟩, st4⟩ := X1.specialBack hx (y := (⟨sN3, "<init>", "(Ljava/lang/Object;)V"⟩ : MethodName)) rfl hown (mvT hZ (hw _ (List.mem_of_getElem? (i := 133) rfl))) (mvT hZ (hw _ (List.mem_of_getElem? (i := 134) rfl))) (mvT hZ (hw _ (List.mem_of_getElem? (i := 136) rfl))) (by decide) (backOf (W := 1) (rmL12 l Z a0 hw [] b1 x1 .null .null em h1 n0 z1 A1 d1_e0 d1_e1 g_b1 f1_S_ImmutableCollections_EMPTY) hZ (hw _ (List.mem_of_getElem? (i := 136) rfl)) (hw _ (List.mem_of_getElem? (i := 132) rfl)) (by decide) (by decide)) (g := (mkF m 5 #[rv x1] [(.ref x1), (.ref b1), (.ref b1)])) rfl (by rw [hml]; rfl) (Steps.refl _) (a := b1) (argsL := [(.ref x1)]) (rest := [(.ref b1)]) (lenOf pd_23 rfl) rfl (by show 2 * 0 + _ ≤ _; exact Nat.le_of_eq rfl) (hb hby d21_5) (fun _ _ => ⟨rfl, e1, (by decide : 1 + 0 ≤ _), (by decide : 2 + 0 ≤ _)⟩)
  dsimp only [Pt.U, Pt.locs, Pt.cells, Pt.slots] at X4 l4 y4 z4 st4 hQ4
  subst l4 y4 z4
  obtain ⟨rfl, N4q, p4_0, p4_1, p4_2⟩ := hQ4
  have N4 := Fr.app N0 N4q
  have f4_S_ImmutableCollections_EMPTY : Sta Z T4.heap sN1 "EMPTY" "Ljava/lang/Object;" (.ref em) := own_sta_keep f1_S_ImmutableCollections_EMPTY p4_0 (nsS A1.nostat ns0)
  have f4_E_b1 : Exa Z T4.heap b1 sN3 := A1.keep p4_0
  have z4 : n0 ≤ T4.heap.size := Nat.le_trans z1 p4_0.1
  have K4 : Keep h0 T4.heap [] := K1.trans p4_0 (allS (Or.inr sz_b1) all0)
  have R5 : ∀ t, Steps p.tables e below (T4.setTop (mkF m 8 #[rv x1] [(.ref b1)])) t → Steps p.tables e below (s₁.setTop f0) t := fun t k => R3 t (st4.trans k)
  obtain ⟨fs, hr, hrun, hended, hW, hsame⟩ := X4.leave (v := some (.ref b1)) (fun h => by rw [Bd.returns] at h; cases h)
  refine ⟨_, _, pre0 _ (R5 _ ?_), hrun, hended, _, _, rfl, ?_, ⟨_, rfl⟩, hW, hsame.mono (by decide) (by decide)⟩
  · show Steps p.tables e below (T4.setTop (mkF m 8 #[rv x1] [(.ref b1)])) _
    exact retOut X4 hx (t := (.object "java/util/List")) Bd.returns rfl (Or.inr (Or.inr (Or.inr (Or.inr ⟨rfl, rfl, rfl⟩)))) (hb hby d21_8) hr
  · show Q_rmLof Z x1 em h0 n0 _ T4.heap _
    exact ⟨b1, rfl, N4, K4, f4_E_b1, p4_1, p4_2, sz_b1⟩
theorem ef_rmLof0 (m : MethodId)  : entryFrame m #[] 0 = mkF m 0 #[] [] := by first | (simp [entryFrame, mkF, argsToLocals, Value.category]; done) | rfl
def Q_rmLof0 (Z : State) (le : Addr) (h0 : Heap) (n0 : Nat) (v : Option Value) (h : Heap) (L : List Loc) : Prop := v = some (.ref le) ∧ Fr n0 L ∧ h = h0
set_option maxRecDepth 65536 in
set_option maxHeartbeats 40000000 in
theorem rmLof0 (l : Launch) (Z : State) (a0 : Array Value) (hw : ∀ d ∈ tables_1, d.before a0 Z = true) (ws : List Jvm.Cond) (le : Addr) (h0 : Heap) (n0 : Nat) (Z0 : n0 ≤ h0.size) (S_ImmutableCollections_EMPTY_LIST : Sta Z h0 sN1 "EMPTY_LIST" sN5 (.ref le)) :
    MetFree l (⟨"java/util/List", "of", "()Ljava/util/List;"⟩ : MethodName) (head1 (Jvm.Cond.code (⟨"java/util/List", "of", "()Ljava/util/List;"⟩ : MethodName) jdk_40_method_36_code 0 (some (.object "java/util/List")) :: ws) ({ frames := 0, cells := 0, slots := 0, locals := 0 } : Room)) (fun a U => a = #[] ∧ Z.Warmed39 U.vm ∧ U.heap = h0) (fun _ _ _ _ _ => True) (fun _ U o U' => ∃ v L, o = .returned v ∧ Q_rmLof0 Z le h0 n0 v U'.heap L ∧ FrameEnd U o U' L ({ frames := 0, cells := 0, slots := 0, locals := 0 } : Room).cells ({ frames := 0, cells := 0, slots := 0, locals := 0 } : Room).slots) := by
  refine MetFree.of_bodySF (plainFor_of_name pn_22) hisR ?_
  intro p e s m args below meth c s₁ Bd hml0 hP hK
  obtain ⟨rfl, hZ, hh⟩ := hP
  have hx := Bd.exec
  have hby := Bd.bytes
  have hml : c.maxLocals = 0 := hml0
  have hown : s.vm.findClass "java/util/List" = some m.cls := findClass_of_methodNamed Bd.named
  have hnm := (name_of_methodNamed Bd.named Bd.method).1
  have X0 : Stand p l e ({ frames := 0, cells := 0, slots := 0, locals := 0 } : Room) s m #[] below meth c s₁ [] 0 0 := Stand.of_body Bd
  have e0 : s₁.heap = h0 := by rw [← hh, Bd.state]; rfl
  have N0 := Fr.nil n0
  obtain ⟨f0, hf0⟩ : ∃ f : JFrame, f = mkF m 0 #[] [] := ⟨_, rfl⟩
  have pre0 : ∀ t, Steps p.tables e below (s₁.setTop f0) t → Steps p.tables e below (s₁.setTop (entryFrame m #[] 0)) t := fun t k => castTop ((ef_rmLof0 m).trans hf0.symm) k
  have R0 : ∀ t, Steps p.tables e below (s₁.setTop (mkF m 0 #[] [])) t → Steps p.tables e below (s₁.setTop f0) t := by rw [hf0]; exact fun t k => k
  obtain ⟨T1, X1, e1, st1⟩ := getS2 X0 hx hZ hown (host := "") (Or.inl (hw _ (List.mem_of_getElem? (i := 183) rfl))) Via.refl e0 S_ImmutableCollections_EMPTY_LIST (g := (mkF m 0 #[] [])) rfl (hb hby d29_0)
  have R2 : ∀ t, Steps p.tables e below (T1.setTop (mkF m 3 #[] [(.ref le)])) t → Steps p.tables e below (s₁.setTop f0) t := fun t k => R0 t (st1 t k)
  obtain ⟨fs, hr, hrun, hended, hW, hsame⟩ := X1.leave (v := some (.ref le)) (fun h => by rw [Bd.returns] at h; cases h)
  refine ⟨_, _, pre0 _ (R2 _ ?_), hrun, hended, _, _, rfl, ?_, ⟨_, rfl⟩, hW, hsame.mono (by decide) (by decide)⟩
  · show Steps p.tables e below (T1.setTop (mkF m 3 #[] [(.ref le)])) _
    exact retOut X1 hx (t := (.object "java/util/List")) Bd.returns rfl (Or.inr (Or.inr (Or.inr (Or.inr ⟨rfl, rfl, rfl⟩)))) (hb hby d29_3) hr
  · show Q_rmLof0 Z le h0 n0 _ T1.heap _
    rw [e1]
    exact ⟨rfl, N0, rfl⟩
theorem ef_rmBlk0 (m : MethodId) (x0 : Addr) (x1 : Addr) (x2 : Int32) : entryFrame m #[(.ref x0), (.ref x1), (.int x2)] 4 = mkF m 0 #[rv x0, rv x1, iv x2, .unset] [] := by first | (simp [entryFrame, mkF, argsToLocals, Value.category]; done) | rfl
def Q_rmBlk0 (Z : State) (a1 : Addr) (q1 : Addr) (le : Addr) (h0 : Heap) (n0 : Nat) (v : Option Value) (h : Heap) (L : List Loc) : Prop := v = some (.ref le) ∧ Fr n0 L ∧ h = h0
set_option maxRecDepth 65536 in
set_option maxHeartbeats 40000000 in
theorem rmBlk0 (l : Launch) (Z : State) (a0 : Array Value) (hw : ∀ d ∈ tables_1, d.before a0 Z = true) (ws : List Jvm.Cond) (a1 : Addr) (q1 : Addr) (le : Addr) (h0 : Heap) (n0 : Nat) (Z0 : n0 ≤ h0.size) (S_ImmutableCollections_EMPTY_LIST : Sta Z h0 sN1 "EMPTY_LIST" sN5 (.ref le)) :
    MetFree l (⟨sN2, "blockers", sN6⟩ : MethodName) (head1 (Jvm.Cond.code (⟨sN2, "blockers", sN6⟩ : MethodName) prog_5_method_3_code 4 (some (.object "java/util/List")) :: ws) ({ frames := 1, cells := 0, slots := 0, locals := 11 } : Room)) (fun a U => a = #[(.ref a1), (.ref q1), (.int (0 : Int32))] ∧ Z.Warmed39 U.vm ∧ U.heap = h0) (fun _ _ _ _ _ => True) (fun _ U o U' => ∃ v L, o = .returned v ∧ Q_rmBlk0 Z a1 q1 le h0 n0 v U'.heap L ∧ FrameEnd U o U' L ({ frames := 1, cells := 0, slots := 0, locals := 11 } : Room).cells ({ frames := 1, cells := 0, slots := 0, locals := 11 } : Room).slots) := by
  refine MetFree.of_bodySF (plainFor_of_name pn_24) hisR ?_
  intro p e s m args below meth c s₁ Bd hml0 hP hK
  obtain ⟨rfl, hZ, hh⟩ := hP
  have hx := Bd.exec
  have hby := Bd.bytes
  have hml : c.maxLocals = 4 := hml0
  have hown : s.vm.findClass sN2 = some m.cls := findClass_of_methodNamed Bd.named
  have hnm := (name_of_methodNamed Bd.named Bd.method).1
  have X0 : Stand p l e ({ frames := 1, cells := 0, slots := 0, locals := 11 } : Room) s m #[(.ref a1), (.ref q1), (.int (0 : Int32))] below meth c s₁ [] 0 0 := Stand.of_body Bd
  have e0 : s₁.heap = h0 := by rw [← hh, Bd.state]; rfl
  have N0 := Fr.nil n0
  obtain ⟨f0, hf0⟩ : ∃ f : JFrame, f = mkF m 0 #[rv a1, rv q1, iv (0 : Int32), .unset] [] := ⟨_, rfl⟩
  have pre0 : ∀ t, Steps p.tables e below (s₁.setTop f0) t → Steps p.tables e below (s₁.setTop (entryFrame m #[(.ref a1), (.ref q1), (.int (0 : Int32))] 4)) t := fun t k => castTop ((ef_rmBlk0 m a1 q1 (0 : Int32)).trans hf0.symm) k
  have R0 : ∀ t, Steps p.tables e below (s₁.setTop (mkF m 0 #[rv a1, rv q1, iv (0 : Int32), .unset] [])) t → Steps p.tables e below (s₁.setTop f0) t := by rw [hf0]; exact fun t k => k
  have R1 : ∀ t, Steps p.tables e below (s₁.setTop (mkF m 4 #[rv a1, rv q1, iv (0 : Int32), .unset] [])) t → Steps p.tables e below (s₁.setTop f0) t := fun t k => R0 t (by
    show Steps p.tables e below (s₁.setTop (mkF m 0 #[rv a1, rv q1, iv (0 : Int32), .unset] [])) _
    refine XS.iloadN X0.here hx rfl (hb hby d16_0) rfl  ?_
    show Steps p.tables e below (s₁.setTop (mkF m 1 #[rv a1, rv q1, iv (0 : Int32), .unset] [(.int (0 : Int32))])) _
    refine XS.ifNo X0.here hx rfl (hb hby d16_1) rfl ((if0 _ _).trans (teq (by decide : (0 : Int32) = (0 : Int32))).2) ?_
    exact k)
  obtain ⟨_, _, ⟨T2, L2, k2, n2⟩, -, X2, ⟨Lc2, hQ2, l2, y2, z2⟩, st2⟩ := Jvm.LawKit.callS X0 hx (y := (⟨"java/util/List", "of", "()Ljava/util/List;"⟩ : MethodName)) hown (mvT hZ (hw _ (List.mem_of_getElem? (i := 180) rfl))) (mvT hZ (hw _ (List.mem_of_getElem? (i := 181) rfl))) (mvT hZ (hw _ (List.mem_of_getElem? (i := 128) rfl))) (mvT hZ (hw _ (List.mem_of_getElem? (i := 182) rfl))) (by decide) (backOf (W := 0) (rmLof0 l Z a0 hw [] le h0 n0 Z0 S_ImmutableCollections_EMPTY_LIST) hZ (hw _ (List.mem_of_getElem? (i := 182) rfl)) (hw _ (List.mem_of_getElem? (i := 128) rfl)) (by decide) (by decide)) (g := (mkF m 4 #[rv a1, rv q1, iv (0 : Int32), .unset] [])) rfl (by rw [hml]; rfl) (argsL := []) (rest := []) (lenOf pd_25 rfl) rfl (by show 2 * 0 + _ ≤ _; exact Nat.le_of_eq rfl) (hb hby d16_4) (fun _ _ => ⟨rfl, e0, (by decide : 0 + 0 ≤ _), (by decide : 0 + 0 ≤ _)⟩)
  dsimp only [Pt.U, Pt.locs, Pt.cells, Pt.slots] at X2 l2 y2 z2 st2 hQ2
  subst l2 y2 z2
  obtain ⟨rfl, N2q, p2_0⟩ := hQ2
  have N2 := Fr.app N0 N2q
  have R3 : ∀ t, Steps p.tables e below (T2.setTop (mkF m 7 #[rv a1, rv q1, iv (0 : Int32), .unset] [(.ref le)])) t → Steps p.tables e below (s₁.setTop f0) t := fun t k => R1 t (st2 t k)
  have R4 : ∀ t, Steps p.tables e below (T2.setTop (mkF m 28 #[rv a1, rv q1, iv (0 : Int32), rv le] [(.ref le)])) t → Steps p.tables e below (s₁.setTop f0) t := fun t k => R3 t (by
    show Steps p.tables e below (T2.setTop (mkF m 7 #[rv a1, rv q1, iv (0 : Int32), .unset] [(.ref le)])) _
    refine XS.astoreN X2.here hx rfl (hb hby d16_7) rfl rfl (l' := #[rv a1, rv q1, iv (0 : Int32), rv le]) rfl ?_
    show Steps p.tables e below (T2.setTop (mkF m 8 #[rv a1, rv q1, iv (0 : Int32), rv le] [])) _
    refine XS.goto X2.here hx rfl (pc0 := 8) (pc' := 27) rfl (hb hby d16_8) (by decide) (by decide) ?_
    show Steps p.tables e below (T2.setTop (mkF m 27 #[rv a1, rv q1, iv (0 : Int32), rv le] [])) _
    refine XS.aloadN X2.here hx rfl (hb hby d16_27) rfl rfl ?_
    exact k)
  obtain ⟨fs, hr, hrun, hended, hW, hsame⟩ := X2.leave (v := some (.ref le)) (fun h => by rw [Bd.returns] at h; cases h)
  refine ⟨_, _, pre0 _ (R4 _ ?_), hrun, hended, _, _, rfl, ?_, ⟨_, rfl⟩, hW, hsame.mono (by decide) (by decide)⟩
  · show Steps p.tables e below (T2.setTop (mkF m 28 #[rv a1, rv q1, iv (0 : Int32), rv le] [(.ref le)])) _
    exact retOut X2 hx (t := (.object "java/util/List")) Bd.returns rfl (Or.inr (Or.inr (Or.inr (Or.inr ⟨rfl, rfl, rfl⟩)))) (hb hby d16_28) hr
  · show Q_rmBlk0 Z a1 q1 le h0 n0 _ T2.heap _
    rw [p2_0]
    exact ⟨rfl, N2, rfl⟩
theorem ef_rmBlk1 (m : MethodId) (x0 : Addr) (x1 : Addr) (x2 : Int32) : entryFrame m #[(.ref x0), (.ref x1), (.int x2)] 4 = mkF m 0 #[rv x0, rv x1, iv x2, .unset] [] := by first | (simp [entryFrame, mkF, argsToLocals, Value.category]; done) | rfl
def Q_rmBlk1 (Z : State) (a1 : Addr) (q1 : Addr) (b : Addr) (kb : ClassId) (y0 : Addr) (y1 : Addr) (y2 : Addr) (y3 : Addr) (em : Addr) (h0 : Heap) (n0 : Nat) (v : Option Value) (h : Heap) (L : List Loc) : Prop := ∃ r : Addr, v = some (.ref r) ∧ Fr n0 L ∧ Keep h0 h [] ∧ (Exa Z h r sN3) ∧ (Fld Z h r sN3 "e0" "Ljava/lang/Object;" (.ref y0)) ∧ (Fld Z h r sN3 "e1" "Ljava/lang/Object;" (.ref em)) ∧ (h0.size ≤ r)
set_option maxRecDepth 65536 in
set_option maxHeartbeats 40000000 in
theorem rmBlk1 (l : Launch) (Z : State) (a0 : Array Value) (hw : ∀ d ∈ tables_1, d.before a0 Z = true) (ws : List Jvm.Cond) (a1 : Addr) (q1 : Addr) (b : Addr) (kb : ClassId) (y0 : Addr) (y1 : Addr) (y2 : Addr) (y3 : Addr) (em : Addr) (h0 : Heap) (n0 : Nat) (Z0 : n0 ≤ h0.size) (E_q1 : Exa Z h0 q1 "java/util/ArrayList") (F_elementData_q1 : Fld Z h0 q1 "java/util/ArrayList" "elementData" "[Ljava/lang/Object;" (.ref b)) (F_size_q1 : Fld Z h0 q1 "java/util/ArrayList" "size" "I" (.int (4 : Int32))) (A_b : Arv Z h0 b kb (.object "java/lang/Object") (10 : Int32) [(.ref y0), (.ref y1), (.ref y2), (.ref y3), .null, .null, .null, .null, .null, .null] .null) (S_ImmutableCollections_EMPTY : Sta Z h0 sN1 "EMPTY" "Ljava/lang/Object;" (.ref em)) (E_y0 : Exa Z h0 y0 "java/lang/String") (E_y1 : Exa Z h0 y1 "java/lang/String") (E_y2 : Exa Z h0 y2 "java/lang/String") (E_y3 : Exa Z h0 y3 "java/lang/String") :
    MetFree l (⟨sN2, "blockers", sN6⟩ : MethodName) (head1 (Jvm.Cond.code (⟨sN2, "blockers", sN6⟩ : MethodName) prog_5_method_3_code 4 (some (.object "java/util/List")) :: ws) ({ frames := 6, cells := 1, slots := 2, locals := 74 } : Room)) (fun a U => a = #[(.ref a1), (.ref q1), (.int (1 : Int32))] ∧ Z.Warmed39 U.vm ∧ U.heap = h0) (fun _ _ _ _ _ => True) (fun _ U o U' => ∃ v L, o = .returned v ∧ Q_rmBlk1 Z a1 q1 b kb y0 y1 y2 y3 em h0 n0 v U'.heap L ∧ FrameEnd U o U' L ({ frames := 6, cells := 1, slots := 2, locals := 74 } : Room).cells ({ frames := 6, cells := 1, slots := 2, locals := 74 } : Room).slots) := by
  refine MetFree.of_bodySF (plainFor_of_name pn_24) hisR ?_
  intro p e s m args below meth c s₁ Bd hml0 hP hK
  obtain ⟨rfl, hZ, hh⟩ := hP
  have hx := Bd.exec
  have hby := Bd.bytes
  have hml : c.maxLocals = 4 := hml0
  have hown : s.vm.findClass sN2 = some m.cls := findClass_of_methodNamed Bd.named
  have hnm := (name_of_methodNamed Bd.named Bd.method).1
  have X0 : Stand p l e ({ frames := 6, cells := 1, slots := 2, locals := 74 } : Room) s m #[(.ref a1), (.ref q1), (.int (1 : Int32))] below meth c s₁ [] 0 0 := Stand.of_body Bd
  have e0 : s₁.heap = h0 := by rw [← hh, Bd.state]; rfl
  have N0 := Fr.nil n0
  obtain ⟨f0, hf0⟩ : ∃ f : JFrame, f = mkF m 0 #[rv a1, rv q1, iv (1 : Int32), .unset] [] := ⟨_, rfl⟩
  have pre0 : ∀ t, Steps p.tables e below (s₁.setTop f0) t → Steps p.tables e below (s₁.setTop (entryFrame m #[(.ref a1), (.ref q1), (.int (1 : Int32))] 4)) t := fun t k => castTop ((ef_rmBlk1 m a1 q1 (1 : Int32)).trans hf0.symm) k
  have R0 : ∀ t, Steps p.tables e below (s₁.setTop (mkF m 0 #[rv a1, rv q1, iv (1 : Int32), .unset] [])) t → Steps p.tables e below (s₁.setTop f0) t := by rw [hf0]; exact fun t k => k
  have R1 : ∀ t, Steps p.tables e below (s₁.setTop (mkF m 15 #[rv a1, rv q1, iv (1 : Int32), .unset] [(.int (0 : Int32)), (.ref q1)])) t → Steps p.tables e below (s₁.setTop f0) t := fun t k => R0 t (by
    show Steps p.tables e below (s₁.setTop (mkF m 0 #[rv a1, rv q1, iv (1 : Int32), .unset] [])) _
    refine XS.iloadN X0.here hx rfl (hb hby d16_0) rfl  ?_
    show Steps p.tables e below (s₁.setTop (mkF m 1 #[rv a1, rv q1, iv (1 : Int32), .unset] [(.int (1 : Int32))])) _
    refine XS.ifYes X0.here hx rfl (pc0 := 1) (pc' := 11) rfl (hb hby d16_1) rfl ((if0 _ _).trans (feq (by decide : ¬ ((1 : Int32) = (0 : Int32)))).2) (by decide) (by decide) ?_
    show Steps p.tables e below (s₁.setTop (mkF m 11 #[rv a1, rv q1, iv (1 : Int32), .unset] [])) _
    refine XS.aloadN X0.here hx rfl (hb hby d16_11) rfl rfl ?_
    show Steps p.tables e below (s₁.setTop (mkF m 12 #[rv a1, rv q1, iv (1 : Int32), .unset] [(.ref q1)])) _
    refine XS.iloadN X0.here hx rfl (hb hby d16_12) rfl  ?_
    show Steps p.tables e below (s₁.setTop (mkF m 13 #[rv a1, rv q1, iv (1 : Int32), .unset] [(.int (1 : Int32)), (.ref q1)])) _
    refine XS.iconst X0.here hx rfl (hb hby d16_13) ?_
    show Steps p.tables e below (s₁.setTop (mkF m 14 #[rv a1, rv q1, iv (1 : Int32), .unset] [(.int (1 : Int32)), (.int (1 : Int32)), (.ref q1)])) _
    refine XS.isub X0.here hx rfl (hb hby d16_14) rfl ?_
    exact k)
  obtain ⟨cq2, kq2, q2a, q2b, q2c⟩ := isOf hZ e0 E_q1
  obtain ⟨_, _, ⟨T2, L2, k2, n2⟩, -, X2, ⟨Lc2, hQ2, l2, y2, z2⟩, st2⟩ := X0.interfaceBack hx (xi := (⟨"java/util/List", "get", "(I)Ljava/lang/Object;"⟩ : MethodName)) (y := (⟨"java/util/ArrayList", "get", "(I)Ljava/lang/Object;"⟩ : MethodName)) hown (mvT hZ (hw _ (List.mem_of_getElem? (i := 103) rfl))) (mvT hZ (hw _ (List.mem_of_getElem? (i := 104) rfl))) (mvT hZ (hw _ (List.mem_of_getElem? (i := 105) rfl))) (mvT hZ (hw _ (List.mem_of_getElem? (i := 106) rfl))) (mvT hZ (hw _ (List.mem_of_getElem? (i := 107) rfl))) (mvT hZ (hw _ (List.mem_of_getElem? (i := 108) rfl))) (mvT hZ (hw _ (List.mem_of_getElem? (i := 109) rfl))) (mvT hZ (hw _ (List.mem_of_getElem? (i := 110) rfl))) (by decide) (backOf (W := 0) (rmGet0 l Z a0 hw [] q1 b kb y0 y1 y2 y3 h0 n0 Z0 E_q1 F_elementData_q1 F_size_q1 A_b) hZ (hw _ (List.mem_of_getElem? (i := 111) rfl)) (hw _ (List.mem_of_getElem? (i := 32) rfl)) (by decide) (by decide)) q2a q2b q2c (g := (mkF m 15 #[rv a1, rv q1, iv (1 : Int32), .unset] [(.int (0 : Int32)), (.ref q1)])) rfl (by rw [hml]; rfl) (Steps.refl _) (argsL := [(.int (0 : Int32))]) (rest := []) (lenOf pd_17 rfl) rfl (by show 2 * 0 + _ ≤ _; exact Nat.le_of_eq rfl) (hb hby d16_15) (fun _ _ => ⟨rfl, e0, (by decide : 0 + 0 ≤ _), (by decide : 0 + 0 ≤ _)⟩)
  dsimp only [Pt.U, Pt.locs, Pt.cells, Pt.slots] at X2 l2 y2 z2 st2 hQ2
  subst l2 y2 z2
  obtain ⟨rfl, N2q, p2_0⟩ := hQ2
  have N2 := Fr.app N0 N2q
  have R3 : ∀ t, Steps p.tables e below (T2.setTop (mkF m 20 #[rv a1, rv q1, iv (1 : Int32), .unset] [(.ref y0)])) t → Steps p.tables e below (s₁.setTop f0) t := fun t k => R1 t (st2.trans k)
  obtain ⟨T4, X4, e4, st4⟩ := castY X2 hx hZ hown (hw _ (List.mem_of_getElem? (i := 125) rfl)) p2_0 (Ins.self E_y0) (g := (mkF m 20 #[rv a1, rv q1, iv (1 : Int32), .unset] [(.ref y0)])) rfl rfl (hb hby d16_20)
  have R5 : ∀ t, Steps p.tables e below (T4.setTop (mkF m 23 #[rv a1, rv q1, iv (1 : Int32), .unset] [(.ref y0)])) t → Steps p.tables e below (s₁.setTop f0) t := fun t k => R3 t (st4 t k)
  obtain ⟨_, _, ⟨T6, L6, k6, n6⟩, -, X6, ⟨Lc6, hQ6, l6, y6, z6⟩, st6⟩ := Jvm.LawKit.callS X4 hx (y := (⟨"java/util/List", "of", "(Ljava/lang/Object;)Ljava/util/List;"⟩ : MethodName)) hown (mvT hZ (hw _ (List.mem_of_getElem? (i := 126) rfl))) (mvT hZ (hw _ (List.mem_of_getElem? (i := 127) rfl))) (mvT hZ (hw _ (List.mem_of_getElem? (i := 128) rfl))) (mvT hZ (hw _ (List.mem_of_getElem? (i := 129) rfl))) (by decide) (backOf (W := 0) (rmLof l Z a0 hw [] y0 em h0 n0 Z0 S_ImmutableCollections_EMPTY) hZ (hw _ (List.mem_of_getElem? (i := 129) rfl)) (hw _ (List.mem_of_getElem? (i := 128) rfl)) (by decide) (by decide)) (g := (mkF m 23 #[rv a1, rv q1, iv (1 : Int32), .unset] [(.ref y0)])) rfl (by rw [hml]; rfl) (argsL := [(.ref y0)]) (rest := []) (lenOf pd_26 rfl) rfl (by show 2 * 0 + _ ≤ _; exact Nat.le_of_eq rfl) (hb hby d16_23) (fun _ _ => ⟨rfl, e4, (by decide : 0 + 1 ≤ _), (by decide : 0 + 2 ≤ _)⟩)
  dsimp only [Pt.U, Pt.locs, Pt.cells, Pt.slots] at X6 l6 y6 z6 st6 hQ6
  subst l6 y6 z6
  obtain ⟨r_6, rfl, N6q, p6_0, p6_1, p6_2, p6_3, p6_4⟩ := hQ6
  have N6 := Fr.app N2 N6q
  have f6_E_q1 : Exa Z T6.heap q1 "java/util/ArrayList" := E_q1.keep p6_0
  have f6_F_elementData_q1 : Fld Z T6.heap q1 "java/util/ArrayList" "elementData" "[Ljava/lang/Object;" (.ref b) := F_elementData_q1.keep p6_0 nin0
  have f6_F_size_q1 : Fld Z T6.heap q1 "java/util/ArrayList" "size" "I" (.int (4 : Int32)) := F_size_q1.keep p6_0 nin0
  have f6_A_b : Arv Z T6.heap b kb (.object "java/lang/Object") (10 : Int32) [(.ref y0), (.ref y1), (.ref y2), (.ref y3), .null, .null, .null, .null, .null, .null] .null := A_b.keep p6_0 nin0
  have f6_S_ImmutableCollections_EMPTY : Sta Z T6.heap sN1 "EMPTY" "Ljava/lang/Object;" (.ref em) := own_sta_keep S_ImmutableCollections_EMPTY p6_0 ns0
  have f6_E_y0 : Exa Z T6.heap y0 "java/lang/String" := E_y0.keep p6_0
  have f6_E_y1 : Exa Z T6.heap y1 "java/lang/String" := E_y1.keep p6_0
  have f6_E_y2 : Exa Z T6.heap y2 "java/lang/String" := E_y2.keep p6_0
  have f6_E_y3 : Exa Z T6.heap y3 "java/lang/String" := E_y3.keep p6_0
  have z6 : n0 ≤ T6.heap.size := Nat.le_trans Z0 p6_0.1
  have K6 : Keep h0 T6.heap [] := (Keep.refl h0 []).trans p6_0 all0
  have g_r_6 : n0 ≤ r_6 := Nat.le_trans Z0 p6_4
  have sz_r_6 : h0.size ≤ r_6 := Nat.le_trans (Keep.refl h0 []).1 p6_4
  have ne_q1_r_6 : q1 ≠ r_6 := Nat.ne_of_lt (Nat.lt_of_lt_of_le E_q1.lt p6_4)
  have ne_b_r_6 : b ≠ r_6 := Nat.ne_of_lt (Nat.lt_of_lt_of_le A_b.lt p6_4)
  have ne_y0_r_6 : y0 ≠ r_6 := Nat.ne_of_lt (Nat.lt_of_lt_of_le E_y0.lt p6_4)
  have ne_y1_r_6 : y1 ≠ r_6 := Nat.ne_of_lt (Nat.lt_of_lt_of_le E_y1.lt p6_4)
  have ne_y2_r_6 : y2 ≠ r_6 := Nat.ne_of_lt (Nat.lt_of_lt_of_le E_y2.lt p6_4)
  have ne_y3_r_6 : y3 ≠ r_6 := Nat.ne_of_lt (Nat.lt_of_lt_of_le E_y3.lt p6_4)
  have R7 : ∀ t, Steps p.tables e below (T6.setTop (mkF m 26 #[rv a1, rv q1, iv (1 : Int32), .unset] [(.ref r_6)])) t → Steps p.tables e below (s₁.setTop f0) t := fun t k => R5 t (st6 t k)
  have R8 : ∀ t, Steps p.tables e below (T6.setTop (mkF m 28 #[rv a1, rv q1, iv (1 : Int32), rv r_6] [(.ref r_6)])) t → Steps p.tables e below (s₁.setTop f0) t := fun t k => R7 t (by
    show Steps p.tables e below (T6.setTop (mkF m 26 #[rv a1, rv q1, iv (1 : Int32), .unset] [(.ref r_6)])) _
    refine XS.astoreN X6.here hx rfl (hb hby d16_26) rfl rfl (l' := #[rv a1, rv q1, iv (1 : Int32), rv r_6]) rfl ?_
    show Steps p.tables e below (T6.setTop (mkF m 27 #[rv a1, rv q1, iv (1 : Int32), rv r_6] [])) _
    refine XS.aloadN X6.here hx rfl (hb hby d16_27) rfl rfl ?_
    exact k)
  obtain ⟨fs, hr, hrun, hended, hW, hsame⟩ := X6.leave (v := some (.ref r_6)) (fun h => by rw [Bd.returns] at h; cases h)
  refine ⟨_, _, pre0 _ (R8 _ ?_), hrun, hended, _, _, rfl, ?_, ⟨_, rfl⟩, hW, hsame.mono (by decide) (by decide)⟩
  · show Steps p.tables e below (T6.setTop (mkF m 28 #[rv a1, rv q1, iv (1 : Int32), rv r_6] [(.ref r_6)])) _
    exact retOut X6 hx (t := (.object "java/util/List")) Bd.returns rfl (Or.inr (Or.inr (Or.inr (Or.inr ⟨rfl, rfl, rfl⟩)))) (hb hby d16_28) hr
  · show Q_rmBlk1 Z a1 q1 b kb y0 y1 y2 y3 em h0 n0 _ T6.heap _
    exact ⟨r_6, rfl, N6, K6, p6_1, p6_2, p6_3, sz_r_6⟩
theorem ef_rmBlk2 (m : MethodId) (x0 : Addr) (x1 : Addr) (x2 : Int32) : entryFrame m #[(.ref x0), (.ref x1), (.int x2)] 4 = mkF m 0 #[rv x0, rv x1, iv x2, .unset] [] := by first | (simp [entryFrame, mkF, argsToLocals, Value.category]; done) | rfl
def Q_rmBlk2 (Z : State) (a1 : Addr) (q1 : Addr) (b : Addr) (kb : ClassId) (y0 : Addr) (y1 : Addr) (y2 : Addr) (y3 : Addr) (em : Addr) (h0 : Heap) (n0 : Nat) (v : Option Value) (h : Heap) (L : List Loc) : Prop := ∃ r : Addr, v = some (.ref r) ∧ Fr n0 L ∧ Keep h0 h [] ∧ (Exa Z h r sN3) ∧ (Fld Z h r sN3 "e0" "Ljava/lang/Object;" (.ref y1)) ∧ (Fld Z h r sN3 "e1" "Ljava/lang/Object;" (.ref em)) ∧ (h0.size ≤ r)
set_option maxRecDepth 65536 in
set_option maxHeartbeats 40000000 in
theorem rmBlk2 (l : Launch) (Z : State) (a0 : Array Value) (hw : ∀ d ∈ tables_1, d.before a0 Z = true) (ws : List Jvm.Cond) (a1 : Addr) (q1 : Addr) (b : Addr) (kb : ClassId) (y0 : Addr) (y1 : Addr) (y2 : Addr) (y3 : Addr) (em : Addr) (h0 : Heap) (n0 : Nat) (Z0 : n0 ≤ h0.size) (E_q1 : Exa Z h0 q1 "java/util/ArrayList") (F_elementData_q1 : Fld Z h0 q1 "java/util/ArrayList" "elementData" "[Ljava/lang/Object;" (.ref b)) (F_size_q1 : Fld Z h0 q1 "java/util/ArrayList" "size" "I" (.int (4 : Int32))) (A_b : Arv Z h0 b kb (.object "java/lang/Object") (10 : Int32) [(.ref y0), (.ref y1), (.ref y2), (.ref y3), .null, .null, .null, .null, .null, .null] .null) (S_ImmutableCollections_EMPTY : Sta Z h0 sN1 "EMPTY" "Ljava/lang/Object;" (.ref em)) (E_y0 : Exa Z h0 y0 "java/lang/String") (E_y1 : Exa Z h0 y1 "java/lang/String") (E_y2 : Exa Z h0 y2 "java/lang/String") (E_y3 : Exa Z h0 y3 "java/lang/String") :
    MetFree l (⟨sN2, "blockers", sN6⟩ : MethodName) (head1 (Jvm.Cond.code (⟨sN2, "blockers", sN6⟩ : MethodName) prog_5_method_3_code 4 (some (.object "java/util/List")) :: ws) ({ frames := 6, cells := 1, slots := 2, locals := 74 } : Room)) (fun a U => a = #[(.ref a1), (.ref q1), (.int (2 : Int32))] ∧ Z.Warmed39 U.vm ∧ U.heap = h0) (fun _ _ _ _ _ => True) (fun _ U o U' => ∃ v L, o = .returned v ∧ Q_rmBlk2 Z a1 q1 b kb y0 y1 y2 y3 em h0 n0 v U'.heap L ∧ FrameEnd U o U' L ({ frames := 6, cells := 1, slots := 2, locals := 74 } : Room).cells ({ frames := 6, cells := 1, slots := 2, locals := 74 } : Room).slots) := by
  refine MetFree.of_bodySF (plainFor_of_name pn_24) hisR ?_
  intro p e s m args below meth c s₁ Bd hml0 hP hK
  obtain ⟨rfl, hZ, hh⟩ := hP
  have hx := Bd.exec
  have hby := Bd.bytes
  have hml : c.maxLocals = 4 := hml0
  have hown : s.vm.findClass sN2 = some m.cls := findClass_of_methodNamed Bd.named
  have hnm := (name_of_methodNamed Bd.named Bd.method).1
  have X0 : Stand p l e ({ frames := 6, cells := 1, slots := 2, locals := 74 } : Room) s m #[(.ref a1), (.ref q1), (.int (2 : Int32))] below meth c s₁ [] 0 0 := Stand.of_body Bd
  have e0 : s₁.heap = h0 := by rw [← hh, Bd.state]; rfl
  have N0 := Fr.nil n0
  obtain ⟨f0, hf0⟩ : ∃ f : JFrame, f = mkF m 0 #[rv a1, rv q1, iv (2 : Int32), .unset] [] := ⟨_, rfl⟩
  have pre0 : ∀ t, Steps p.tables e below (s₁.setTop f0) t → Steps p.tables e below (s₁.setTop (entryFrame m #[(.ref a1), (.ref q1), (.int (2 : Int32))] 4)) t := fun t k => castTop ((ef_rmBlk2 m a1 q1 (2 : Int32)).trans hf0.symm) k
  have R0 : ∀ t, Steps p.tables e below (s₁.setTop (mkF m 0 #[rv a1, rv q1, iv (2 : Int32), .unset] [])) t → Steps p.tables e below (s₁.setTop f0) t := by rw [hf0]; exact fun t k => k
  have R1 : ∀ t, Steps p.tables e below (s₁.setTop (mkF m 15 #[rv a1, rv q1, iv (2 : Int32), .unset] [(.int (1 : Int32)), (.ref q1)])) t → Steps p.tables e below (s₁.setTop f0) t := fun t k => R0 t (by
    show Steps p.tables e below (s₁.setTop (mkF m 0 #[rv a1, rv q1, iv (2 : Int32), .unset] [])) _
    refine XS.iloadN X0.here hx rfl (hb hby d16_0) rfl  ?_
    show Steps p.tables e below (s₁.setTop (mkF m 1 #[rv a1, rv q1, iv (2 : Int32), .unset] [(.int (2 : Int32))])) _
    refine XS.ifYes X0.here hx rfl (pc0 := 1) (pc' := 11) rfl (hb hby d16_1) rfl ((if0 _ _).trans (feq (by decide : ¬ ((2 : Int32) = (0 : Int32)))).2) (by decide) (by decide) ?_
    show Steps p.tables e below (s₁.setTop (mkF m 11 #[rv a1, rv q1, iv (2 : Int32), .unset] [])) _
    refine XS.aloadN X0.here hx rfl (hb hby d16_11) rfl rfl ?_
    show Steps p.tables e below (s₁.setTop (mkF m 12 #[rv a1, rv q1, iv (2 : Int32), .unset] [(.ref q1)])) _
    refine XS.iloadN X0.here hx rfl (hb hby d16_12) rfl  ?_
    show Steps p.tables e below (s₁.setTop (mkF m 13 #[rv a1, rv q1, iv (2 : Int32), .unset] [(.int (2 : Int32)), (.ref q1)])) _
    refine XS.iconst X0.here hx rfl (hb hby d16_13) ?_
    show Steps p.tables e below (s₁.setTop (mkF m 14 #[rv a1, rv q1, iv (2 : Int32), .unset] [(.int (1 : Int32)), (.int (2 : Int32)), (.ref q1)])) _
    refine XS.isub X0.here hx rfl (hb hby d16_14) rfl ?_
    exact k)
  obtain ⟨cq2, kq2, q2a, q2b, q2c⟩ := isOf hZ e0 E_q1
  obtain ⟨_, _, ⟨T2, L2, k2, n2⟩, -, X2, ⟨Lc2, hQ2, l2, y2, z2⟩, st2⟩ := X0.interfaceBack hx (xi := (⟨"java/util/List", "get", "(I)Ljava/lang/Object;"⟩ : MethodName)) (y := (⟨"java/util/ArrayList", "get", "(I)Ljava/lang/Object;"⟩ : MethodName)) hown (mvT hZ (hw _ (List.mem_of_getElem? (i := 103) rfl))) (mvT hZ (hw _ (List.mem_of_getElem? (i := 104) rfl))) (mvT hZ (hw _ (List.mem_of_getElem? (i := 105) rfl))) (mvT hZ (hw _ (List.mem_of_getElem? (i := 106) rfl))) (mvT hZ (hw _ (List.mem_of_getElem? (i := 107) rfl))) (mvT hZ (hw _ (List.mem_of_getElem? (i := 108) rfl))) (mvT hZ (hw _ (List.mem_of_getElem? (i := 109) rfl))) (mvT hZ (hw _ (List.mem_of_getElem? (i := 110) rfl))) (by decide) (backOf (W := 0) (rmGet1 l Z a0 hw [] q1 b kb y0 y1 y2 y3 h0 n0 Z0 E_q1 F_elementData_q1 F_size_q1 A_b) hZ (hw _ (List.mem_of_getElem? (i := 111) rfl)) (hw _ (List.mem_of_getElem? (i := 32) rfl)) (by decide) (by decide)) q2a q2b q2c (g := (mkF m 15 #[rv a1, rv q1, iv (2 : Int32), .unset] [(.int (1 : Int32)), (.ref q1)])) rfl (by rw [hml]; rfl) (Steps.refl _) (argsL := [(.int (1 : Int32))]) (rest := []) (lenOf pd_17 rfl) rfl (by show 2 * 0 + _ ≤ _; exact Nat.le_of_eq rfl) (hb hby d16_15) (fun _ _ => ⟨rfl, e0, (by decide : 0 + 0 ≤ _), (by decide : 0 + 0 ≤ _)⟩)
  dsimp only [Pt.U, Pt.locs, Pt.cells, Pt.slots] at X2 l2 y2 z2 st2 hQ2
  subst l2 y2 z2
  obtain ⟨rfl, N2q, p2_0⟩ := hQ2
  have N2 := Fr.app N0 N2q
  have R3 : ∀ t, Steps p.tables e below (T2.setTop (mkF m 20 #[rv a1, rv q1, iv (2 : Int32), .unset] [(.ref y1)])) t → Steps p.tables e below (s₁.setTop f0) t := fun t k => R1 t (st2.trans k)
  obtain ⟨T4, X4, e4, st4⟩ := castY X2 hx hZ hown (hw _ (List.mem_of_getElem? (i := 125) rfl)) p2_0 (Ins.self E_y1) (g := (mkF m 20 #[rv a1, rv q1, iv (2 : Int32), .unset] [(.ref y1)])) rfl rfl (hb hby d16_20)
  have R5 : ∀ t, Steps p.tables e below (T4.setTop (mkF m 23 #[rv a1, rv q1, iv (2 : Int32), .unset] [(.ref y1)])) t → Steps p.tables e below (s₁.setTop f0) t := fun t k => R3 t (st4 t k)
  obtain ⟨_, _, ⟨T6, L6, k6, n6⟩, -, X6, ⟨Lc6, hQ6, l6, y6, z6⟩, st6⟩ := Jvm.LawKit.callS X4 hx (y := (⟨"java/util/List", "of", "(Ljava/lang/Object;)Ljava/util/List;"⟩ : MethodName)) hown (mvT hZ (hw _ (List.mem_of_getElem? (i := 126) rfl))) (mvT hZ (hw _ (List.mem_of_getElem? (i := 127) rfl))) (mvT hZ (hw _ (List.mem_of_getElem? (i := 128) rfl))) (mvT hZ (hw _ (List.mem_of_getElem? (i := 129) rfl))) (by decide) (backOf (W := 0) (rmLof l Z a0 hw [] y1 em h0 n0 Z0 S_ImmutableCollections_EMPTY) hZ (hw _ (List.mem_of_getElem? (i := 129) rfl)) (hw _ (List.mem_of_getElem? (i := 128) rfl)) (by decide) (by decide)) (g := (mkF m 23 #[rv a1, rv q1, iv (2 : Int32), .unset] [(.ref y1)])) rfl (by rw [hml]; rfl) (argsL := [(.ref y1)]) (rest := []) (lenOf pd_26 rfl) rfl (by show 2 * 0 + _ ≤ _; exact Nat.le_of_eq rfl) (hb hby d16_23) (fun _ _ => ⟨rfl, e4, (by decide : 0 + 1 ≤ _), (by decide : 0 + 2 ≤ _)⟩)
  dsimp only [Pt.U, Pt.locs, Pt.cells, Pt.slots] at X6 l6 y6 z6 st6 hQ6
  subst l6 y6 z6
  obtain ⟨r_6, rfl, N6q, p6_0, p6_1, p6_2, p6_3, p6_4⟩ := hQ6
  have N6 := Fr.app N2 N6q
  have f6_E_q1 : Exa Z T6.heap q1 "java/util/ArrayList" := E_q1.keep p6_0
  have f6_F_elementData_q1 : Fld Z T6.heap q1 "java/util/ArrayList" "elementData" "[Ljava/lang/Object;" (.ref b) := F_elementData_q1.keep p6_0 nin0
  have f6_F_size_q1 : Fld Z T6.heap q1 "java/util/ArrayList" "size" "I" (.int (4 : Int32)) := F_size_q1.keep p6_0 nin0
  have f6_A_b : Arv Z T6.heap b kb (.object "java/lang/Object") (10 : Int32) [(.ref y0), (.ref y1), (.ref y2), (.ref y3), .null, .null, .null, .null, .null, .null] .null := A_b.keep p6_0 nin0
  have f6_S_ImmutableCollections_EMPTY : Sta Z T6.heap sN1 "EMPTY" "Ljava/lang/Object;" (.ref em) := own_sta_keep S_ImmutableCollections_EMPTY p6_0 ns0
  have f6_E_y0 : Exa Z T6.heap y0 "java/lang/String" := E_y0.keep p6_0
  have f6_E_y1 : Exa Z T6.heap y1 "java/lang/String" := E_y1.keep p6_0
  have f6_E_y2 : Exa Z T6.heap y2 "java/lang/String" := E_y2.keep p6_0
  have f6_E_y3 : Exa Z T6.heap y3 "java/lang/String" := E_y3.keep p6_0
  have z6 : n0 ≤ T6.heap.size := Nat.le_trans Z0 p6_0.1
  have K6 : Keep h0 T6.heap [] := (Keep.refl h0 []).trans p6_0 all0
  have g_r_6 : n0 ≤ r_6 := Nat.le_trans Z0 p6_4
  have sz_r_6 : h0.size ≤ r_6 := Nat.le_trans (Keep.refl h0 []).1 p6_4
  have ne_q1_r_6 : q1 ≠ r_6 := Nat.ne_of_lt (Nat.lt_of_lt_of_le E_q1.lt p6_4)
  have ne_b_r_6 : b ≠ r_6 := Nat.ne_of_lt (Nat.lt_of_lt_of_le A_b.lt p6_4)
  have ne_y0_r_6 : y0 ≠ r_6 := Nat.ne_of_lt (Nat.lt_of_lt_of_le E_y0.lt p6_4)
  have ne_y1_r_6 : y1 ≠ r_6 := Nat.ne_of_lt (Nat.lt_of_lt_of_le E_y1.lt p6_4)
  have ne_y2_r_6 : y2 ≠ r_6 := Nat.ne_of_lt (Nat.lt_of_lt_of_le E_y2.lt p6_4)
  have ne_y3_r_6 : y3 ≠ r_6 := Nat.ne_of_lt (Nat.lt_of_lt_of_le E_y3.lt p6_4)
  have R7 : ∀ t, Steps p.tables e below (T6.setTop (mkF m 26 #[rv a1, rv q1, iv (2 : Int32), .unset] [(.ref r_6)])) t → Steps p.tables e below (s₁.setTop f0) t := fun t k => R5 t (st6 t k)
  have R8 : ∀ t, Steps p.tables e below (T6.setTop (mkF m 28 #[rv a1, rv q1, iv (2 : Int32), rv r_6] [(.ref r_6)])) t → Steps p.tables e below (s₁.setTop f0) t := fun t k => R7 t (by
    show Steps p.tables e below (T6.setTop (mkF m 26 #[rv a1, rv q1, iv (2 : Int32), .unset] [(.ref r_6)])) _
    refine XS.astoreN X6.here hx rfl (hb hby d16_26) rfl rfl (l' := #[rv a1, rv q1, iv (2 : Int32), rv r_6]) rfl ?_
    show Steps p.tables e below (T6.setTop (mkF m 27 #[rv a1, rv q1, iv (2 : Int32), rv r_6] [])) _
    refine XS.aloadN X6.here hx rfl (hb hby d16_27) rfl rfl ?_
    exact k)
  obtain ⟨fs, hr, hrun, hended, hW, hsame⟩ := X6.leave (v := some (.ref r_6)) (fun h => by rw [Bd.returns] at h; cases h)
  refine ⟨_, _, pre0 _ (R8 _ ?_), hrun, hended, _, _, rfl, ?_, ⟨_, rfl⟩, hW, hsame.mono (by decide) (by decide)⟩
  · show Steps p.tables e below (T6.setTop (mkF m 28 #[rv a1, rv q1, iv (2 : Int32), rv r_6] [(.ref r_6)])) _
    exact retOut X6 hx (t := (.object "java/util/List")) Bd.returns rfl (Or.inr (Or.inr (Or.inr (Or.inr ⟨rfl, rfl, rfl⟩)))) (hb hby d16_28) hr
  · show Q_rmBlk2 Z a1 q1 b kb y0 y1 y2 y3 em h0 n0 _ T6.heap _
    exact ⟨r_6, rfl, N6, K6, p6_1, p6_2, p6_3, sz_r_6⟩
theorem ef_rmBlk3 (m : MethodId) (x0 : Addr) (x1 : Addr) (x2 : Int32) : entryFrame m #[(.ref x0), (.ref x1), (.int x2)] 4 = mkF m 0 #[rv x0, rv x1, iv x2, .unset] [] := by first | (simp [entryFrame, mkF, argsToLocals, Value.category]; done) | rfl
def Q_rmBlk3 (Z : State) (a1 : Addr) (q1 : Addr) (b : Addr) (kb : ClassId) (y0 : Addr) (y1 : Addr) (y2 : Addr) (y3 : Addr) (em : Addr) (h0 : Heap) (n0 : Nat) (v : Option Value) (h : Heap) (L : List Loc) : Prop := ∃ r : Addr, v = some (.ref r) ∧ Fr n0 L ∧ Keep h0 h [] ∧ (Exa Z h r sN3) ∧ (Fld Z h r sN3 "e0" "Ljava/lang/Object;" (.ref y2)) ∧ (Fld Z h r sN3 "e1" "Ljava/lang/Object;" (.ref em)) ∧ (h0.size ≤ r)
set_option maxRecDepth 65536 in
set_option maxHeartbeats 40000000 in
theorem rmBlk3 (l : Launch) (Z : State) (a0 : Array Value) (hw : ∀ d ∈ tables_1, d.before a0 Z = true) (ws : List Jvm.Cond) (a1 : Addr) (q1 : Addr) (b : Addr) (kb : ClassId) (y0 : Addr) (y1 : Addr) (y2 : Addr) (y3 : Addr) (em : Addr) (h0 : Heap) (n0 : Nat) (Z0 : n0 ≤ h0.size) (E_q1 : Exa Z h0 q1 "java/util/ArrayList") (F_elementData_q1 : Fld Z h0 q1 "java/util/ArrayList" "elementData" "[Ljava/lang/Object;" (.ref b)) (F_size_q1 : Fld Z h0 q1 "java/util/ArrayList" "size" "I" (.int (4 : Int32))) (A_b : Arv Z h0 b kb (.object "java/lang/Object") (10 : Int32) [(.ref y0), (.ref y1), (.ref y2), (.ref y3), .null, .null, .null, .null, .null, .null] .null) (S_ImmutableCollections_EMPTY : Sta Z h0 sN1 "EMPTY" "Ljava/lang/Object;" (.ref em)) (E_y0 : Exa Z h0 y0 "java/lang/String") (E_y1 : Exa Z h0 y1 "java/lang/String") (E_y2 : Exa Z h0 y2 "java/lang/String") (E_y3 : Exa Z h0 y3 "java/lang/String") :
    MetFree l (⟨sN2, "blockers", sN6⟩ : MethodName) (head1 (Jvm.Cond.code (⟨sN2, "blockers", sN6⟩ : MethodName) prog_5_method_3_code 4 (some (.object "java/util/List")) :: ws) ({ frames := 6, cells := 1, slots := 2, locals := 74 } : Room)) (fun a U => a = #[(.ref a1), (.ref q1), (.int (3 : Int32))] ∧ Z.Warmed39 U.vm ∧ U.heap = h0) (fun _ _ _ _ _ => True) (fun _ U o U' => ∃ v L, o = .returned v ∧ Q_rmBlk3 Z a1 q1 b kb y0 y1 y2 y3 em h0 n0 v U'.heap L ∧ FrameEnd U o U' L ({ frames := 6, cells := 1, slots := 2, locals := 74 } : Room).cells ({ frames := 6, cells := 1, slots := 2, locals := 74 } : Room).slots) := by
  refine MetFree.of_bodySF (plainFor_of_name pn_24) hisR ?_
  intro p e s m args below meth c s₁ Bd hml0 hP hK
  obtain ⟨rfl, hZ, hh⟩ := hP
  have hx := Bd.exec
  have hby := Bd.bytes
  have hml : c.maxLocals = 4 := hml0
  have hown : s.vm.findClass sN2 = some m.cls := findClass_of_methodNamed Bd.named
  have hnm := (name_of_methodNamed Bd.named Bd.method).1
  have X0 : Stand p l e ({ frames := 6, cells := 1, slots := 2, locals := 74 } : Room) s m #[(.ref a1), (.ref q1), (.int (3 : Int32))] below meth c s₁ [] 0 0 := Stand.of_body Bd
  have e0 : s₁.heap = h0 := by rw [← hh, Bd.state]; rfl
  have N0 := Fr.nil n0
  obtain ⟨f0, hf0⟩ : ∃ f : JFrame, f = mkF m 0 #[rv a1, rv q1, iv (3 : Int32), .unset] [] := ⟨_, rfl⟩
  have pre0 : ∀ t, Steps p.tables e below (s₁.setTop f0) t → Steps p.tables e below (s₁.setTop (entryFrame m #[(.ref a1), (.ref q1), (.int (3 : Int32))] 4)) t := fun t k => castTop ((ef_rmBlk3 m a1 q1 (3 : Int32)).trans hf0.symm) k
  have R0 : ∀ t, Steps p.tables e below (s₁.setTop (mkF m 0 #[rv a1, rv q1, iv (3 : Int32), .unset] [])) t → Steps p.tables e below (s₁.setTop f0) t := by rw [hf0]; exact fun t k => k
  have R1 : ∀ t, Steps p.tables e below (s₁.setTop (mkF m 15 #[rv a1, rv q1, iv (3 : Int32), .unset] [(.int (2 : Int32)), (.ref q1)])) t → Steps p.tables e below (s₁.setTop f0) t := fun t k => R0 t (by
    show Steps p.tables e below (s₁.setTop (mkF m 0 #[rv a1, rv q1, iv (3 : Int32), .unset] [])) _
    refine XS.iloadN X0.here hx rfl (hb hby d16_0) rfl  ?_
    show Steps p.tables e below (s₁.setTop (mkF m 1 #[rv a1, rv q1, iv (3 : Int32), .unset] [(.int (3 : Int32))])) _
    refine XS.ifYes X0.here hx rfl (pc0 := 1) (pc' := 11) rfl (hb hby d16_1) rfl ((if0 _ _).trans (feq (by decide : ¬ ((3 : Int32) = (0 : Int32)))).2) (by decide) (by decide) ?_
    show Steps p.tables e below (s₁.setTop (mkF m 11 #[rv a1, rv q1, iv (3 : Int32), .unset] [])) _
    refine XS.aloadN X0.here hx rfl (hb hby d16_11) rfl rfl ?_
    show Steps p.tables e below (s₁.setTop (mkF m 12 #[rv a1, rv q1, iv (3 : Int32), .unset] [(.ref q1)])) _
    refine XS.iloadN X0.here hx rfl (hb hby d16_12) rfl  ?_
    show Steps p.tables e below (s₁.setTop (mkF m 13 #[rv a1, rv q1, iv (3 : Int32), .unset] [(.int (3 : Int32)), (.ref q1)])) _
    refine XS.iconst X0.here hx rfl (hb hby d16_13) ?_
    show Steps p.tables e below (s₁.setTop (mkF m 14 #[rv a1, rv q1, iv (3 : Int32), .unset] [(.int (1 : Int32)), (.int (3 : Int32)), (.ref q1)])) _
    refine XS.isub X0.here hx rfl (hb hby d16_14) rfl ?_
    exact k)
  obtain ⟨cq2, kq2, q2a, q2b, q2c⟩ := isOf hZ e0 E_q1
  obtain ⟨_, _, ⟨T2, L2, k2, n2⟩, -, X2, ⟨Lc2, hQ2, l2, y2, z2⟩, st2⟩ := X0.interfaceBack hx (xi := (⟨"java/util/List", "get", "(I)Ljava/lang/Object;"⟩ : MethodName)) (y := (⟨"java/util/ArrayList", "get", "(I)Ljava/lang/Object;"⟩ : MethodName)) hown (mvT hZ (hw _ (List.mem_of_getElem? (i := 103) rfl))) (mvT hZ (hw _ (List.mem_of_getElem? (i := 104) rfl))) (mvT hZ (hw _ (List.mem_of_getElem? (i := 105) rfl))) (mvT hZ (hw _ (List.mem_of_getElem? (i := 106) rfl))) (mvT hZ (hw _ (List.mem_of_getElem? (i := 107) rfl))) (mvT hZ (hw _ (List.mem_of_getElem? (i := 108) rfl))) (mvT hZ (hw _ (List.mem_of_getElem? (i := 109) rfl))) (mvT hZ (hw _ (List.mem_of_getElem? (i := 110) rfl))) (by decide) (backOf (W := 0) (rmGet2 l Z a0 hw [] q1 b kb y0 y1 y2 y3 h0 n0 Z0 E_q1 F_elementData_q1 F_size_q1 A_b) hZ (hw _ (List.mem_of_getElem? (i := 111) rfl)) (hw _ (List.mem_of_getElem? (i := 32) rfl)) (by decide) (by decide)) q2a q2b q2c (g := (mkF m 15 #[rv a1, rv q1, iv (3 : Int32), .unset] [(.int (2 : Int32)), (.ref q1)])) rfl (by rw [hml]; rfl) (Steps.refl _) (argsL := [(.int (2 : Int32))]) (rest := []) (lenOf pd_17 rfl) rfl (by show 2 * 0 + _ ≤ _; exact Nat.le_of_eq rfl) (hb hby d16_15) (fun _ _ => ⟨rfl, e0, (by decide : 0 + 0 ≤ _), (by decide : 0 + 0 ≤ _)⟩)
  dsimp only [Pt.U, Pt.locs, Pt.cells, Pt.slots] at X2 l2 y2 z2 st2 hQ2
  subst l2 y2 z2
  obtain ⟨rfl, N2q, p2_0⟩ := hQ2
  have N2 := Fr.app N0 N2q
  have R3 : ∀ t, Steps p.tables e below (T2.setTop (mkF m 20 #[rv a1, rv q1, iv (3 : Int32), .unset] [(.ref y2)])) t → Steps p.tables e below (s₁.setTop f0) t := fun t k => R1 t (st2.trans k)
  obtain ⟨T4, X4, e4, st4⟩ := castY X2 hx hZ hown (hw _ (List.mem_of_getElem? (i := 125) rfl)) p2_0 (Ins.self E_y2) (g := (mkF m 20 #[rv a1, rv q1, iv (3 : Int32), .unset] [(.ref y2)])) rfl rfl (hb hby d16_20)
  have R5 : ∀ t, Steps p.tables e below (T4.setTop (mkF m 23 #[rv a1, rv q1, iv (3 : Int32), .unset] [(.ref y2)])) t → Steps p.tables e below (s₁.setTop f0) t := fun t k => R3 t (st4 t k)
  obtain ⟨_, _, ⟨T6, L6, k6, n6⟩, -, X6, ⟨Lc6, hQ6, l6, y6, z6⟩, st6⟩ := Jvm.LawKit.callS X4 hx (y := (⟨"java/util/List", "of", "(Ljava/lang/Object;)Ljava/util/List;"⟩ : MethodName)) hown (mvT hZ (hw _ (List.mem_of_getElem? (i := 126) rfl))) (mvT hZ (hw _ (List.mem_of_getElem? (i := 127) rfl))) (mvT hZ (hw _ (List.mem_of_getElem? (i := 128) rfl))) (mvT hZ (hw _ (List.mem_of_getElem? (i := 129) rfl))) (by decide) (backOf (W := 0) (rmLof l Z a0 hw [] y2 em h0 n0 Z0 S_ImmutableCollections_EMPTY) hZ (hw _ (List.mem_of_getElem? (i := 129) rfl)) (hw _ (List.mem_of_getElem? (i := 128) rfl)) (by decide) (by decide)) (g := (mkF m 23 #[rv a1, rv q1, iv (3 : Int32), .unset] [(.ref y2)])) rfl (by rw [hml]; rfl) (argsL := [(.ref y2)]) (rest := []) (lenOf pd_26 rfl) rfl (by show 2 * 0 + _ ≤ _; exact Nat.le_of_eq rfl) (hb hby d16_23) (fun _ _ => ⟨rfl, e4, (by decide : 0 + 1 ≤ _), (by decide : 0 + 2 ≤ _)⟩)
  dsimp only [Pt.U, Pt.locs, Pt.cells, Pt.slots] at X6 l6 y6 z6 st6 hQ6
  subst l6 y6 z6
  obtain ⟨r_6, rfl, N6q, p6_0, p6_1, p6_2, p6_3, p6_4⟩ := hQ6
  have N6 := Fr.app N2 N6q
  have f6_E_q1 : Exa Z T6.heap q1 "java/util/ArrayList" := E_q1.keep p6_0
  have f6_F_elementData_q1 : Fld Z T6.heap q1 "java/util/ArrayList" "elementData" "[Ljava/lang/Object;" (.ref b) := F_elementData_q1.keep p6_0 nin0
  have f6_F_size_q1 : Fld Z T6.heap q1 "java/util/ArrayList" "size" "I" (.int (4 : Int32)) := F_size_q1.keep p6_0 nin0
  have f6_A_b : Arv Z T6.heap b kb (.object "java/lang/Object") (10 : Int32) [(.ref y0), (.ref y1), (.ref y2), (.ref y3), .null, .null, .null, .null, .null, .null] .null := A_b.keep p6_0 nin0
  have f6_S_ImmutableCollections_EMPTY : Sta Z T6.heap sN1 "EMPTY" "Ljava/lang/Object;" (.ref em) := own_sta_keep S_ImmutableCollections_EMPTY p6_0 ns0
  have f6_E_y0 : Exa Z T6.heap y0 "java/lang/String" := E_y0.keep p6_0
  have f6_E_y1 : Exa Z T6.heap y1 "java/lang/String" := E_y1.keep p6_0
  have f6_E_y2 : Exa Z T6.heap y2 "java/lang/String" := E_y2.keep p6_0
  have f6_E_y3 : Exa Z T6.heap y3 "java/lang/String" := E_y3.keep p6_0
  have z6 : n0 ≤ T6.heap.size := Nat.le_trans Z0 p6_0.1
  have K6 : Keep h0 T6.heap [] := (Keep.refl h0 []).trans p6_0 all0
  have g_r_6 : n0 ≤ r_6 := Nat.le_trans Z0 p6_4
  have sz_r_6 : h0.size ≤ r_6 := Nat.le_trans (Keep.refl h0 []).1 p6_4
  have ne_q1_r_6 : q1 ≠ r_6 := Nat.ne_of_lt (Nat.lt_of_lt_of_le E_q1.lt p6_4)
  have ne_b_r_6 : b ≠ r_6 := Nat.ne_of_lt (Nat.lt_of_lt_of_le A_b.lt p6_4)
  have ne_y0_r_6 : y0 ≠ r_6 := Nat.ne_of_lt (Nat.lt_of_lt_of_le E_y0.lt p6_4)
  have ne_y1_r_6 : y1 ≠ r_6 := Nat.ne_of_lt (Nat.lt_of_lt_of_le E_y1.lt p6_4)
  have ne_y2_r_6 : y2 ≠ r_6 := Nat.ne_of_lt (Nat.lt_of_lt_of_le E_y2.lt p6_4)
  have ne_y3_r_6 : y3 ≠ r_6 := Nat.ne_of_lt (Nat.lt_of_lt_of_le E_y3.lt p6_4)
  have R7 : ∀ t, Steps p.tables e below (T6.setTop (mkF m 26 #[rv a1, rv q1, iv (3 : Int32), .unset] [(.ref r_6)])) t → Steps p.tables e below (s₁.setTop f0) t := fun t k => R5 t (st6 t k)
  have R8 : ∀ t, Steps p.tables e below (T6.setTop (mkF m 28 #[rv a1, rv q1, iv (3 : Int32), rv r_6] [(.ref r_6)])) t → Steps p.tables e below (s₁.setTop f0) t := fun t k => R7 t (by
    show Steps p.tables e below (T6.setTop (mkF m 26 #[rv a1, rv q1, iv (3 : Int32), .unset] [(.ref r_6)])) _
    refine XS.astoreN X6.here hx rfl (hb hby d16_26) rfl rfl (l' := #[rv a1, rv q1, iv (3 : Int32), rv r_6]) rfl ?_
    show Steps p.tables e below (T6.setTop (mkF m 27 #[rv a1, rv q1, iv (3 : Int32), rv r_6] [])) _
    refine XS.aloadN X6.here hx rfl (hb hby d16_27) rfl rfl ?_
    exact k)
  obtain ⟨fs, hr, hrun, hended, hW, hsame⟩ := X6.leave (v := some (.ref r_6)) (fun h => by rw [Bd.returns] at h; cases h)
  refine ⟨_, _, pre0 _ (R8 _ ?_), hrun, hended, _, _, rfl, ?_, ⟨_, rfl⟩, hW, hsame.mono (by decide) (by decide)⟩
  · show Steps p.tables e below (T6.setTop (mkF m 28 #[rv a1, rv q1, iv (3 : Int32), rv r_6] [(.ref r_6)])) _
    exact retOut X6 hx (t := (.object "java/util/List")) Bd.returns rfl (Or.inr (Or.inr (Or.inr (Or.inr ⟨rfl, rfl, rfl⟩)))) (hb hby d16_28) hr
  · show Q_rmBlk3 Z a1 q1 b kb y0 y1 y2 y3 em h0 n0 _ T6.heap _
    exact ⟨r_6, rfl, N6, K6, p6_1, p6_2, p6_3, sz_r_6⟩
theorem ef_rmSz12 (m : MethodId) (x0 : Addr) : entryFrame m #[(.ref x0)] 1 = mkF m 0 #[rv x0] [] := by first | (simp [entryFrame, mkF, argsToLocals, Value.category]; done) | rfl
def Q_rmSz12 (Z : State) (a1 : Addr) (em : Addr) (h0 : Heap) (n0 : Nat) (v : Option Value) (h : Heap) (L : List Loc) : Prop := v = some (.int (1 : Int32)) ∧ Fr n0 L ∧ h = h0
set_option maxRecDepth 65536 in
set_option maxHeartbeats 40000000 in
theorem rmSz12 (l : Launch) (Z : State) (a0 : Array Value) (hw : ∀ d ∈ tables_1, d.before a0 Z = true) (ws : List Jvm.Cond) (a1 : Addr) (em : Addr) (h0 : Heap) (n0 : Nat) (Z0 : n0 ≤ h0.size) (F_e1_a1 : Fld Z h0 a1 sN3 "e1" "Ljava/lang/Object;" (.ref em)) (S_ImmutableCollections_EMPTY : Sta Z h0 sN1 "EMPTY" "Ljava/lang/Object;" (.ref em)) :
    MetFree l (⟨sN3, "size", "()I"⟩ : MethodName) (head1 (Jvm.Cond.code (⟨sN3, "size", "()I"⟩ : MethodName) jdk_44_method_3_code 1 (some .int) :: ws) ({ frames := 0, cells := 0, slots := 0, locals := 0 } : Room)) (fun a U => a = #[(.ref a1)] ∧ Z.Warmed39 U.vm ∧ U.heap = h0) (fun _ _ _ _ _ => True) (fun _ U o U' => ∃ v L, o = .returned v ∧ Q_rmSz12 Z a1 em h0 n0 v U'.heap L ∧ FrameEnd U o U' L ({ frames := 0, cells := 0, slots := 0, locals := 0 } : Room).cells ({ frames := 0, cells := 0, slots := 0, locals := 0 } : Room).slots) := by
  refine MetFree.of_bodySF (plainFor_of_name pn_20) hisR ?_
  intro p e s m args below meth c s₁ Bd hml0 hP hK
  obtain ⟨rfl, hZ, hh⟩ := hP
  have hx := Bd.exec
  have hby := Bd.bytes
  have hml : c.maxLocals = 1 := hml0
  have hown : s.vm.findClass sN3 = some m.cls := findClass_of_methodNamed Bd.named
  have hnm := (name_of_methodNamed Bd.named Bd.method).1
  have X0 : Stand p l e ({ frames := 0, cells := 0, slots := 0, locals := 0 } : Room) s m #[(.ref a1)] below meth c s₁ [] 0 0 := Stand.of_body Bd
  have e0 : s₁.heap = h0 := by rw [← hh, Bd.state]; rfl
  have N0 := Fr.nil n0
  obtain ⟨f0, hf0⟩ : ∃ f : JFrame, f = mkF m 0 #[rv a1] [] := ⟨_, rfl⟩
  have pre0 : ∀ t, Steps p.tables e below (s₁.setTop f0) t → Steps p.tables e below (s₁.setTop (entryFrame m #[(.ref a1)] 1)) t := fun t k => castTop ((ef_rmSz12 m a1).trans hf0.symm) k
  have R0 : ∀ t, Steps p.tables e below (s₁.setTop (mkF m 0 #[rv a1] [])) t → Steps p.tables e below (s₁.setTop f0) t := by rw [hf0]; exact fun t k => k
  have R1 : ∀ t, Steps p.tables e below (s₁.setTop (mkF m 1 #[rv a1] [(.ref a1)])) t → Steps p.tables e below (s₁.setTop f0) t := fun t k => R0 t (by
    show Steps p.tables e below (s₁.setTop (mkF m 0 #[rv a1] [])) _
    refine XS.aloadN X0.here hx rfl (hb hby d26_0) rfl rfl ?_
    exact k)
  obtain ⟨T2, X2, e2, st2⟩ := getF X0 hx hZ hown (host := "") (Or.inl (hw _ (List.mem_of_getElem? (i := 158) rfl))) Via.refl e0 F_e1_a1 (g := (mkF m 1 #[rv a1] [(.ref a1)])) rfl rfl (hb hby d26_1)
  have R3 : ∀ t, Steps p.tables e below (T2.setTop (mkF m 4 #[rv a1] [(.ref em)])) t → Steps p.tables e below (s₁.setTop f0) t := fun t k => R1 t (st2 t k)
  obtain ⟨T4, X4, e4, st4⟩ := getS2 X2 hx hZ hown (Or.inr (hw _ (List.mem_of_getElem? (i := 156) rfl))) Via.refl e2 S_ImmutableCollections_EMPTY (g := (mkF m 4 #[rv a1] [(.ref em)])) rfl (hb hby d26_4)
  have R5 : ∀ t, Steps p.tables e below (T4.setTop (mkF m 7 #[rv a1] [(.ref em), (.ref em)])) t → Steps p.tables e below (s₁.setTop f0) t := fun t k => R3 t (st4 t k)
  have R6 : ∀ t, Steps p.tables e below (T4.setTop (mkF m 15 #[rv a1] [(.int (1 : Int32))])) t → Steps p.tables e below (s₁.setTop f0) t := fun t k => R5 t (by
    show Steps p.tables e below (T4.setTop (mkF m 7 #[rv a1] [(.ref em), (.ref em)])) _
    refine Jvm.RoadKit.acmp (g := (mkF m 7 #[rv a1] [(.ref em), (.ref em)])) X4 hx rfl rfl rfl (pc0 := 7) (pc' := 14) (same := true) rfl (hb hby d26_7) rfl (decide_eq_true rfl) (by decide) (by decide) ?_
    show Steps p.tables e below (T4.setTop (mkF m 14 #[rv a1] [])) _
    refine XS.iconst X4.here hx rfl (hb hby d26_14) ?_
    exact k)
  obtain ⟨fs, hr, hrun, hended, hW, hsame⟩ := X4.leave (v := some (.int (1 : Int32))) (fun h => by rw [Bd.returns] at h; cases h)
  refine ⟨_, _, pre0 _ (R6 _ ?_), hrun, hended, _, _, rfl, ?_, ⟨_, rfl⟩, hW, hsame.mono (by decide) (by decide)⟩
  · show Steps p.tables e below (T4.setTop (mkF m 15 #[rv a1] [(.int (1 : Int32))])) _
    exact retI X4 hx Bd.returns (hb hby d26_15) hr
  · show Q_rmSz12 Z a1 em h0 n0 _ T4.heap _
    rw [e4]
    exact ⟨rfl, N0, rfl⟩
theorem ef_rmGt12 (m : MethodId) (x0 : Addr) (x1 : Int32) : entryFrame m #[(.ref x0), (.int x1)] 2 = mkF m 0 #[rv x0, iv x1] [] := by first | (simp [entryFrame, mkF, argsToLocals, Value.category]; done) | rfl
def Q_rmGt12 (Z : State) (a1 : Addr) (x1 : Addr) (h0 : Heap) (n0 : Nat) (v : Option Value) (h : Heap) (L : List Loc) : Prop := v = some (.ref x1) ∧ Fr n0 L ∧ h = h0
set_option maxRecDepth 65536 in
set_option maxHeartbeats 40000000 in
theorem rmGt12 (l : Launch) (Z : State) (a0 : Array Value) (hw : ∀ d ∈ tables_1, d.before a0 Z = true) (ws : List Jvm.Cond) (a1 : Addr) (x1 : Addr) (h0 : Heap) (n0 : Nat) (Z0 : n0 ≤ h0.size) (F_e0_a1 : Fld Z h0 a1 sN3 "e0" "Ljava/lang/Object;" (.ref x1)) :
    MetFree l (⟨sN3, "get", "(I)Ljava/lang/Object;"⟩ : MethodName) (head1 (Jvm.Cond.code (⟨sN3, "get", "(I)Ljava/lang/Object;"⟩ : MethodName) jdk_44_method_5_code 2 (some (.object "java/lang/Object")) :: ws) ({ frames := 0, cells := 0, slots := 0, locals := 0 } : Room)) (fun a U => a = #[(.ref a1), (.int (0 : Int32))] ∧ Z.Warmed39 U.vm ∧ U.heap = h0) (fun _ _ _ _ _ => True) (fun _ U o U' => ∃ v L, o = .returned v ∧ Q_rmGt12 Z a1 x1 h0 n0 v U'.heap L ∧ FrameEnd U o U' L ({ frames := 0, cells := 0, slots := 0, locals := 0 } : Room).cells ({ frames := 0, cells := 0, slots := 0, locals := 0 } : Room).slots) := by
  refine MetFree.of_bodySF (plainFor_of_name pn_20) hisR ?_
  intro p e s m args below meth c s₁ Bd hml0 hP hK
  obtain ⟨rfl, hZ, hh⟩ := hP
  have hx := Bd.exec
  have hby := Bd.bytes
  have hml : c.maxLocals = 2 := hml0
  have hown : s.vm.findClass sN3 = some m.cls := findClass_of_methodNamed Bd.named
  have hnm := (name_of_methodNamed Bd.named Bd.method).1
  have X0 : Stand p l e ({ frames := 0, cells := 0, slots := 0, locals := 0 } : Room) s m #[(.ref a1), (.int (0 : Int32))] below meth c s₁ [] 0 0 := Stand.of_body Bd
  have e0 : s₁.heap = h0 := by rw [← hh, Bd.state]; rfl
  have N0 := Fr.nil n0
  obtain ⟨f0, hf0⟩ : ∃ f : JFrame, f = mkF m 0 #[rv a1, iv (0 : Int32)] [] := ⟨_, rfl⟩
  have pre0 : ∀ t, Steps p.tables e below (s₁.setTop f0) t → Steps p.tables e below (s₁.setTop (entryFrame m #[(.ref a1), (.int (0 : Int32))] 2)) t := fun t k => castTop ((ef_rmGt12 m a1 (0 : Int32)).trans hf0.symm) k
  have R0 : ∀ t, Steps p.tables e below (s₁.setTop (mkF m 0 #[rv a1, iv (0 : Int32)] [])) t → Steps p.tables e below (s₁.setTop f0) t := by rw [hf0]; exact fun t k => k
  have R1 : ∀ t, Steps p.tables e below (s₁.setTop (mkF m 5 #[rv a1, iv (0 : Int32)] [(.ref a1)])) t → Steps p.tables e below (s₁.setTop f0) t := fun t k => R0 t (by
    show Steps p.tables e below (s₁.setTop (mkF m 0 #[rv a1, iv (0 : Int32)] [])) _
    refine XS.iloadN X0.here hx rfl (hb hby d27_0) rfl  ?_
    show Steps p.tables e below (s₁.setTop (mkF m 1 #[rv a1, iv (0 : Int32)] [(.int (0 : Int32))])) _
    refine XS.ifNo X0.here hx rfl (hb hby d27_1) rfl ((if0 _ _).trans (teq (by decide : (0 : Int32) = (0 : Int32))).2) ?_
    show Steps p.tables e below (s₁.setTop (mkF m 4 #[rv a1, iv (0 : Int32)] [])) _
    refine XS.aloadN X0.here hx rfl (hb hby d27_4) rfl rfl ?_
    exact k)
  obtain ⟨T2, X2, e2, st2⟩ := getF X0 hx hZ hown (host := "") (Or.inl (hw _ (List.mem_of_getElem? (i := 154) rfl))) Via.refl e0 F_e0_a1 (g := (mkF m 5 #[rv a1, iv (0 : Int32)] [(.ref a1)])) rfl rfl (hb hby d27_5)
  have R3 : ∀ t, Steps p.tables e below (T2.setTop (mkF m 8 #[rv a1, iv (0 : Int32)] [(.ref x1)])) t → Steps p.tables e below (s₁.setTop f0) t := fun t k => R1 t (st2 t k)
  obtain ⟨fs, hr, hrun, hended, hW, hsame⟩ := X2.leave (v := some (.ref x1)) (fun h => by rw [Bd.returns] at h; cases h)
  refine ⟨_, _, pre0 _ (R3 _ ?_), hrun, hended, _, _, rfl, ?_, ⟨_, rfl⟩, hW, hsame.mono (by decide) (by decide)⟩
  · show Steps p.tables e below (T2.setTop (mkF m 8 #[rv a1, iv (0 : Int32)] [(.ref x1)])) _
    exact retOut X2 hx (t := (.object "java/lang/Object")) Bd.returns rfl (Or.inr (Or.inr (Or.inr (Or.inr ⟨rfl, rfl, rfl⟩)))) (hb hby d27_8) hr
  · show Q_rmGt12 Z a1 x1 h0 n0 _ T2.heap _
    rw [e2]
    exact ⟨rfl, N0, rfl⟩
theorem ef_rmSzN (m : MethodId) (x0 : Addr) : entryFrame m #[(.ref x0)] 1 = mkF m 0 #[rv x0] [] := by first | (simp [entryFrame, mkF, argsToLocals, Value.category]; done) | rfl
def Q_rmSzN (Z : State) (a1 : Addr) (ea : Addr) (kea : ClassId) (h0 : Heap) (n0 : Nat) (v : Option Value) (h : Heap) (L : List Loc) : Prop := v = some (.int (0 : Int32)) ∧ Fr n0 L ∧ h = h0
set_option maxRecDepth 65536 in
set_option maxHeartbeats 40000000 in
theorem rmSzN (l : Launch) (Z : State) (a0 : Array Value) (hw : ∀ d ∈ tables_1, d.before a0 Z = true) (ws : List Jvm.Cond) (a1 : Addr) (ea : Addr) (kea : ClassId) (h0 : Heap) (n0 : Nat) (Z0 : n0 ≤ h0.size) (F_elements_a1 : Fld Z h0 a1 sN0 "elements" "[Ljava/lang/Object;" (.ref ea)) (A_ea : Arv Z h0 ea kea (.object "java/lang/Object") (0 : Int32) [] .null) :
    MetFree l (⟨sN0, "size", "()I"⟩ : MethodName) (head1 (Jvm.Cond.code (⟨sN0, "size", "()I"⟩ : MethodName) jdk_45_method_3_code 1 (some .int) :: ws) ({ frames := 0, cells := 0, slots := 0, locals := 0 } : Room)) (fun a U => a = #[(.ref a1)] ∧ Z.Warmed39 U.vm ∧ U.heap = h0) (fun _ _ _ _ _ => True) (fun _ U o U' => ∃ v L, o = .returned v ∧ Q_rmSzN Z a1 ea kea h0 n0 v U'.heap L ∧ FrameEnd U o U' L ({ frames := 0, cells := 0, slots := 0, locals := 0 } : Room).cells ({ frames := 0, cells := 0, slots := 0, locals := 0 } : Room).slots) := by
  refine MetFree.of_bodySF (plainFor_of_name pn_27) hisR ?_
  intro p e s m args below meth c s₁ Bd hml0 hP hK
  obtain ⟨rfl, hZ, hh⟩ := hP
  have hx := Bd.exec
  have hby := Bd.bytes
  have hml : c.maxLocals = 1 := hml0
  have hown : s.vm.findClass sN0 = some m.cls := findClass_of_methodNamed Bd.named
  have hnm := (name_of_methodNamed Bd.named Bd.method).1
  have X0 : Stand p l e ({ frames := 0, cells := 0, slots := 0, locals := 0 } : Room) s m #[(.ref a1)] below meth c s₁ [] 0 0 := Stand.of_body Bd
  have e0 : s₁.heap = h0 := by rw [← hh, Bd.state]; rfl
  have N0 := Fr.nil n0
  obtain ⟨f0, hf0⟩ : ∃ f : JFrame, f = mkF m 0 #[rv a1] [] := ⟨_, rfl⟩
  have pre0 : ∀ t, Steps p.tables e below (s₁.setTop f0) t → Steps p.tables e below (s₁.setTop (entryFrame m #[(.ref a1)] 1)) t := fun t k => castTop ((ef_rmSzN m a1).trans hf0.symm) k
  have R0 : ∀ t, Steps p.tables e below (s₁.setTop (mkF m 0 #[rv a1] [])) t → Steps p.tables e below (s₁.setTop f0) t := by rw [hf0]; exact fun t k => k
  have R1 : ∀ t, Steps p.tables e below (s₁.setTop (mkF m 1 #[rv a1] [(.ref a1)])) t → Steps p.tables e below (s₁.setTop f0) t := fun t k => R0 t (by
    show Steps p.tables e below (s₁.setTop (mkF m 0 #[rv a1] [])) _
    refine XS.aloadN X0.here hx rfl (hb hby d30_0) rfl rfl ?_
    exact k)
  obtain ⟨T2, X2, e2, st2⟩ := getF X0 hx hZ hown (host := "") (Or.inl (hw _ (List.mem_of_getElem? (i := 191) rfl))) Via.refl e0 F_elements_a1 (g := (mkF m 1 #[rv a1] [(.ref a1)])) rfl rfl (hb hby d30_1)
  have R3 : ∀ t, Steps p.tables e below (T2.setTop (mkF m 4 #[rv a1] [(.ref ea)])) t → Steps p.tables e below (s₁.setTop f0) t := fun t k => R1 t (st2 t k)
  obtain ⟨cl4, Ar4, -, S4, N4_, -, -⟩ := id A_ea
  have R5 : ∀ t, Steps p.tables e below (T2.setTop (mkF m 5 #[rv a1] [(.int (0 : Int32))])) t → Steps p.tables e below (s₁.setTop f0) t := fun t k => R3 t (X2.arraylength hx (by rw [e2]; exact Ar4.1) (State.isArrayOf_alike hZ.alike Ar4.2.1) (g := (mkF m 4 #[rv a1] [(.ref ea)])) rfl rfl (hb hby d30_4) _ (by rw [len_of S4 N4_]; exact k))
  obtain ⟨fs, hr, hrun, hended, hW, hsame⟩ := X2.leave (v := some (.int (0 : Int32))) (fun h => by rw [Bd.returns] at h; cases h)
  refine ⟨_, _, pre0 _ (R5 _ ?_), hrun, hended, _, _, rfl, ?_, ⟨_, rfl⟩, hW, hsame.mono (by decide) (by decide)⟩
  · show Steps p.tables e below (T2.setTop (mkF m 5 #[rv a1] [(.int (0 : Int32))])) _
    exact retI X2 hx Bd.returns (hb hby d30_5) hr
  · show Q_rmSzN Z a1 ea kea h0 n0 _ T2.heap _
    rw [e2]
    exact ⟨rfl, N0, rfl⟩
theorem ef_rmEq (m : MethodId) (x0 : Addr) (x1 : Addr) : entryFrame m #[(.ref x0), (.ref x1)] 3 = mkF m 0 #[rv x0, rv x1, .unset] [] := by first | (simp [entryFrame, mkF, argsToLocals, Value.category]; done) | rfl
def Q_rmEq (Z : State) (a1 : Addr) (h0 : Heap) (n0 : Nat) (v : Option Value) (h : Heap) (L : List Loc) : Prop := v = some (.int (1 : Int32)) ∧ Fr n0 L ∧ h = h0
set_option maxRecDepth 65536 in
set_option maxHeartbeats 40000000 in
theorem rmEq (l : Launch) (Z : State) (a0 : Array Value) (hw : ∀ d ∈ tables_1, d.before a0 Z = true) (ws : List Jvm.Cond) (a1 : Addr) (h0 : Heap) (n0 : Nat) (Z0 : n0 ≤ h0.size) :
    MetFree l (⟨"java/lang/String", "equals", "(Ljava/lang/Object;)Z"⟩ : MethodName) (head1 (Jvm.Cond.code (⟨"java/lang/String", "equals", "(Ljava/lang/Object;)Z"⟩ : MethodName) jdk_42_method_66_code 3 (some .boolean) :: ws) ({ frames := 0, cells := 0, slots := 0, locals := 0 } : Room)) (fun a U => a = #[(.ref a1), (.ref a1)] ∧ Z.Warmed39 U.vm ∧ U.heap = h0) (fun _ _ _ _ _ => True) (fun _ U o U' => ∃ v L, o = .returned v ∧ Q_rmEq Z a1 h0 n0 v U'.heap L ∧ FrameEnd U o U' L ({ frames := 0, cells := 0, slots := 0, locals := 0 } : Room).cells ({ frames := 0, cells := 0, slots := 0, locals := 0 } : Room).slots) := by
  refine MetFree.of_bodySF (plainFor_of_name pn_2) hisR ?_
  intro p e s m args below meth c s₁ Bd hml0 hP hK
  obtain ⟨rfl, hZ, hh⟩ := hP
  have hx := Bd.exec
  have hby := Bd.bytes
  have hml : c.maxLocals = 3 := hml0
  have hown : s.vm.findClass "java/lang/String" = some m.cls := findClass_of_methodNamed Bd.named
  have hnm := (name_of_methodNamed Bd.named Bd.method).1
  have X0 : Stand p l e ({ frames := 0, cells := 0, slots := 0, locals := 0 } : Room) s m #[(.ref a1), (.ref a1)] below meth c s₁ [] 0 0 := Stand.of_body Bd
  have e0 : s₁.heap = h0 := by rw [← hh, Bd.state]; rfl
  have N0 := Fr.nil n0
  obtain ⟨f0, hf0⟩ : ∃ f : JFrame, f = mkF m 0 #[rv a1, rv a1, .unset] [] := ⟨_, rfl⟩
  have pre0 : ∀ t, Steps p.tables e below (s₁.setTop f0) t → Steps p.tables e below (s₁.setTop (entryFrame m #[(.ref a1), (.ref a1)] 3)) t := fun t k => castTop ((ef_rmEq m a1 a1).trans hf0.symm) k
  have R0 : ∀ t, Steps p.tables e below (s₁.setTop (mkF m 0 #[rv a1, rv a1, .unset] [])) t → Steps p.tables e below (s₁.setTop f0) t := by rw [hf0]; exact fun t k => k
  have R1 : ∀ t, Steps p.tables e below (s₁.setTop (mkF m 6 #[rv a1, rv a1, .unset] [(.int (1 : Int32))])) t → Steps p.tables e below (s₁.setTop f0) t := fun t k => R0 t (by
    show Steps p.tables e below (s₁.setTop (mkF m 0 #[rv a1, rv a1, .unset] [])) _
    refine XS.aloadN X0.here hx rfl (hb hby d28_0) rfl rfl ?_
    show Steps p.tables e below (s₁.setTop (mkF m 1 #[rv a1, rv a1, .unset] [(.ref a1)])) _
    refine XS.aloadN X0.here hx rfl (hb hby d28_1) rfl rfl ?_
    show Steps p.tables e below (s₁.setTop (mkF m 2 #[rv a1, rv a1, .unset] [(.ref a1), (.ref a1)])) _
    refine Jvm.RoadKit.acmp (g := (mkF m 2 #[rv a1, rv a1, .unset] [(.ref a1), (.ref a1)])) X0 hx rfl rfl rfl (pc0 := 2) (pc' := 5) (same := true) rfl (hb hby d28_2) rfl (decide_eq_true rfl) (by decide) (by decide) ?_
    show Steps p.tables e below (s₁.setTop (mkF m 5 #[rv a1, rv a1, .unset] [])) _
    refine XS.iconst X0.here hx rfl (hb hby d28_5) ?_
    exact k)
  obtain ⟨fs, hr, hrun, hended, hW, hsame⟩ := X0.leave (v := some (.int (1 : Int32))) (fun h => by rw [Bd.returns] at h; cases h)
  refine ⟨_, _, pre0 _ (R1 _ ?_), hrun, hended, _, _, rfl, ?_, ⟨_, rfl⟩, hW, hsame.mono (by decide) (by decide)⟩
  · show Steps p.tables e below (s₁.setTop (mkF m 6 #[rv a1, rv a1, .unset] [(.int (1 : Int32))])) _
    exact retN X0 hx (t := .boolean) Bd.returns (by simp) (hb hby d28_6) hr
  · show Q_rmEq Z a1 h0 n0 _ s₁.heap _
    rw [e0]
    exact ⟨rfl, N0, rfl⟩
theorem ef_rmEri (m : MethodId) (x0 : Addr) (x1 : Addr) : entryFrame m #[(.ref x0), (.ref x1)] 2 = mkF m 0 #[rv x0, rv x1] [] := by first | (simp [entryFrame, mkF, argsToLocals, Value.category]; done) | rfl
def Q_rmEri (Z : State) (a1 : Addr) (x1 : Addr) (u1 : Value) (h0 : Heap) (n0 : Nat) (v : Option Value) (h : Heap) (L : List Loc) : Prop := v = none ∧ Fr n0 L ∧ Keep h0 h [a1]
set_option maxRecDepth 65536 in
set_option maxHeartbeats 40000000 in
theorem rmEri (l : Launch) (Z : State) (a0 : Array Value) (hw : ∀ d ∈ tables_1, d.before a0 Z = true) (ws : List Jvm.Cond) (a1 : Addr) (x1 : Addr) (u1 : Value) (h0 : Heap) (n0 : Nat) (Z0 : n0 ≤ h0.size) (E_a1 : Exa Z h0 a1 sN2) (F_nodePrefix_a1 : Fld Z h0 a1 sN2 "nodePrefix" "Ljava/lang/String;" u1) (g_a1 : n0 ≤ a1) :
    MetFree l (⟨sN2, "<init>", "(Ljava/lang/String;)V"⟩ : MethodName) (head1 (Jvm.Cond.code (⟨sN2, "<init>", "(Ljava/lang/String;)V"⟩ : MethodName) prog_5_method_1_code 2 none :: ws) ({ frames := 1, cells := 0, slots := 0, locals := 12 } : Room)) (fun a U => a = #[(.ref a1), (.ref x1)] ∧ Z.Warmed39 U.vm ∧ U.heap = h0) (fun _ _ _ _ _ => True) (fun _ U o U' => ∃ v L, o = .returned v ∧ Q_rmEri Z a1 x1 u1 h0 n0 v U'.heap L ∧ FrameEnd U o U' L ({ frames := 1, cells := 0, slots := 0, locals := 12 } : Room).cells ({ frames := 1, cells := 0, slots := 0, locals := 12 } : Room).slots) := by
  refine MetFree.of_bodySF (plainFor_of_name pn_24) hisR ?_
  intro p e s m args below meth c s₁ Bd hml0 hP hK
  obtain ⟨rfl, hZ, hh⟩ := hP
  have hx := Bd.exec
  have hby := Bd.bytes
  have hml : c.maxLocals = 2 := hml0
  have hown : s.vm.findClass sN2 = some m.cls := findClass_of_methodNamed Bd.named
  have hnm := (name_of_methodNamed Bd.named Bd.method).1
  have X0 : Stand p l e ({ frames := 1, cells := 0, slots := 0, locals := 12 } : Room) s m #[(.ref a1), (.ref x1)] below meth c s₁ [] 0 0 := Stand.of_body Bd
  have e0 : s₁.heap = h0 := by rw [← hh, Bd.state]; rfl
  have N0 := Fr.nil n0
  obtain ⟨f0, hf0⟩ : ∃ f : JFrame, f = mkF m 0 #[rv a1, rv x1] [] := ⟨_, rfl⟩
  have pre0 : ∀ t, Steps p.tables e below (s₁.setTop f0) t → Steps p.tables e below (s₁.setTop (entryFrame m #[(.ref a1), (.ref x1)] 2)) t := fun t k => castTop ((ef_rmEri m a1 x1).trans hf0.symm) k
  have R0 : ∀ t, Steps p.tables e below (s₁.setTop (mkF m 0 #[rv a1, rv x1] [])) t → Steps p.tables e below (s₁.setTop f0) t := by rw [hf0]; exact fun t k => k
  have R1 : ∀ t, Steps p.tables e below (s₁.setTop (mkF m 1 #[rv a1, rv x1] [(.ref a1)])) t → Steps p.tables e below (s₁.setTop f0) t := fun t k => R0 t (by
    show Steps p.tables e below (s₁.setTop (mkF m 0 #[rv a1, rv x1] [])) _
    refine XS.aloadN X0.here hx rfl (hb hby d15_0) rfl rfl ?_
    exact k)
  obtain ⟨T2, X2, e2, st2⟩ := initO X0 hx hZ hown (hw _ (List.mem_of_getElem? (i := 95) rfl)) (hw _ (List.mem_of_getElem? (i := 12) rfl)) (hw _ (List.mem_of_getElem? (i := 13) rfl)) e0 (g := (mkF m 1 #[rv a1, rv x1] [(.ref a1)])) rfl (by rw [hml]; rfl) rfl (hb hby d15_1) (by decide) (W := 0) (by show 2 * 0 + _ ≤ _; exact Nat.le_of_eq rfl) (by decide)
  have R3 : ∀ t, Steps p.tables e below (T2.setTop (mkF m 4 #[rv a1, rv x1] [])) t → Steps p.tables e below (s₁.setTop f0) t := fun t k => R1 t (st2 t k)
  have R4 : ∀ t, Steps p.tables e below (T2.setTop (mkF m 6 #[rv a1, rv x1] [(.ref x1), (.ref a1)])) t → Steps p.tables e below (s₁.setTop f0) t := fun t k => R3 t (by
    show Steps p.tables e below (T2.setTop (mkF m 4 #[rv a1, rv x1] [])) _
    refine XS.aloadN X2.here hx rfl (hb hby d15_4) rfl rfl ?_
    show Steps p.tables e below (T2.setTop (mkF m 5 #[rv a1, rv x1] [(.ref a1)])) _
    refine XS.aloadN X2.here hx rfl (hb hby d15_5) rfl rfl ?_
    exact k)
  obtain ⟨T5, h5, X5, e5, W5, st5⟩ := putF X2 hx hZ hown (host := "") (Or.inl (hw _ (List.mem_of_getElem? (i := 96) rfl))) Via.refl e2 F_nodePrefix_a1 E_a1 (Or.inr ⟨(hw _ (List.mem_of_getElem? (i := 97) rfl)), rfl, hnm⟩) (hw _ (List.mem_of_getElem? (i := 87) rfl)) (ty := (.object "java/lang/String")) (by decide) rfl rfl (g := (mkF m 6 #[rv a1, rv x1] [(.ref x1), (.ref a1)])) rfl rfl (hb hby d15_6)
  have fw5 : Fld Z h5 a1 sN2 "nodePrefix" "Ljava/lang/String;" (.ref x1) := F_nodePrefix_a1.same W5
  have f5_E_a1 : Exa Z h5 a1 sN2 := E_a1.wr W5
  have z5 : n0 ≤ h5.size := by rw [W5.size]; exact Z0
  have K5 : Keep h0 h5 [a1] := (Keep.refl h0 [a1]).wr W5 (Or.inl (List.mem_of_getElem? (i := 0) rfl))
  have N5 := Fr.snoc X5 N0 g_a1
  have R6 : ∀ t, Steps p.tables e below (T5.setTop (mkF m 9 #[rv a1, rv x1] [])) t → Steps p.tables e below (s₁.setTop f0) t := fun t k => R4 t (st5 t k)
  obtain ⟨fs, hr, hrun, hended, hW, hsame⟩ := X5.leave (v := none) (fun _ => rfl)
  refine ⟨_, _, pre0 _ (R6 _ ?_), hrun, hended, _, _, rfl, ?_, ⟨_, rfl⟩, hW, hsame.mono (by decide) (by decide)⟩
  · show Steps p.tables e below (T5.setTop (mkF m 9 #[rv a1, rv x1] [])) _
    exact X5.returnOut hx Bd.returns (hb hby d15_9) hr
  · show Q_rmEri Z a1 x1 u1 h0 n0 _ T5.heap _
    rw [e5]
    exact ⟨rfl, N5, K5⟩
theorem ef_rmLaw (m : MethodId) (x0 : Int32) (x1 : Int32) : entryFrame m #[(.int x0), (.int x1)] maxLocals = mkF m 0 #[iv x0, iv x1, .unset, .unset, .unset, .unset, .unset, .unset, .unset, .unset, .unset, .unset] [] := by first | (simp [entryFrame, mkF, argsToLocals, Value.category, maxLocals]; done) | rfl
def Q_rmLaw (Z : State) (p0 : Int32) (p1 : Int32) (cs : Int32) (dc : Addr) (kdc : ClassId) (em : Addr) (le : Addr) (ea : Addr) (kea : ClassId) (h0 : Heap) (n0 : Nat) (v : Option Value) (h : Heap) (L : List Loc) : Prop := v = some (.int (1 : Int32)) ∧ Fr n0 L
set_option maxRecDepth 65536 in
set_option maxHeartbeats 40000000 in
theorem rmLaw (l : Launch) (Z : State) (a0 : Array Value) (hw : ∀ d ∈ tables_1, d.before a0 Z = true) (ws : List Jvm.Cond) (p0 : Int32) (p1 : Int32) (cs : Int32) (dc : Addr) (kdc : ClassId) (em : Addr) (le : Addr) (ea : Addr) (kea : ClassId) (h0 : Heap) (n0 : Nat) (Z0 : n0 ≤ h0.size) (S_String_COMPACT_STRINGS : Sta Z h0 "java/lang/String" "COMPACT_STRINGS" "Z" (.int cs)) (hcs : ¬ cs = (0 : Int32)) (S_ArrayList_DEFAULTCAPACITY_EMPTY_ELEMENTDATA : Sta Z h0 "java/util/ArrayList" sN4 "[Ljava/lang/Object;" (.ref dc)) (A_dc : Arv Z h0 dc kdc (.object "java/lang/Object") (0 : Int32) [] .null) (S_ImmutableCollections_EMPTY : Sta Z h0 sN1 "EMPTY" "Ljava/lang/Object;" (.ref em)) (S_ImmutableCollections_EMPTY_LIST : Sta Z h0 sN1 "EMPTY_LIST" sN5 (.ref le)) (E_le : Exa Z h0 le sN0) (F_elements_le : Fld Z h0 le sN0 "elements" "[Ljava/lang/Object;" (.ref ea)) (A_ea : Arv Z h0 ea kea (.object "java/lang/Object") (0 : Int32) [] .null) :
    MetFree l x (head1 (Jvm.Cond.code x code maxLocals ret :: ws) room_1) (fun a U => a = #[(.int p0), (.int p1)] ∧ Z.Warmed39 U.vm ∧ U.heap = h0) (fun _ _ _ _ _ => True) (fun _ U o U' => ∃ v L, o = .returned v ∧ Q_rmLaw Z p0 p1 cs dc kdc em le ea kea h0 n0 v U'.heap L ∧ ReturnedEndW U o U' L room_1.cells room_1.slots) := by
  refine MetFree.of_bodySF (plainFor_of_name pn_28) hisR ?_
  intro p e s m args below meth c s₁ Bd hml0 hP hK
  obtain ⟨rfl, hZ, hh⟩ := hP
  have hx := Bd.exec
  have hby := Bd.bytes
  have hml : c.maxLocals = 12 := hml0
  have hown : s.vm.findClass "com/example/dvarapala/dvarapala/lock/ExclusiveRuleBlockersPinLaw" = some m.cls := findClass_of_methodNamed Bd.named
  have hnm := (name_of_methodNamed Bd.named Bd.method).1
  have X0 : Stand p l e room_1 s m #[(.int p0), (.int p1)] below meth c s₁ [] 0 0 := Stand.of_body Bd
  have e0 : s₁.heap = h0 := by rw [← hh, Bd.state]; rfl
  have N0 := Fr.nil n0
  obtain ⟨f0, hf0⟩ : ∃ f : JFrame, f = mkF m 0 #[iv p0, iv p1, .unset, .unset, .unset, .unset, .unset, .unset, .unset, .unset, .unset, .unset] [] := ⟨_, rfl⟩
  have pre0 : ∀ t, Steps p.tables e below (s₁.setTop f0) t → Steps p.tables e below (s₁.setTop (entryFrame m #[(.int p0), (.int p1)] maxLocals)) t := fun t k => castTop ((ef_rmLaw m p0 p1).trans hf0.symm) k
  have R0 : ∀ t, Steps p.tables e below (s₁.setTop (mkF m 0 #[iv p0, iv p1, .unset, .unset, .unset, .unset, .unset, .unset, .unset, .unset, .unset, .unset] [])) t → Steps p.tables e below (s₁.setTop f0) t := by rw [hf0]; exact fun t k => k
  obtain ⟨T1, h1, X1, e1, E1, A1, D1, -, st1⟩ := newO X0 hx hZ hown (hw _ (List.mem_of_getElem? (i := 0) rfl)) (hw _ (List.mem_of_getElem? (i := 1) rfl)) (hw _ (List.mem_of_getElem? (i := 2) rfl)) e0 (g := (mkF m 0 #[iv p0, iv p1, .unset, .unset, .unset, .unset, .unset, .unset, .unset, .unset, .unset, .unset] [])) rfl (hb hby at_0) (by decide) (by decide)
  obtain ⟨b1, g1⟩ : ∃ z, z = h0.size := ⟨_, rfl⟩
  rw [← g1] at A1 D1 st1
  have g_b1 : n0 ≤ b1 := Nat.le_trans Z0 (Nat.le_of_eq g1.symm)
  have sz_b1 : h0.size ≤ b1 := Nat.le_trans (Keep.refl h0 []).1 (Nat.le_of_eq g1.symm)
  have ne_dc_b1 : dc ≠ b1 := Nat.ne_of_lt (Nat.lt_of_lt_of_le A_dc.lt (Nat.le_of_eq g1.symm))
  have ne_le_b1 : le ≠ b1 := Nat.ne_of_lt (Nat.lt_of_lt_of_le E_le.lt (Nat.le_of_eq g1.symm))
  have ne_ea_b1 : ea ≠ b1 := Nat.ne_of_lt (Nat.lt_of_lt_of_le A_ea.lt (Nat.le_of_eq g1.symm))
  have f1_S_String_COMPACT_STRINGS : Sta Z h1 "java/lang/String" "COMPACT_STRINGS" "Z" (.int cs) := S_String_COMPACT_STRINGS.ext E1
  have f1_S_ArrayList_DEFAULTCAPACITY_EMPTY_ELEMENTDATA : Sta Z h1 "java/util/ArrayList" sN4 "[Ljava/lang/Object;" (.ref dc) := S_ArrayList_DEFAULTCAPACITY_EMPTY_ELEMENTDATA.ext E1
  have f1_A_dc : Arv Z h1 dc kdc (.object "java/lang/Object") (0 : Int32) [] .null := A_dc.ext E1
  have f1_S_ImmutableCollections_EMPTY : Sta Z h1 sN1 "EMPTY" "Ljava/lang/Object;" (.ref em) := S_ImmutableCollections_EMPTY.ext E1
  have f1_S_ImmutableCollections_EMPTY_LIST : Sta Z h1 sN1 "EMPTY_LIST" sN5 (.ref le) := S_ImmutableCollections_EMPTY_LIST.ext E1
  have f1_E_le : Exa Z h1 le sN0 := E_le.ext E1
  have f1_F_elements_le : Fld Z h1 le sN0 "elements" "[Ljava/lang/Object;" (.ref ea) := F_elements_le.ext E1
  have f1_A_ea : Arv Z h1 ea kea (.object "java/lang/Object") (0 : Int32) [] .null := A_ea.ext E1
  have z1 : n0 ≤ h1.size := Nat.le_trans Z0 E1.1
  have K1 : Keep h0 h1 [] := (Keep.refl h0 []).ext E1
  have d1_coder : Fld Z h1 b1 "java/lang/String" "coder" "B" (.int (0 : Int32)) := D1 (Or.inr (hw _ (List.mem_of_getElem? (i := 27) rfl))) (ty := .byte) (by decide)
  have d1_value : Fld Z h1 b1 "java/lang/String" "value" "[B" .null := D1 (Or.inr (hw _ (List.mem_of_getElem? (i := 29) rfl))) (ty := (.array .byte)) (by decide)
  have R2 : ∀ t, Steps p.tables e below (T1.setTop (mkF m 3 #[iv p0, iv p1, .unset, .unset, .unset, .unset, .unset, .unset, .unset, .unset, .unset, .unset] [(.ref b1)])) t → Steps p.tables e below (s₁.setTop f0) t := fun t k => R0 t (st1 t k)
  have R3 : ∀ t, Steps p.tables e below (T1.setTop (mkF m 5 #[iv p0, iv p1, .unset, .unset, .unset, .unset, .unset, .unset, .unset, .unset, .unset, .unset] [(.int (1 : Int32)), (.ref b1), (.ref b1)])) t → Steps p.tables e below (s₁.setTop f0) t := fun t k => R2 t (by
    show Steps p.tables e below (T1.setTop (mkF m 3 #[iv p0, iv p1, .unset, .unset, .unset, .unset, .unset, .unset, .unset, .unset, .unset, .unset] [(.ref b1)])) _
    refine XS.dup X1.here hx rfl (hb hby at_3) rfl rfl ?_
    show Steps p.tables e below (T1.setTop (mkF m 4 #[iv p0, iv p1, .unset, .unset, .unset, .unset, .unset, .unset, .unset, .unset, .unset, .unset] [(.ref b1), (.ref b1)])) _
    refine XS.iconst X1.here hx rfl (hb hby at_4) ?_
    exact k)
  obtain ⟨T4, h4, k4, X4, e4, E4, A4, st4⟩ := newP X1 hx hZ (hw _ (List.mem_of_getElem? (i := 3) rfl)) e1 (g := (mkF m 5 #[iv p0, iv p1, .unset, .unset, .unset, .unset, .unset, .unset, .unset, .unset, .unset, .unset] [(.int (1 : Int32)), (.ref b1), (.ref b1)])) rfl (hb hby at_5) rfl (by decide) (cap := 1) (by decide) (by decide) (by decide) (by decide)
  obtain ⟨b4, g4⟩ : ∃ z, z = h1.size := ⟨_, rfl⟩
  rw [← g4] at A4 st4
  have g_b4 : n0 ≤ b4 := Nat.le_trans z1 (Nat.le_of_eq g4.symm)
  have sz_b4 : h0.size ≤ b4 := Nat.le_trans K1.1 (Nat.le_of_eq g4.symm)
  have ne_dc_b4 : dc ≠ b4 := Nat.ne_of_lt (Nat.lt_of_lt_of_le f1_A_dc.lt (Nat.le_of_eq g4.symm))
  have ne_le_b4 : le ≠ b4 := Nat.ne_of_lt (Nat.lt_of_lt_of_le f1_E_le.lt (Nat.le_of_eq g4.symm))
  have ne_ea_b4 : ea ≠ b4 := Nat.ne_of_lt (Nat.lt_of_lt_of_le f1_A_ea.lt (Nat.le_of_eq g4.symm))
  have ne_b1_b4 : b1 ≠ b4 := Nat.ne_of_lt (Nat.lt_of_lt_of_le A1.lt (Nat.le_of_eq g4.symm))
  have f4_S_String_COMPACT_STRINGS : Sta Z h4 "java/lang/String" "COMPACT_STRINGS" "Z" (.int cs) := f1_S_String_COMPACT_STRINGS.ext E4
  have f4_S_ArrayList_DEFAULTCAPACITY_EMPTY_ELEMENTDATA : Sta Z h4 "java/util/ArrayList" sN4 "[Ljava/lang/Object;" (.ref dc) := f1_S_ArrayList_DEFAULTCAPACITY_EMPTY_ELEMENTDATA.ext E4
  have f4_A_dc : Arv Z h4 dc kdc (.object "java/lang/Object") (0 : Int32) [] .null := f1_A_dc.ext E4
  have f4_S_ImmutableCollections_EMPTY : Sta Z h4 sN1 "EMPTY" "Ljava/lang/Object;" (.ref em) := f1_S_ImmutableCollections_EMPTY.ext E4
  have f4_S_ImmutableCollections_EMPTY_LIST : Sta Z h4 sN1 "EMPTY_LIST" sN5 (.ref le) := f1_S_ImmutableCollections_EMPTY_LIST.ext E4
  have f4_E_le : Exa Z h4 le sN0 := f1_E_le.ext E4
  have f4_F_elements_le : Fld Z h4 le sN0 "elements" "[Ljava/lang/Object;" (.ref ea) := f1_F_elements_le.ext E4
  have f4_A_ea : Arv Z h4 ea kea (.object "java/lang/Object") (0 : Int32) [] .null := f1_A_ea.ext E4
  have f4_E_b1 : Exa Z h4 b1 "java/lang/String" := A1.ext E4
  have f4_F_coder_b1 : Fld Z h4 b1 "java/lang/String" "coder" "B" (.int (0 : Int32)) := d1_coder.ext E4
  have f4_F_value_b1 : Fld Z h4 b1 "java/lang/String" "value" "[B" .null := d1_value.ext E4
  have z4 : n0 ≤ h4.size := Nat.le_trans z1 E4.1
  have K4 : Keep h0 h4 [] := K1.ext E4
  have v4 : Arv Z h4 b4 k4 .char (1 : Int32) [(.int (0 : Int32))] (.int (0 : Int32)) := (Arv.new A4 (by decide)).pad (pad_rep [] (.int (0 : Int32)) 1)
  have R5 : ∀ t, Steps p.tables e below (T4.setTop (mkF m 7 #[iv p0, iv p1, .unset, .unset, .unset, .unset, .unset, .unset, .unset, .unset, .unset, .unset] [(.ref b4), (.ref b1), (.ref b1)])) t → Steps p.tables e below (s₁.setTop f0) t := fun t k => R3 t (st4 t k)
  have R6 : ∀ t, Steps p.tables e below (T4.setTop (mkF m 15 #[iv p0, iv p1, .unset, .unset, .unset, .unset, .unset, .unset, .unset, .unset, .unset, .unset] [(.int ((p0 &&& (255 : Int32)).toUInt32.toUInt16.toUInt32.toInt32)), (.int (0 : Int32)), (.ref b4), (.ref b4), (.ref b1), (.ref b1)])) t → Steps p.tables e below (s₁.setTop f0) t := fun t k => R5 t (by
    show Steps p.tables e below (T4.setTop (mkF m 7 #[iv p0, iv p1, .unset, .unset, .unset, .unset, .unset, .unset, .unset, .unset, .unset, .unset] [(.ref b4), (.ref b1), (.ref b1)])) _
    refine XS.dup X4.here hx rfl (hb hby at_7) rfl rfl ?_
    show Steps p.tables e below (T4.setTop (mkF m 8 #[iv p0, iv p1, .unset, .unset, .unset, .unset, .unset, .unset, .unset, .unset, .unset, .unset] [(.ref b4), (.ref b4), (.ref b1), (.ref b1)])) _
    refine XS.iconst X4.here hx rfl (hb hby at_8) ?_
    show Steps p.tables e below (T4.setTop (mkF m 9 #[iv p0, iv p1, .unset, .unset, .unset, .unset, .unset, .unset, .unset, .unset, .unset, .unset] [(.int (0 : Int32)), (.ref b4), (.ref b4), (.ref b1), (.ref b1)])) _
    refine XS.iloadN X4.here hx rfl (hb hby at_9) rfl  ?_
    show Steps p.tables e below (T4.setTop (mkF m 10 #[iv p0, iv p1, .unset, .unset, .unset, .unset, .unset, .unset, .unset, .unset, .unset, .unset] [(.int p0), (.int (0 : Int32)), (.ref b4), (.ref b4), (.ref b1), (.ref b1)])) _
    refine XS.sipush X4.here hx rfl (hb hby at_10) ?_
    show Steps p.tables e below (T4.setTop (mkF m 13 #[iv p0, iv p1, .unset, .unset, .unset, .unset, .unset, .unset, .unset, .unset, .unset, .unset] [(.int (255 : Int32)), (.int p0), (.int (0 : Int32)), (.ref b4), (.ref b4), (.ref b1), (.ref b1)])) _
    refine XS.iand X4.here hx rfl (hb hby at_13) rfl ?_
    show Steps p.tables e below (T4.setTop (mkF m 14 #[iv p0, iv p1, .unset, .unset, .unset, .unset, .unset, .unset, .unset, .unset, .unset, .unset] [(.int (p0 &&& (255 : Int32))), (.int (0 : Int32)), (.ref b4), (.ref b4), (.ref b1), (.ref b1)])) _
    refine XS.i2c X4.here hx rfl (hb hby at_14) rfl ?_
    exact k)
  obtain ⟨c0, e_c0⟩ : ∃ z : Int32, z = ((p0 &&& (255 : Int32)).toUInt32.toUInt16.toUInt32.toInt32) := ⟨_, rfl⟩
  have R7 : ∀ t, Steps p.tables e below (T4.setTop (mkF m 15 #[iv p0, iv p1, .unset, .unset, .unset, .unset, .unset, .unset, .unset, .unset, .unset, .unset] [(.int c0), (.int (0 : Int32)), (.ref b4), (.ref b4), (.ref b1), (.ref b1)])) t → Steps p.tables e below (s₁.setTop f0) t := by have q := R6; rw [← e_c0] at q; exact q
  obtain ⟨cl8, Ar8, q8, S8, n8_, H8, G8⟩ := id v4
  have hin8 : ¬ ((0 : Int32) < 0 ∨ cl8.slots.size ≤ ((0 : Int32)).toNatClampNeg) := inb_of S8 ⟨by decide, by decide⟩
  obtain ⟨T8, h8, X8, e8, W8, st8⟩ := stC X4 hx hZ e4 Ar8 (j := (0 : Int32)) hin8 (g := (mkF m 15 #[iv p0, iv p1, .unset, .unset, .unset, .unset, .unset, .unset, .unset, .unset, .unset, .unset] [(.int c0), (.int (0 : Int32)), (.ref b4), (.ref b4), (.ref b1), (.ref b1)])) rfl rfl (hb hby at_15)
  have f8_S_String_COMPACT_STRINGS : Sta Z h8 "java/lang/String" "COMPACT_STRINGS" "Z" (.int cs) := f4_S_String_COMPACT_STRINGS.wr W8
  have f8_S_ArrayList_DEFAULTCAPACITY_EMPTY_ELEMENTDATA : Sta Z h8 "java/util/ArrayList" sN4 "[Ljava/lang/Object;" (.ref dc) := f4_S_ArrayList_DEFAULTCAPACITY_EMPTY_ELEMENTDATA.wr W8
  have f8_A_dc : Arv Z h8 dc kdc (.object "java/lang/Object") (0 : Int32) [] .null := f4_A_dc.other W8 ne_dc_b4
  have f8_S_ImmutableCollections_EMPTY : Sta Z h8 sN1 "EMPTY" "Ljava/lang/Object;" (.ref em) := f4_S_ImmutableCollections_EMPTY.wr W8
  have f8_S_ImmutableCollections_EMPTY_LIST : Sta Z h8 sN1 "EMPTY_LIST" sN5 (.ref le) := f4_S_ImmutableCollections_EMPTY_LIST.wr W8
  have f8_E_le : Exa Z h8 le sN0 := f4_E_le.wr W8
  have f8_F_elements_le : Fld Z h8 le sN0 "elements" "[Ljava/lang/Object;" (.ref ea) := f4_F_elements_le.other W8 (Or.inl ne_le_b4)
  have f8_A_ea : Arv Z h8 ea kea (.object "java/lang/Object") (0 : Int32) [] .null := f4_A_ea.other W8 ne_ea_b4
  have f8_E_b1 : Exa Z h8 b1 "java/lang/String" := f4_E_b1.wr W8
  have f8_F_coder_b1 : Fld Z h8 b1 "java/lang/String" "coder" "B" (.int (0 : Int32)) := f4_F_coder_b1.other W8 (Or.inl ne_b1_b4)
  have f8_F_value_b1 : Fld Z h8 b1 "java/lang/String" "value" "[B" .null := f4_F_value_b1.other W8 (Or.inl ne_b1_b4)
  have z8 : n0 ≤ h8.size := by rw [W8.size]; exact z4
  have K8 : Keep h0 h8 [] := K4.wr W8 (Or.inr sz_b4)
  have v8 : Arv Z h8 b4 k4 .char (1 : Int32) [(.int (nar .char c0))] (.int (0 : Int32)) := Arv.set Ar8 q8 S8 n8_ H8 G8 (fits_nar_char _) W8 0 rfl (Nat.le_of_ble_eq_true rfl)
  have N8 := Fr.snoc X8 N0 g_b4
  have R9 : ∀ t, Steps p.tables e below (T8.setTop (mkF m 16 #[iv p0, iv p1, .unset, .unset, .unset, .unset, .unset, .unset, .unset, .unset, .unset, .unset] [(.ref b4), (.ref b1), (.ref b1)])) t → Steps p.tables e below (s₁.setTop f0) t := fun t k => R7 t (st8 t k)
  obtain ⟨_, _, ⟨T10, L10, k10, n10⟩, -, X10, ⟨Lc10, hQ10, l10, y10, z10⟩, st10⟩ := X8.specialBack hx (y := (⟨"java/lang/String", "<init>", "([C)V"⟩ : MethodName)) rfl hown (mvT hZ (hw _ (List.mem_of_getElem? (i := 4) rfl))) (mvT hZ (hw _ (List.mem_of_getElem? (i := 5) rfl))) (mvT hZ (hw _ (List.mem_of_getElem? (i := 6) rfl))) (by decide) (backOf (W := 1) (rmStr1 l Z a0 hw [] b1 b4 .null (.int (0 : Int32)) k4 (nar .char c0) cs h8 n0 z8 f8_E_b1 f8_F_value_b1 f8_F_coder_b1 g_b1 v8 ne_b1_b4 f8_S_String_COMPACT_STRINGS hcs (own_c255 e_c0)) hZ (hw _ (List.mem_of_getElem? (i := 6) rfl)) (hw _ (List.mem_of_getElem? (i := 2) rfl)) (by decide) (by decide)) (g := (mkF m 16 #[iv p0, iv p1, .unset, .unset, .unset, .unset, .unset, .unset, .unset, .unset, .unset, .unset] [(.ref b4), (.ref b1), (.ref b1)])) rfl (by rw [hml]; rfl) (Steps.refl _) (a := b1) (argsL := [(.ref b4)]) (rest := [(.ref b1)]) (lenOf pd_29 rfl) rfl (by show 2 * 0 + _ ≤ _; exact Nat.le_of_eq rfl) (hb hby at_16) (fun _ _ => ⟨rfl, e8, (by decide : 2 + 1 ≤ _), (by decide : 5 + 1 ≤ _)⟩)
  dsimp only [Pt.U, Pt.locs, Pt.cells, Pt.slots] at X10 l10 y10 z10 st10 hQ10
  subst l10 y10 z10
  obtain ⟨b_10, kb_10, rfl, N10q, p10_0, p10_1, p10_2, p10_3, p10_4⟩ := hQ10
  have N10 := Fr.app N8 N10q
  have f10_S_String_COMPACT_STRINGS : Sta Z T10.heap "java/lang/String" "COMPACT_STRINGS" "Z" (.int cs) := own_sta_keep f8_S_String_COMPACT_STRINGS p10_0 (nsS f8_E_b1.nostat ns0)
  have f10_S_ArrayList_DEFAULTCAPACITY_EMPTY_ELEMENTDATA : Sta Z T10.heap "java/util/ArrayList" sN4 "[Ljava/lang/Object;" (.ref dc) := own_sta_keep f8_S_ArrayList_DEFAULTCAPACITY_EMPTY_ELEMENTDATA p10_0 (nsS f8_E_b1.nostat ns0)
  have f10_A_dc : Arv Z T10.heap dc kdc (.object "java/lang/Object") (0 : Int32) [] .null := f8_A_dc.keep p10_0 (ninS ne_dc_b1 nin0)
  have f10_S_ImmutableCollections_EMPTY : Sta Z T10.heap sN1 "EMPTY" "Ljava/lang/Object;" (.ref em) := own_sta_keep f8_S_ImmutableCollections_EMPTY p10_0 (nsS f8_E_b1.nostat ns0)
  have f10_S_ImmutableCollections_EMPTY_LIST : Sta Z T10.heap sN1 "EMPTY_LIST" sN5 (.ref le) := own_sta_keep f8_S_ImmutableCollections_EMPTY_LIST p10_0 (nsS f8_E_b1.nostat ns0)
  have f10_E_le : Exa Z T10.heap le sN0 := f8_E_le.keep p10_0
  have f10_F_elements_le : Fld Z T10.heap le sN0 "elements" "[Ljava/lang/Object;" (.ref ea) := f8_F_elements_le.keep p10_0 (ninS ne_le_b1 nin0)
  have f10_A_ea : Arv Z T10.heap ea kea (.object "java/lang/Object") (0 : Int32) [] .null := f8_A_ea.keep p10_0 (ninS ne_ea_b1 nin0)
  have f10_E_b1 : Exa Z T10.heap b1 "java/lang/String" := f8_E_b1.keep p10_0
  have f10_A_b4 : Arv Z T10.heap b4 k4 .char (1 : Int32) [(.int (nar .char c0))] (.int (0 : Int32)) := v8.keep p10_0 (ninS (Ne.symm ne_b1_b4) nin0)
  have z10 : n0 ≤ T10.heap.size := Nat.le_trans z8 p10_0.1
  have K10 : Keep h0 T10.heap [] := K8.trans p10_0 (allS (Or.inr sz_b1) all0)
  have g_b_10 : n0 ≤ b_10 := Nat.le_trans z8 p10_4
  have sz_b_10 : h0.size ≤ b_10 := Nat.le_trans K8.1 p10_4
  have ne_dc_b_10 : dc ≠ b_10 := Nat.ne_of_lt (Nat.lt_of_lt_of_le f8_A_dc.lt p10_4)
  have ne_le_b_10 : le ≠ b_10 := Nat.ne_of_lt (Nat.lt_of_lt_of_le f8_E_le.lt p10_4)
  have ne_ea_b_10 : ea ≠ b_10 := Nat.ne_of_lt (Nat.lt_of_lt_of_le f8_A_ea.lt p10_4)
  have ne_b1_b_10 : b1 ≠ b_10 := Nat.ne_of_lt (Nat.lt_of_lt_of_le f8_E_b1.lt p10_4)
  have ne_b4_b_10 : b4 ≠ b_10 := Nat.ne_of_lt (Nat.lt_of_lt_of_le v8.lt p10_4)
  have R11 : ∀ t, Steps p.tables e below (T10.setTop (mkF m 19 #[iv p0, iv p1, .unset, .unset, .unset, .unset, .unset, .unset, .unset, .unset, .unset, .unset] [(.ref b1)])) t → Steps p.tables e below (s₁.setTop f0) t := fun t k => R9 t (st10.trans k)
  have R12 : ∀ t, Steps p.tables e below (T10.setTop (mkF m 20 #[iv p0, iv p1, rv b1, .unset, .unset, .unset, .unset, .unset, .unset, .unset, .unset, .unset] [])) t → Steps p.tables e below (s₁.setTop f0) t := fun t k => R11 t (by
    show Steps p.tables e below (T10.setTop (mkF m 19 #[iv p0, iv p1, .unset, .unset, .unset, .unset, .unset, .unset, .unset, .unset, .unset, .unset] [(.ref b1)])) _
    refine XS.astoreN X10.here hx rfl (hb hby at_19) rfl rfl (l' := #[iv p0, iv p1, rv b1, .unset, .unset, .unset, .unset, .unset, .unset, .unset, .unset, .unset]) rfl ?_
    exact k)
  obtain ⟨T13, h13, X13, e13, E13, A13, D13, -, st13⟩ := newO X10 hx hZ hown (hw _ (List.mem_of_getElem? (i := 0) rfl)) (hw _ (List.mem_of_getElem? (i := 1) rfl)) (hw _ (List.mem_of_getElem? (i := 2) rfl)) rfl (g := (mkF m 20 #[iv p0, iv p1, rv b1, .unset, .unset, .unset, .unset, .unset, .unset, .unset, .unset, .unset] [])) rfl (hb hby at_20) (by decide) (by decide)
  obtain ⟨b13, g13⟩ : ∃ z, z = T10.heap.size := ⟨_, rfl⟩
  rw [← g13] at A13 D13 st13
  have g_b13 : n0 ≤ b13 := Nat.le_trans z10 (Nat.le_of_eq g13.symm)
  have sz_b13 : h0.size ≤ b13 := Nat.le_trans K10.1 (Nat.le_of_eq g13.symm)
  have ne_dc_b13 : dc ≠ b13 := Nat.ne_of_lt (Nat.lt_of_lt_of_le f10_A_dc.lt (Nat.le_of_eq g13.symm))
  have ne_le_b13 : le ≠ b13 := Nat.ne_of_lt (Nat.lt_of_lt_of_le f10_E_le.lt (Nat.le_of_eq g13.symm))
  have ne_ea_b13 : ea ≠ b13 := Nat.ne_of_lt (Nat.lt_of_lt_of_le f10_A_ea.lt (Nat.le_of_eq g13.symm))
  have ne_b1_b13 : b1 ≠ b13 := Nat.ne_of_lt (Nat.lt_of_lt_of_le f10_E_b1.lt (Nat.le_of_eq g13.symm))
  have ne_b4_b13 : b4 ≠ b13 := Nat.ne_of_lt (Nat.lt_of_lt_of_le f10_A_b4.lt (Nat.le_of_eq g13.symm))
  have ne_b_10_b13 : b_10 ≠ b13 := Nat.ne_of_lt (Nat.lt_of_lt_of_le p10_3.lt (Nat.le_of_eq g13.symm))
  have f13_S_String_COMPACT_STRINGS : Sta Z h13 "java/lang/String" "COMPACT_STRINGS" "Z" (.int cs) := f10_S_String_COMPACT_STRINGS.ext E13
  have f13_S_ArrayList_DEFAULTCAPACITY_EMPTY_ELEMENTDATA : Sta Z h13 "java/util/ArrayList" sN4 "[Ljava/lang/Object;" (.ref dc) := f10_S_ArrayList_DEFAULTCAPACITY_EMPTY_ELEMENTDATA.ext E13
  have f13_A_dc : Arv Z h13 dc kdc (.object "java/lang/Object") (0 : Int32) [] .null := f10_A_dc.ext E13
  have f13_S_ImmutableCollections_EMPTY : Sta Z h13 sN1 "EMPTY" "Ljava/lang/Object;" (.ref em) := f10_S_ImmutableCollections_EMPTY.ext E13
  have f13_S_ImmutableCollections_EMPTY_LIST : Sta Z h13 sN1 "EMPTY_LIST" sN5 (.ref le) := f10_S_ImmutableCollections_EMPTY_LIST.ext E13
  have f13_E_le : Exa Z h13 le sN0 := f10_E_le.ext E13
  have f13_F_elements_le : Fld Z h13 le sN0 "elements" "[Ljava/lang/Object;" (.ref ea) := f10_F_elements_le.ext E13
  have f13_A_ea : Arv Z h13 ea kea (.object "java/lang/Object") (0 : Int32) [] .null := f10_A_ea.ext E13
  have f13_E_b1 : Exa Z h13 b1 "java/lang/String" := f10_E_b1.ext E13
  have f13_A_b4 : Arv Z h13 b4 k4 .char (1 : Int32) [(.int (nar .char c0))] (.int (0 : Int32)) := f10_A_b4.ext E13
  have f13_F_value_b1 : Fld Z h13 b1 "java/lang/String" "value" "[B" (.ref b_10) := p10_1.ext E13
  have f13_F_coder_b1 : Fld Z h13 b1 "java/lang/String" "coder" "B" (.int (0 : Int32)) := p10_2.ext E13
  have f13_A_b_10 : Arv Z h13 b_10 kb_10 .byte (1 : Int32) [(.int (nar .byte ((nar .char c0).toInt8.toInt32)))] (.int (0 : Int32)) := p10_3.ext E13
  have z13 : n0 ≤ h13.size := Nat.le_trans z10 E13.1
  have K13 : Keep h0 h13 [] := K10.ext E13
  have d13_coder : Fld Z h13 b13 "java/lang/String" "coder" "B" (.int (0 : Int32)) := D13 (Or.inr (hw _ (List.mem_of_getElem? (i := 27) rfl))) (ty := .byte) (by decide)
  have d13_value : Fld Z h13 b13 "java/lang/String" "value" "[B" .null := D13 (Or.inr (hw _ (List.mem_of_getElem? (i := 29) rfl))) (ty := (.array .byte)) (by decide)
  have R14 : ∀ t, Steps p.tables e below (T13.setTop (mkF m 23 #[iv p0, iv p1, rv b1, .unset, .unset, .unset, .unset, .unset, .unset, .unset, .unset, .unset] [(.ref b13)])) t → Steps p.tables e below (s₁.setTop f0) t := fun t k => R12 t (st13 t k)
  have R15 : ∀ t, Steps p.tables e below (T13.setTop (mkF m 25 #[iv p0, iv p1, rv b1, .unset, .unset, .unset, .unset, .unset, .unset, .unset, .unset, .unset] [(.int (1 : Int32)), (.ref b13), (.ref b13)])) t → Steps p.tables e below (s₁.setTop f0) t := fun t k => R14 t (by
    show Steps p.tables e below (T13.setTop (mkF m 23 #[iv p0, iv p1, rv b1, .unset, .unset, .unset, .unset, .unset, .unset, .unset, .unset, .unset] [(.ref b13)])) _
    refine XS.dup X13.here hx rfl (hb hby at_23) rfl rfl ?_
    show Steps p.tables e below (T13.setTop (mkF m 24 #[iv p0, iv p1, rv b1, .unset, .unset, .unset, .unset, .unset, .unset, .unset, .unset, .unset] [(.ref b13), (.ref b13)])) _
    refine XS.iconst X13.here hx rfl (hb hby at_24) ?_
    exact k)
  obtain ⟨T16, h16, k16, X16, e16, E16, A16, st16⟩ := newP X13 hx hZ (hw _ (List.mem_of_getElem? (i := 3) rfl)) e13 (g := (mkF m 25 #[iv p0, iv p1, rv b1, .unset, .unset, .unset, .unset, .unset, .unset, .unset, .unset, .unset] [(.int (1 : Int32)), (.ref b13), (.ref b13)])) rfl (hb hby at_25) rfl (by decide) (cap := 1) (by decide) (by decide) (by decide) (by decide)
  obtain ⟨b16, g16⟩ : ∃ z, z = h13.size := ⟨_, rfl⟩
  rw [← g16] at A16 st16
  have g_b16 : n0 ≤ b16 := Nat.le_trans z13 (Nat.le_of_eq g16.symm)
  have sz_b16 : h0.size ≤ b16 := Nat.le_trans K13.1 (Nat.le_of_eq g16.symm)
  have ne_dc_b16 : dc ≠ b16 := Nat.ne_of_lt (Nat.lt_of_lt_of_le f13_A_dc.lt (Nat.le_of_eq g16.symm))
  have ne_le_b16 : le ≠ b16 := Nat.ne_of_lt (Nat.lt_of_lt_of_le f13_E_le.lt (Nat.le_of_eq g16.symm))
  have ne_ea_b16 : ea ≠ b16 := Nat.ne_of_lt (Nat.lt_of_lt_of_le f13_A_ea.lt (Nat.le_of_eq g16.symm))
  have ne_b1_b16 : b1 ≠ b16 := Nat.ne_of_lt (Nat.lt_of_lt_of_le f13_E_b1.lt (Nat.le_of_eq g16.symm))
  have ne_b4_b16 : b4 ≠ b16 := Nat.ne_of_lt (Nat.lt_of_lt_of_le f13_A_b4.lt (Nat.le_of_eq g16.symm))
  have ne_b_10_b16 : b_10 ≠ b16 := Nat.ne_of_lt (Nat.lt_of_lt_of_le f13_A_b_10.lt (Nat.le_of_eq g16.symm))
  have ne_b13_b16 : b13 ≠ b16 := Nat.ne_of_lt (Nat.lt_of_lt_of_le A13.lt (Nat.le_of_eq g16.symm))
  have f16_S_String_COMPACT_STRINGS : Sta Z h16 "java/lang/String" "COMPACT_STRINGS" "Z" (.int cs) := f13_S_String_COMPACT_STRINGS.ext E16
  have f16_S_ArrayList_DEFAULTCAPACITY_EMPTY_ELEMENTDATA : Sta Z h16 "java/util/ArrayList" sN4 "[Ljava/lang/Object;" (.ref dc) := f13_S_ArrayList_DEFAULTCAPACITY_EMPTY_ELEMENTDATA.ext E16
  have f16_A_dc : Arv Z h16 dc kdc (.object "java/lang/Object") (0 : Int32) [] .null := f13_A_dc.ext E16
  have f16_S_ImmutableCollections_EMPTY : Sta Z h16 sN1 "EMPTY" "Ljava/lang/Object;" (.ref em) := f13_S_ImmutableCollections_EMPTY.ext E16
  have f16_S_ImmutableCollections_EMPTY_LIST : Sta Z h16 sN1 "EMPTY_LIST" sN5 (.ref le) := f13_S_ImmutableCollections_EMPTY_LIST.ext E16
  have f16_E_le : Exa Z h16 le sN0 := f13_E_le.ext E16
  have f16_F_elements_le : Fld Z h16 le sN0 "elements" "[Ljava/lang/Object;" (.ref ea) := f13_F_elements_le.ext E16
  have f16_A_ea : Arv Z h16 ea kea (.object "java/lang/Object") (0 : Int32) [] .null := f13_A_ea.ext E16
  have f16_E_b1 : Exa Z h16 b1 "java/lang/String" := f13_E_b1.ext E16
  have f16_A_b4 : Arv Z h16 b4 k4 .char (1 : Int32) [(.int (nar .char c0))] (.int (0 : Int32)) := f13_A_b4.ext E16
  have f16_F_value_b1 : Fld Z h16 b1 "java/lang/String" "value" "[B" (.ref b_10) := f13_F_value_b1.ext E16
  have f16_F_coder_b1 : Fld Z h16 b1 "java/lang/String" "coder" "B" (.int (0 : Int32)) := f13_F_coder_b1.ext E16
  have f16_A_b_10 : Arv Z h16 b_10 kb_10 .byte (1 : Int32) [(.int (nar .byte ((nar .char c0).toInt8.toInt32)))] (.int (0 : Int32)) := f13_A_b_10.ext E16
  have f16_E_b13 : Exa Z h16 b13 "java/lang/String" := A13.ext E16
  have f16_F_coder_b13 : Fld Z h16 b13 "java/lang/String" "coder" "B" (.int (0 : Int32)) := d13_coder.ext E16
  have f16_F_value_b13 : Fld Z h16 b13 "java/lang/String" "value" "[B" .null := d13_value.ext E16
  have z16 : n0 ≤ h16.size := Nat.le_trans z13 E16.1
  have K16 : Keep h0 h16 [] := K13.ext E16
  have v16 : Arv Z h16 b16 k16 .char (1 : Int32) [(.int (0 : Int32))] (.int (0 : Int32)) := (Arv.new A16 (by decide)).pad (pad_rep [] (.int (0 : Int32)) 1)
  have R17 : ∀ t, Steps p.tables e below (T16.setTop (mkF m 27 #[iv p0, iv p1, rv b1, .unset, .unset, .unset, .unset, .unset, .unset, .unset, .unset, .unset] [(.ref b16), (.ref b13), (.ref b13)])) t → Steps p.tables e below (s₁.setTop f0) t := fun t k => R15 t (st16 t k)
  have R18 : ∀ t, Steps p.tables e below (T16.setTop (mkF m 38 #[iv p0, iv p1, rv b1, .unset, .unset, .unset, .unset, .unset, .unset, .unset, .unset, .unset] [(.int ((((p0.toUInt32 >>> ((8 : Int32) &&& 31).toUInt32).toInt32) &&& (255 : Int32)).toUInt32.toUInt16.toUInt32.toInt32)), (.int (0 : Int32)), (.ref b16), (.ref b16), (.ref b13), (.ref b13)])) t → Steps p.tables e below (s₁.setTop f0) t := fun t k => R17 t (by
    show Steps p.tables e below (T16.setTop (mkF m 27 #[iv p0, iv p1, rv b1, .unset, .unset, .unset, .unset, .unset, .unset, .unset, .unset, .unset] [(.ref b16), (.ref b13), (.ref b13)])) _
    refine XS.dup X16.here hx rfl (hb hby at_27) rfl rfl ?_
    show Steps p.tables e below (T16.setTop (mkF m 28 #[iv p0, iv p1, rv b1, .unset, .unset, .unset, .unset, .unset, .unset, .unset, .unset, .unset] [(.ref b16), (.ref b16), (.ref b13), (.ref b13)])) _
    refine XS.iconst X16.here hx rfl (hb hby at_28) ?_
    show Steps p.tables e below (T16.setTop (mkF m 29 #[iv p0, iv p1, rv b1, .unset, .unset, .unset, .unset, .unset, .unset, .unset, .unset, .unset] [(.int (0 : Int32)), (.ref b16), (.ref b16), (.ref b13), (.ref b13)])) _
    refine XS.iloadN X16.here hx rfl (hb hby at_29) rfl  ?_
    show Steps p.tables e below (T16.setTop (mkF m 30 #[iv p0, iv p1, rv b1, .unset, .unset, .unset, .unset, .unset, .unset, .unset, .unset, .unset] [(.int p0), (.int (0 : Int32)), (.ref b16), (.ref b16), (.ref b13), (.ref b13)])) _
    refine XS.bipush X16.here hx rfl (hb hby at_30) ?_
    show Steps p.tables e below (T16.setTop (mkF m 32 #[iv p0, iv p1, rv b1, .unset, .unset, .unset, .unset, .unset, .unset, .unset, .unset, .unset] [(.int (8 : Int32)), (.int p0), (.int (0 : Int32)), (.ref b16), (.ref b16), (.ref b13), (.ref b13)])) _
    refine XS.iushr X16.here hx rfl (hb hby at_32) rfl ?_
    show Steps p.tables e below (T16.setTop (mkF m 33 #[iv p0, iv p1, rv b1, .unset, .unset, .unset, .unset, .unset, .unset, .unset, .unset, .unset] [(.int ((p0.toUInt32 >>> ((8 : Int32) &&& 31).toUInt32).toInt32)), (.int (0 : Int32)), (.ref b16), (.ref b16), (.ref b13), (.ref b13)])) _
    refine XS.sipush X16.here hx rfl (hb hby at_33) ?_
    show Steps p.tables e below (T16.setTop (mkF m 36 #[iv p0, iv p1, rv b1, .unset, .unset, .unset, .unset, .unset, .unset, .unset, .unset, .unset] [(.int (255 : Int32)), (.int ((p0.toUInt32 >>> ((8 : Int32) &&& 31).toUInt32).toInt32)), (.int (0 : Int32)), (.ref b16), (.ref b16), (.ref b13), (.ref b13)])) _
    refine XS.iand X16.here hx rfl (hb hby at_36) rfl ?_
    show Steps p.tables e below (T16.setTop (mkF m 37 #[iv p0, iv p1, rv b1, .unset, .unset, .unset, .unset, .unset, .unset, .unset, .unset, .unset] [(.int (((p0.toUInt32 >>> ((8 : Int32) &&& 31).toUInt32).toInt32) &&& (255 : Int32))), (.int (0 : Int32)), (.ref b16), (.ref b16), (.ref b13), (.ref b13)])) _
    refine XS.i2c X16.here hx rfl (hb hby at_37) rfl ?_
    exact k)
  obtain ⟨c1, e_c1⟩ : ∃ z : Int32, z = ((((p0.toUInt32 >>> ((8 : Int32) &&& 31).toUInt32).toInt32) &&& (255 : Int32)).toUInt32.toUInt16.toUInt32.toInt32) := ⟨_, rfl⟩
  have R19 : ∀ t, Steps p.tables e below (T16.setTop (mkF m 38 #[iv p0, iv p1, rv b1, .unset, .unset, .unset, .unset, .unset, .unset, .unset, .unset, .unset] [(.int c1), (.int (0 : Int32)), (.ref b16), (.ref b16), (.ref b13), (.ref b13)])) t → Steps p.tables e below (s₁.setTop f0) t := by have q := R18; rw [← e_c1] at q; exact q
  obtain ⟨cl20, Ar20, q20, S20, n20_, H20, G20⟩ := id v16
  have hin20 : ¬ ((0 : Int32) < 0 ∨ cl20.slots.size ≤ ((0 : Int32)).toNatClampNeg) := inb_of S20 ⟨by decide, by decide⟩
  obtain ⟨T20, h20, X20, e20, W20, st20⟩ := stC X16 hx hZ e16 Ar20 (j := (0 : Int32)) hin20 (g := (mkF m 38 #[iv p0, iv p1, rv b1, .unset, .unset, .unset, .unset, .unset, .unset, .unset, .unset, .unset] [(.int c1), (.int (0 : Int32)), (.ref b16), (.ref b16), (.ref b13), (.ref b13)])) rfl rfl (hb hby at_38)
  have f20_S_String_COMPACT_STRINGS : Sta Z h20 "java/lang/String" "COMPACT_STRINGS" "Z" (.int cs) := f16_S_String_COMPACT_STRINGS.wr W20
  have f20_S_ArrayList_DEFAULTCAPACITY_EMPTY_ELEMENTDATA : Sta Z h20 "java/util/ArrayList" sN4 "[Ljava/lang/Object;" (.ref dc) := f16_S_ArrayList_DEFAULTCAPACITY_EMPTY_ELEMENTDATA.wr W20
  have f20_A_dc : Arv Z h20 dc kdc (.object "java/lang/Object") (0 : Int32) [] .null := f16_A_dc.other W20 ne_dc_b16
  have f20_S_ImmutableCollections_EMPTY : Sta Z h20 sN1 "EMPTY" "Ljava/lang/Object;" (.ref em) := f16_S_ImmutableCollections_EMPTY.wr W20
  have f20_S_ImmutableCollections_EMPTY_LIST : Sta Z h20 sN1 "EMPTY_LIST" sN5 (.ref le) := f16_S_ImmutableCollections_EMPTY_LIST.wr W20
  have f20_E_le : Exa Z h20 le sN0 := f16_E_le.wr W20
  have f20_F_elements_le : Fld Z h20 le sN0 "elements" "[Ljava/lang/Object;" (.ref ea) := f16_F_elements_le.other W20 (Or.inl ne_le_b16)
  have f20_A_ea : Arv Z h20 ea kea (.object "java/lang/Object") (0 : Int32) [] .null := f16_A_ea.other W20 ne_ea_b16
  have f20_E_b1 : Exa Z h20 b1 "java/lang/String" := f16_E_b1.wr W20
  have f20_A_b4 : Arv Z h20 b4 k4 .char (1 : Int32) [(.int (nar .char c0))] (.int (0 : Int32)) := f16_A_b4.other W20 ne_b4_b16
  have f20_F_value_b1 : Fld Z h20 b1 "java/lang/String" "value" "[B" (.ref b_10) := f16_F_value_b1.other W20 (Or.inl ne_b1_b16)
  have f20_F_coder_b1 : Fld Z h20 b1 "java/lang/String" "coder" "B" (.int (0 : Int32)) := f16_F_coder_b1.other W20 (Or.inl ne_b1_b16)
  have f20_A_b_10 : Arv Z h20 b_10 kb_10 .byte (1 : Int32) [(.int (nar .byte ((nar .char c0).toInt8.toInt32)))] (.int (0 : Int32)) := f16_A_b_10.other W20 ne_b_10_b16
  have f20_E_b13 : Exa Z h20 b13 "java/lang/String" := f16_E_b13.wr W20
  have f20_F_coder_b13 : Fld Z h20 b13 "java/lang/String" "coder" "B" (.int (0 : Int32)) := f16_F_coder_b13.other W20 (Or.inl ne_b13_b16)
  have f20_F_value_b13 : Fld Z h20 b13 "java/lang/String" "value" "[B" .null := f16_F_value_b13.other W20 (Or.inl ne_b13_b16)
  have z20 : n0 ≤ h20.size := by rw [W20.size]; exact z16
  have K20 : Keep h0 h20 [] := K16.wr W20 (Or.inr sz_b16)
  have v20 : Arv Z h20 b16 k16 .char (1 : Int32) [(.int (nar .char c1))] (.int (0 : Int32)) := Arv.set Ar20 q20 S20 n20_ H20 G20 (fits_nar_char _) W20 0 rfl (Nat.le_of_ble_eq_true rfl)
  have N20 := Fr.snoc X20 N10 g_b16
  have R21 : ∀ t, Steps p.tables e below (T20.setTop (mkF m 39 #[iv p0, iv p1, rv b1, .unset, .unset, .unset, .unset, .unset, .unset, .unset, .unset, .unset] [(.ref b16), (.ref b13), (.ref b13)])) t → Steps p.tables e below (s₁.setTop f0) t := fun t k => R19 t (st20 t k)
  obtain ⟨_, _, ⟨T22, L22, k22, n22⟩, -, X22, ⟨Lc22, hQ22, l22, y22, z22⟩, st22⟩ := X20.specialBack hx (y := (⟨"java/lang/String", "<init>", "([C)V"⟩ : MethodName)) rfl hown (mvT hZ (hw _ (List.mem_of_getElem? (i := 4) rfl))) (mvT hZ (hw _ (List.mem_of_getElem? (i := 5) rfl))) (mvT hZ (hw _ (List.mem_of_getElem? (i := 6) rfl))) (by decide) (backOf (W := 1) (rmStr1 l Z a0 hw [] b13 b16 .null (.int (0 : Int32)) k16 (nar .char c1) cs h20 n0 z20 f20_E_b13 f20_F_value_b13 f20_F_coder_b13 g_b13 v20 ne_b13_b16 f20_S_String_COMPACT_STRINGS hcs (own_c255 e_c1)) hZ (hw _ (List.mem_of_getElem? (i := 6) rfl)) (hw _ (List.mem_of_getElem? (i := 2) rfl)) (by decide) (by decide)) (g := (mkF m 39 #[iv p0, iv p1, rv b1, .unset, .unset, .unset, .unset, .unset, .unset, .unset, .unset, .unset] [(.ref b16), (.ref b13), (.ref b13)])) rfl (by rw [hml]; rfl) (Steps.refl _) (a := b13) (argsL := [(.ref b16)]) (rest := [(.ref b13)]) (lenOf pd_29 rfl) rfl (by show 2 * 0 + _ ≤ _; exact Nat.le_of_eq rfl) (hb hby at_39) (fun _ _ => ⟨rfl, e20, (by decide : 5 + 1 ≤ _), (by decide : 11 + 1 ≤ _)⟩)
  dsimp only [Pt.U, Pt.locs, Pt.cells, Pt.slots] at X22 l22 y22 z22 st22 hQ22
  subst l22 y22 z22
  obtain ⟨b_22, kb_22, rfl, N22q, p22_0, p22_1, p22_2, p22_3, p22_4⟩ := hQ22
  have N22 := Fr.app N20 N22q
  have f22_S_String_COMPACT_STRINGS : Sta Z T22.heap "java/lang/String" "COMPACT_STRINGS" "Z" (.int cs) := own_sta_keep f20_S_String_COMPACT_STRINGS p22_0 (nsS f20_E_b13.nostat ns0)
  have f22_S_ArrayList_DEFAULTCAPACITY_EMPTY_ELEMENTDATA : Sta Z T22.heap "java/util/ArrayList" sN4 "[Ljava/lang/Object;" (.ref dc) := own_sta_keep f20_S_ArrayList_DEFAULTCAPACITY_EMPTY_ELEMENTDATA p22_0 (nsS f20_E_b13.nostat ns0)
  have f22_A_dc : Arv Z T22.heap dc kdc (.object "java/lang/Object") (0 : Int32) [] .null := f20_A_dc.keep p22_0 (ninS ne_dc_b13 nin0)
  have f22_S_ImmutableCollections_EMPTY : Sta Z T22.heap sN1 "EMPTY" "Ljava/lang/Object;" (.ref em) := own_sta_keep f20_S_ImmutableCollections_EMPTY p22_0 (nsS f20_E_b13.nostat ns0)
  have f22_S_ImmutableCollections_EMPTY_LIST : Sta Z T22.heap sN1 "EMPTY_LIST" sN5 (.ref le) := own_sta_keep f20_S_ImmutableCollections_EMPTY_LIST p22_0 (nsS f20_E_b13.nostat ns0)
  have f22_E_le : Exa Z T22.heap le sN0 := f20_E_le.keep p22_0
  have f22_F_elements_le : Fld Z T22.heap le sN0 "elements" "[Ljava/lang/Object;" (.ref ea) := f20_F_elements_le.keep p22_0 (ninS ne_le_b13 nin0)
  have f22_A_ea : Arv Z T22.heap ea kea (.object "java/lang/Object") (0 : Int32) [] .null := f20_A_ea.keep p22_0 (ninS ne_ea_b13 nin0)
  have f22_E_b1 : Exa Z T22.heap b1 "java/lang/String" := f20_E_b1.keep p22_0
  have f22_A_b4 : Arv Z T22.heap b4 k4 .char (1 : Int32) [(.int (nar .char c0))] (.int (0 : Int32)) := f20_A_b4.keep p22_0 (ninS ne_b4_b13 nin0)
  have f22_F_value_b1 : Fld Z T22.heap b1 "java/lang/String" "value" "[B" (.ref b_10) := f20_F_value_b1.keep p22_0 (ninS ne_b1_b13 nin0)
  have f22_F_coder_b1 : Fld Z T22.heap b1 "java/lang/String" "coder" "B" (.int (0 : Int32)) := f20_F_coder_b1.keep p22_0 (ninS ne_b1_b13 nin0)
  have f22_A_b_10 : Arv Z T22.heap b_10 kb_10 .byte (1 : Int32) [(.int (nar .byte ((nar .char c0).toInt8.toInt32)))] (.int (0 : Int32)) := f20_A_b_10.keep p22_0 (ninS ne_b_10_b13 nin0)
  have f22_E_b13 : Exa Z T22.heap b13 "java/lang/String" := f20_E_b13.keep p22_0
  have f22_A_b16 : Arv Z T22.heap b16 k16 .char (1 : Int32) [(.int (nar .char c1))] (.int (0 : Int32)) := v20.keep p22_0 (ninS (Ne.symm ne_b13_b16) nin0)
  have z22 : n0 ≤ T22.heap.size := Nat.le_trans z20 p22_0.1
  have K22 : Keep h0 T22.heap [] := K20.trans p22_0 (allS (Or.inr sz_b13) all0)
  have g_b_22 : n0 ≤ b_22 := Nat.le_trans z20 p22_4
  have sz_b_22 : h0.size ≤ b_22 := Nat.le_trans K20.1 p22_4
  have ne_dc_b_22 : dc ≠ b_22 := Nat.ne_of_lt (Nat.lt_of_lt_of_le f20_A_dc.lt p22_4)
  have ne_le_b_22 : le ≠ b_22 := Nat.ne_of_lt (Nat.lt_of_lt_of_le f20_E_le.lt p22_4)
  have ne_ea_b_22 : ea ≠ b_22 := Nat.ne_of_lt (Nat.lt_of_lt_of_le f20_A_ea.lt p22_4)
  have ne_b1_b_22 : b1 ≠ b_22 := Nat.ne_of_lt (Nat.lt_of_lt_of_le f20_E_b1.lt p22_4)
  have ne_b4_b_22 : b4 ≠ b_22 := Nat.ne_of_lt (Nat.lt_of_lt_of_le f20_A_b4.lt p22_4)
  have ne_b_10_b_22 : b_10 ≠ b_22 := Nat.ne_of_lt (Nat.lt_of_lt_of_le f20_A_b_10.lt p22_4)
  have ne_b13_b_22 : b13 ≠ b_22 := Nat.ne_of_lt (Nat.lt_of_lt_of_le f20_E_b13.lt p22_4)
  have ne_b16_b_22 : b16 ≠ b_22 := Nat.ne_of_lt (Nat.lt_of_lt_of_le v20.lt p22_4)
  have R23 : ∀ t, Steps p.tables e below (T22.setTop (mkF m 42 #[iv p0, iv p1, rv b1, .unset, .unset, .unset, .unset, .unset, .unset, .unset, .unset, .unset] [(.ref b13)])) t → Steps p.tables e below (s₁.setTop f0) t := fun t k => R21 t (st22.trans k)
  have R24 : ∀ t, Steps p.tables e below (T22.setTop (mkF m 43 #[iv p0, iv p1, rv b1, rv b13, .unset, .unset, .unset, .unset, .unset, .unset, .unset, .unset] [])) t → Steps p.tables e below (s₁.setTop f0) t := fun t k => R23 t (by
    show Steps p.tables e below (T22.setTop (mkF m 42 #[iv p0, iv p1, rv b1, .unset, .unset, .unset, .unset, .unset, .unset, .unset, .unset, .unset] [(.ref b13)])) _
    refine XS.astoreN X22.here hx rfl (hb hby at_42) rfl rfl (l' := #[iv p0, iv p1, rv b1, rv b13, .unset, .unset, .unset, .unset, .unset, .unset, .unset, .unset]) rfl ?_
    exact k)
  obtain ⟨T25, h25, X25, e25, E25, A25, D25, -, st25⟩ := newO X22 hx hZ hown (hw _ (List.mem_of_getElem? (i := 0) rfl)) (hw _ (List.mem_of_getElem? (i := 1) rfl)) (hw _ (List.mem_of_getElem? (i := 2) rfl)) rfl (g := (mkF m 43 #[iv p0, iv p1, rv b1, rv b13, .unset, .unset, .unset, .unset, .unset, .unset, .unset, .unset] [])) rfl (hb hby at_43) (by decide) (by decide)
  obtain ⟨b25, g25⟩ : ∃ z, z = T22.heap.size := ⟨_, rfl⟩
  rw [← g25] at A25 D25 st25
  have g_b25 : n0 ≤ b25 := Nat.le_trans z22 (Nat.le_of_eq g25.symm)
  have sz_b25 : h0.size ≤ b25 := Nat.le_trans K22.1 (Nat.le_of_eq g25.symm)
  have ne_dc_b25 : dc ≠ b25 := Nat.ne_of_lt (Nat.lt_of_lt_of_le f22_A_dc.lt (Nat.le_of_eq g25.symm))
  have ne_le_b25 : le ≠ b25 := Nat.ne_of_lt (Nat.lt_of_lt_of_le f22_E_le.lt (Nat.le_of_eq g25.symm))
  have ne_ea_b25 : ea ≠ b25 := Nat.ne_of_lt (Nat.lt_of_lt_of_le f22_A_ea.lt (Nat.le_of_eq g25.symm))
  have ne_b1_b25 : b1 ≠ b25 := Nat.ne_of_lt (Nat.lt_of_lt_of_le f22_E_b1.lt (Nat.le_of_eq g25.symm))
  have ne_b4_b25 : b4 ≠ b25 := Nat.ne_of_lt (Nat.lt_of_lt_of_le f22_A_b4.lt (Nat.le_of_eq g25.symm))
  have ne_b_10_b25 : b_10 ≠ b25 := Nat.ne_of_lt (Nat.lt_of_lt_of_le f22_A_b_10.lt (Nat.le_of_eq g25.symm))
  have ne_b13_b25 : b13 ≠ b25 := Nat.ne_of_lt (Nat.lt_of_lt_of_le f22_E_b13.lt (Nat.le_of_eq g25.symm))
  have ne_b16_b25 : b16 ≠ b25 := Nat.ne_of_lt (Nat.lt_of_lt_of_le f22_A_b16.lt (Nat.le_of_eq g25.symm))
  have ne_b_22_b25 : b_22 ≠ b25 := Nat.ne_of_lt (Nat.lt_of_lt_of_le p22_3.lt (Nat.le_of_eq g25.symm))
  have f25_S_String_COMPACT_STRINGS : Sta Z h25 "java/lang/String" "COMPACT_STRINGS" "Z" (.int cs) := f22_S_String_COMPACT_STRINGS.ext E25
  have f25_S_ArrayList_DEFAULTCAPACITY_EMPTY_ELEMENTDATA : Sta Z h25 "java/util/ArrayList" sN4 "[Ljava/lang/Object;" (.ref dc) := f22_S_ArrayList_DEFAULTCAPACITY_EMPTY_ELEMENTDATA.ext E25
  have f25_A_dc : Arv Z h25 dc kdc (.object "java/lang/Object") (0 : Int32) [] .null := f22_A_dc.ext E25
  have f25_S_ImmutableCollections_EMPTY : Sta Z h25 sN1 "EMPTY" "Ljava/lang/Object;" (.ref em) := f22_S_ImmutableCollections_EMPTY.ext E25
  have f25_S_ImmutableCollections_EMPTY_LIST : Sta Z h25 sN1 "EMPTY_LIST" sN5 (.ref le) := f22_S_ImmutableCollections_EMPTY_LIST.ext E25
  have f25_E_le : Exa Z h25 le sN0 := f22_E_le.ext E25
  have f25_F_elements_le : Fld Z h25 le sN0 "elements" "[Ljava/lang/Object;" (.ref ea) := f22_F_elements_le.ext E25
  have f25_A_ea : Arv Z h25 ea kea (.object "java/lang/Object") (0 : Int32) [] .null := f22_A_ea.ext E25
  have f25_E_b1 : Exa Z h25 b1 "java/lang/String" := f22_E_b1.ext E25
  have f25_A_b4 : Arv Z h25 b4 k4 .char (1 : Int32) [(.int (nar .char c0))] (.int (0 : Int32)) := f22_A_b4.ext E25
  have f25_F_value_b1 : Fld Z h25 b1 "java/lang/String" "value" "[B" (.ref b_10) := f22_F_value_b1.ext E25
  have f25_F_coder_b1 : Fld Z h25 b1 "java/lang/String" "coder" "B" (.int (0 : Int32)) := f22_F_coder_b1.ext E25
  have f25_A_b_10 : Arv Z h25 b_10 kb_10 .byte (1 : Int32) [(.int (nar .byte ((nar .char c0).toInt8.toInt32)))] (.int (0 : Int32)) := f22_A_b_10.ext E25
  have f25_E_b13 : Exa Z h25 b13 "java/lang/String" := f22_E_b13.ext E25
  have f25_A_b16 : Arv Z h25 b16 k16 .char (1 : Int32) [(.int (nar .char c1))] (.int (0 : Int32)) := f22_A_b16.ext E25
  have f25_F_value_b13 : Fld Z h25 b13 "java/lang/String" "value" "[B" (.ref b_22) := p22_1.ext E25
  have f25_F_coder_b13 : Fld Z h25 b13 "java/lang/String" "coder" "B" (.int (0 : Int32)) := p22_2.ext E25
  have f25_A_b_22 : Arv Z h25 b_22 kb_22 .byte (1 : Int32) [(.int (nar .byte ((nar .char c1).toInt8.toInt32)))] (.int (0 : Int32)) := p22_3.ext E25
  have z25 : n0 ≤ h25.size := Nat.le_trans z22 E25.1
  have K25 : Keep h0 h25 [] := K22.ext E25
  have d25_coder : Fld Z h25 b25 "java/lang/String" "coder" "B" (.int (0 : Int32)) := D25 (Or.inr (hw _ (List.mem_of_getElem? (i := 27) rfl))) (ty := .byte) (by decide)
  have d25_value : Fld Z h25 b25 "java/lang/String" "value" "[B" .null := D25 (Or.inr (hw _ (List.mem_of_getElem? (i := 29) rfl))) (ty := (.array .byte)) (by decide)
  have R26 : ∀ t, Steps p.tables e below (T25.setTop (mkF m 46 #[iv p0, iv p1, rv b1, rv b13, .unset, .unset, .unset, .unset, .unset, .unset, .unset, .unset] [(.ref b25)])) t → Steps p.tables e below (s₁.setTop f0) t := fun t k => R24 t (st25 t k)
  have R27 : ∀ t, Steps p.tables e below (T25.setTop (mkF m 48 #[iv p0, iv p1, rv b1, rv b13, .unset, .unset, .unset, .unset, .unset, .unset, .unset, .unset] [(.int (1 : Int32)), (.ref b25), (.ref b25)])) t → Steps p.tables e below (s₁.setTop f0) t := fun t k => R26 t (by
    show Steps p.tables e below (T25.setTop (mkF m 46 #[iv p0, iv p1, rv b1, rv b13, .unset, .unset, .unset, .unset, .unset, .unset, .unset, .unset] [(.ref b25)])) _
    refine XS.dup X25.here hx rfl (hb hby at_46) rfl rfl ?_
    show Steps p.tables e below (T25.setTop (mkF m 47 #[iv p0, iv p1, rv b1, rv b13, .unset, .unset, .unset, .unset, .unset, .unset, .unset, .unset] [(.ref b25), (.ref b25)])) _
    refine XS.iconst X25.here hx rfl (hb hby at_47) ?_
    exact k)
  obtain ⟨T28, h28, k28, X28, e28, E28, A28, st28⟩ := newP X25 hx hZ (hw _ (List.mem_of_getElem? (i := 3) rfl)) e25 (g := (mkF m 48 #[iv p0, iv p1, rv b1, rv b13, .unset, .unset, .unset, .unset, .unset, .unset, .unset, .unset] [(.int (1 : Int32)), (.ref b25), (.ref b25)])) rfl (hb hby at_48) rfl (by decide) (cap := 1) (by decide) (by decide) (by decide) (by decide)
  obtain ⟨b28, g28⟩ : ∃ z, z = h25.size := ⟨_, rfl⟩
  rw [← g28] at A28 st28
  have g_b28 : n0 ≤ b28 := Nat.le_trans z25 (Nat.le_of_eq g28.symm)
  have sz_b28 : h0.size ≤ b28 := Nat.le_trans K25.1 (Nat.le_of_eq g28.symm)
  have ne_dc_b28 : dc ≠ b28 := Nat.ne_of_lt (Nat.lt_of_lt_of_le f25_A_dc.lt (Nat.le_of_eq g28.symm))
  have ne_le_b28 : le ≠ b28 := Nat.ne_of_lt (Nat.lt_of_lt_of_le f25_E_le.lt (Nat.le_of_eq g28.symm))
  have ne_ea_b28 : ea ≠ b28 := Nat.ne_of_lt (Nat.lt_of_lt_of_le f25_A_ea.lt (Nat.le_of_eq g28.symm))
  have ne_b1_b28 : b1 ≠ b28 := Nat.ne_of_lt (Nat.lt_of_lt_of_le f25_E_b1.lt (Nat.le_of_eq g28.symm))
  have ne_b4_b28 : b4 ≠ b28 := Nat.ne_of_lt (Nat.lt_of_lt_of_le f25_A_b4.lt (Nat.le_of_eq g28.symm))
  have ne_b_10_b28 : b_10 ≠ b28 := Nat.ne_of_lt (Nat.lt_of_lt_of_le f25_A_b_10.lt (Nat.le_of_eq g28.symm))
  have ne_b13_b28 : b13 ≠ b28 := Nat.ne_of_lt (Nat.lt_of_lt_of_le f25_E_b13.lt (Nat.le_of_eq g28.symm))
  have ne_b16_b28 : b16 ≠ b28 := Nat.ne_of_lt (Nat.lt_of_lt_of_le f25_A_b16.lt (Nat.le_of_eq g28.symm))
  have ne_b_22_b28 : b_22 ≠ b28 := Nat.ne_of_lt (Nat.lt_of_lt_of_le f25_A_b_22.lt (Nat.le_of_eq g28.symm))
  have ne_b25_b28 : b25 ≠ b28 := Nat.ne_of_lt (Nat.lt_of_lt_of_le A25.lt (Nat.le_of_eq g28.symm))
  have f28_S_String_COMPACT_STRINGS : Sta Z h28 "java/lang/String" "COMPACT_STRINGS" "Z" (.int cs) := f25_S_String_COMPACT_STRINGS.ext E28
  have f28_S_ArrayList_DEFAULTCAPACITY_EMPTY_ELEMENTDATA : Sta Z h28 "java/util/ArrayList" sN4 "[Ljava/lang/Object;" (.ref dc) := f25_S_ArrayList_DEFAULTCAPACITY_EMPTY_ELEMENTDATA.ext E28
  have f28_A_dc : Arv Z h28 dc kdc (.object "java/lang/Object") (0 : Int32) [] .null := f25_A_dc.ext E28
  have f28_S_ImmutableCollections_EMPTY : Sta Z h28 sN1 "EMPTY" "Ljava/lang/Object;" (.ref em) := f25_S_ImmutableCollections_EMPTY.ext E28
  have f28_S_ImmutableCollections_EMPTY_LIST : Sta Z h28 sN1 "EMPTY_LIST" sN5 (.ref le) := f25_S_ImmutableCollections_EMPTY_LIST.ext E28
  have f28_E_le : Exa Z h28 le sN0 := f25_E_le.ext E28
  have f28_F_elements_le : Fld Z h28 le sN0 "elements" "[Ljava/lang/Object;" (.ref ea) := f25_F_elements_le.ext E28
  have f28_A_ea : Arv Z h28 ea kea (.object "java/lang/Object") (0 : Int32) [] .null := f25_A_ea.ext E28
  have f28_E_b1 : Exa Z h28 b1 "java/lang/String" := f25_E_b1.ext E28
  have f28_A_b4 : Arv Z h28 b4 k4 .char (1 : Int32) [(.int (nar .char c0))] (.int (0 : Int32)) := f25_A_b4.ext E28
  have f28_F_value_b1 : Fld Z h28 b1 "java/lang/String" "value" "[B" (.ref b_10) := f25_F_value_b1.ext E28
  have f28_F_coder_b1 : Fld Z h28 b1 "java/lang/String" "coder" "B" (.int (0 : Int32)) := f25_F_coder_b1.ext E28
  have f28_A_b_10 : Arv Z h28 b_10 kb_10 .byte (1 : Int32) [(.int (nar .byte ((nar .char c0).toInt8.toInt32)))] (.int (0 : Int32)) := f25_A_b_10.ext E28
  have f28_E_b13 : Exa Z h28 b13 "java/lang/String" := f25_E_b13.ext E28
  have f28_A_b16 : Arv Z h28 b16 k16 .char (1 : Int32) [(.int (nar .char c1))] (.int (0 : Int32)) := f25_A_b16.ext E28
  have f28_F_value_b13 : Fld Z h28 b13 "java/lang/String" "value" "[B" (.ref b_22) := f25_F_value_b13.ext E28
  have f28_F_coder_b13 : Fld Z h28 b13 "java/lang/String" "coder" "B" (.int (0 : Int32)) := f25_F_coder_b13.ext E28
  have f28_A_b_22 : Arv Z h28 b_22 kb_22 .byte (1 : Int32) [(.int (nar .byte ((nar .char c1).toInt8.toInt32)))] (.int (0 : Int32)) := f25_A_b_22.ext E28
  have f28_E_b25 : Exa Z h28 b25 "java/lang/String" := A25.ext E28
  have f28_F_coder_b25 : Fld Z h28 b25 "java/lang/String" "coder" "B" (.int (0 : Int32)) := d25_coder.ext E28
  have f28_F_value_b25 : Fld Z h28 b25 "java/lang/String" "value" "[B" .null := d25_value.ext E28
  have z28 : n0 ≤ h28.size := Nat.le_trans z25 E28.1
  have K28 : Keep h0 h28 [] := K25.ext E28
  have v28 : Arv Z h28 b28 k28 .char (1 : Int32) [(.int (0 : Int32))] (.int (0 : Int32)) := (Arv.new A28 (by decide)).pad (pad_rep [] (.int (0 : Int32)) 1)
  have R29 : ∀ t, Steps p.tables e below (T28.setTop (mkF m 50 #[iv p0, iv p1, rv b1, rv b13, .unset, .unset, .unset, .unset, .unset, .unset, .unset, .unset] [(.ref b28), (.ref b25), (.ref b25)])) t → Steps p.tables e below (s₁.setTop f0) t := fun t k => R27 t (st28 t k)
  have R30 : ∀ t, Steps p.tables e below (T28.setTop (mkF m 61 #[iv p0, iv p1, rv b1, rv b13, .unset, .unset, .unset, .unset, .unset, .unset, .unset, .unset] [(.int ((((p0.toUInt32 >>> ((16 : Int32) &&& 31).toUInt32).toInt32) &&& (255 : Int32)).toUInt32.toUInt16.toUInt32.toInt32)), (.int (0 : Int32)), (.ref b28), (.ref b28), (.ref b25), (.ref b25)])) t → Steps p.tables e below (s₁.setTop f0) t := fun t k => R29 t (by
    show Steps p.tables e below (T28.setTop (mkF m 50 #[iv p0, iv p1, rv b1, rv b13, .unset, .unset, .unset, .unset, .unset, .unset, .unset, .unset] [(.ref b28), (.ref b25), (.ref b25)])) _
    refine XS.dup X28.here hx rfl (hb hby at_50) rfl rfl ?_
    show Steps p.tables e below (T28.setTop (mkF m 51 #[iv p0, iv p1, rv b1, rv b13, .unset, .unset, .unset, .unset, .unset, .unset, .unset, .unset] [(.ref b28), (.ref b28), (.ref b25), (.ref b25)])) _
    refine XS.iconst X28.here hx rfl (hb hby at_51) ?_
    show Steps p.tables e below (T28.setTop (mkF m 52 #[iv p0, iv p1, rv b1, rv b13, .unset, .unset, .unset, .unset, .unset, .unset, .unset, .unset] [(.int (0 : Int32)), (.ref b28), (.ref b28), (.ref b25), (.ref b25)])) _
    refine XS.iloadN X28.here hx rfl (hb hby at_52) rfl  ?_
    show Steps p.tables e below (T28.setTop (mkF m 53 #[iv p0, iv p1, rv b1, rv b13, .unset, .unset, .unset, .unset, .unset, .unset, .unset, .unset] [(.int p0), (.int (0 : Int32)), (.ref b28), (.ref b28), (.ref b25), (.ref b25)])) _
    refine XS.bipush X28.here hx rfl (hb hby at_53) ?_
    show Steps p.tables e below (T28.setTop (mkF m 55 #[iv p0, iv p1, rv b1, rv b13, .unset, .unset, .unset, .unset, .unset, .unset, .unset, .unset] [(.int (16 : Int32)), (.int p0), (.int (0 : Int32)), (.ref b28), (.ref b28), (.ref b25), (.ref b25)])) _
    refine XS.iushr X28.here hx rfl (hb hby at_55) rfl ?_
    show Steps p.tables e below (T28.setTop (mkF m 56 #[iv p0, iv p1, rv b1, rv b13, .unset, .unset, .unset, .unset, .unset, .unset, .unset, .unset] [(.int ((p0.toUInt32 >>> ((16 : Int32) &&& 31).toUInt32).toInt32)), (.int (0 : Int32)), (.ref b28), (.ref b28), (.ref b25), (.ref b25)])) _
    refine XS.sipush X28.here hx rfl (hb hby at_56) ?_
    show Steps p.tables e below (T28.setTop (mkF m 59 #[iv p0, iv p1, rv b1, rv b13, .unset, .unset, .unset, .unset, .unset, .unset, .unset, .unset] [(.int (255 : Int32)), (.int ((p0.toUInt32 >>> ((16 : Int32) &&& 31).toUInt32).toInt32)), (.int (0 : Int32)), (.ref b28), (.ref b28), (.ref b25), (.ref b25)])) _
    refine XS.iand X28.here hx rfl (hb hby at_59) rfl ?_
    show Steps p.tables e below (T28.setTop (mkF m 60 #[iv p0, iv p1, rv b1, rv b13, .unset, .unset, .unset, .unset, .unset, .unset, .unset, .unset] [(.int (((p0.toUInt32 >>> ((16 : Int32) &&& 31).toUInt32).toInt32) &&& (255 : Int32))), (.int (0 : Int32)), (.ref b28), (.ref b28), (.ref b25), (.ref b25)])) _
    refine XS.i2c X28.here hx rfl (hb hby at_60) rfl ?_
    exact k)
  obtain ⟨c2, e_c2⟩ : ∃ z : Int32, z = ((((p0.toUInt32 >>> ((16 : Int32) &&& 31).toUInt32).toInt32) &&& (255 : Int32)).toUInt32.toUInt16.toUInt32.toInt32) := ⟨_, rfl⟩
  have R31 : ∀ t, Steps p.tables e below (T28.setTop (mkF m 61 #[iv p0, iv p1, rv b1, rv b13, .unset, .unset, .unset, .unset, .unset, .unset, .unset, .unset] [(.int c2), (.int (0 : Int32)), (.ref b28), (.ref b28), (.ref b25), (.ref b25)])) t → Steps p.tables e below (s₁.setTop f0) t := by have q := R30; rw [← e_c2] at q; exact q
  obtain ⟨cl32, Ar32, q32, S32, n32_, H32, G32⟩ := id v28
  have hin32 : ¬ ((0 : Int32) < 0 ∨ cl32.slots.size ≤ ((0 : Int32)).toNatClampNeg) := inb_of S32 ⟨by decide, by decide⟩
  obtain ⟨T32, h32, X32, e32, W32, st32⟩ := stC X28 hx hZ e28 Ar32 (j := (0 : Int32)) hin32 (g := (mkF m 61 #[iv p0, iv p1, rv b1, rv b13, .unset, .unset, .unset, .unset, .unset, .unset, .unset, .unset] [(.int c2), (.int (0 : Int32)), (.ref b28), (.ref b28), (.ref b25), (.ref b25)])) rfl rfl (hb hby at_61)
  have f32_S_String_COMPACT_STRINGS : Sta Z h32 "java/lang/String" "COMPACT_STRINGS" "Z" (.int cs) := f28_S_String_COMPACT_STRINGS.wr W32
  have f32_S_ArrayList_DEFAULTCAPACITY_EMPTY_ELEMENTDATA : Sta Z h32 "java/util/ArrayList" sN4 "[Ljava/lang/Object;" (.ref dc) := f28_S_ArrayList_DEFAULTCAPACITY_EMPTY_ELEMENTDATA.wr W32
  have f32_A_dc : Arv Z h32 dc kdc (.object "java/lang/Object") (0 : Int32) [] .null := f28_A_dc.other W32 ne_dc_b28
  have f32_S_ImmutableCollections_EMPTY : Sta Z h32 sN1 "EMPTY" "Ljava/lang/Object;" (.ref em) := f28_S_ImmutableCollections_EMPTY.wr W32
  have f32_S_ImmutableCollections_EMPTY_LIST : Sta Z h32 sN1 "EMPTY_LIST" sN5 (.ref le) := f28_S_ImmutableCollections_EMPTY_LIST.wr W32
  have f32_E_le : Exa Z h32 le sN0 := f28_E_le.wr W32
  have f32_F_elements_le : Fld Z h32 le sN0 "elements" "[Ljava/lang/Object;" (.ref ea) := f28_F_elements_le.other W32 (Or.inl ne_le_b28)
  have f32_A_ea : Arv Z h32 ea kea (.object "java/lang/Object") (0 : Int32) [] .null := f28_A_ea.other W32 ne_ea_b28
  have f32_E_b1 : Exa Z h32 b1 "java/lang/String" := f28_E_b1.wr W32
  have f32_A_b4 : Arv Z h32 b4 k4 .char (1 : Int32) [(.int (nar .char c0))] (.int (0 : Int32)) := f28_A_b4.other W32 ne_b4_b28
  have f32_F_value_b1 : Fld Z h32 b1 "java/lang/String" "value" "[B" (.ref b_10) := f28_F_value_b1.other W32 (Or.inl ne_b1_b28)
  have f32_F_coder_b1 : Fld Z h32 b1 "java/lang/String" "coder" "B" (.int (0 : Int32)) := f28_F_coder_b1.other W32 (Or.inl ne_b1_b28)
  have f32_A_b_10 : Arv Z h32 b_10 kb_10 .byte (1 : Int32) [(.int (nar .byte ((nar .char c0).toInt8.toInt32)))] (.int (0 : Int32)) := f28_A_b_10.other W32 ne_b_10_b28
  have f32_E_b13 : Exa Z h32 b13 "java/lang/String" := f28_E_b13.wr W32
  have f32_A_b16 : Arv Z h32 b16 k16 .char (1 : Int32) [(.int (nar .char c1))] (.int (0 : Int32)) := f28_A_b16.other W32 ne_b16_b28
  have f32_F_value_b13 : Fld Z h32 b13 "java/lang/String" "value" "[B" (.ref b_22) := f28_F_value_b13.other W32 (Or.inl ne_b13_b28)
  have f32_F_coder_b13 : Fld Z h32 b13 "java/lang/String" "coder" "B" (.int (0 : Int32)) := f28_F_coder_b13.other W32 (Or.inl ne_b13_b28)
  have f32_A_b_22 : Arv Z h32 b_22 kb_22 .byte (1 : Int32) [(.int (nar .byte ((nar .char c1).toInt8.toInt32)))] (.int (0 : Int32)) := f28_A_b_22.other W32 ne_b_22_b28
  have f32_E_b25 : Exa Z h32 b25 "java/lang/String" := f28_E_b25.wr W32
  have f32_F_coder_b25 : Fld Z h32 b25 "java/lang/String" "coder" "B" (.int (0 : Int32)) := f28_F_coder_b25.other W32 (Or.inl ne_b25_b28)
  have f32_F_value_b25 : Fld Z h32 b25 "java/lang/String" "value" "[B" .null := f28_F_value_b25.other W32 (Or.inl ne_b25_b28)
  have z32 : n0 ≤ h32.size := by rw [W32.size]; exact z28
  have K32 : Keep h0 h32 [] := K28.wr W32 (Or.inr sz_b28)
  have v32 : Arv Z h32 b28 k28 .char (1 : Int32) [(.int (nar .char c2))] (.int (0 : Int32)) := Arv.set Ar32 q32 S32 n32_ H32 G32 (fits_nar_char _) W32 0 rfl (Nat.le_of_ble_eq_true rfl)
  have N32 := Fr.snoc X32 N22 g_b28
  have R33 : ∀ t, Steps p.tables e below (T32.setTop (mkF m 62 #[iv p0, iv p1, rv b1, rv b13, .unset, .unset, .unset, .unset, .unset, .unset, .unset, .unset] [(.ref b28), (.ref b25), (.ref b25)])) t → Steps p.tables e below (s₁.setTop f0) t := fun t k => R31 t (st32 t k)
  obtain ⟨_, _, ⟨T34, L34, k34, n34⟩, -, X34, ⟨Lc34, hQ34, l34, y34, z34⟩, st34⟩ := X32.specialBack hx (y := (⟨"java/lang/String", "<init>", "([C)V"⟩ : MethodName)) rfl hown (mvT hZ (hw _ (List.mem_of_getElem? (i := 4) rfl))) (mvT hZ (hw _ (List.mem_of_getElem? (i := 5) rfl))) (mvT hZ (hw _ (List.mem_of_getElem? (i := 6) rfl))) (by decide) (backOf (W := 1) (rmStr1 l Z a0 hw [] b25 b28 .null (.int (0 : Int32)) k28 (nar .char c2) cs h32 n0 z32 f32_E_b25 f32_F_value_b25 f32_F_coder_b25 g_b25 v32 ne_b25_b28 f32_S_String_COMPACT_STRINGS hcs (own_c255 e_c2)) hZ (hw _ (List.mem_of_getElem? (i := 6) rfl)) (hw _ (List.mem_of_getElem? (i := 2) rfl)) (by decide) (by decide)) (g := (mkF m 62 #[iv p0, iv p1, rv b1, rv b13, .unset, .unset, .unset, .unset, .unset, .unset, .unset, .unset] [(.ref b28), (.ref b25), (.ref b25)])) rfl (by rw [hml]; rfl) (Steps.refl _) (a := b25) (argsL := [(.ref b28)]) (rest := [(.ref b25)]) (lenOf pd_29 rfl) rfl (by show 2 * 0 + _ ≤ _; exact Nat.le_of_eq rfl) (hb hby at_62) (fun _ _ => ⟨rfl, e32, (by decide : 8 + 1 ≤ _), (by decide : 17 + 1 ≤ _)⟩)
  dsimp only [Pt.U, Pt.locs, Pt.cells, Pt.slots] at X34 l34 y34 z34 st34 hQ34
  subst l34 y34 z34
  obtain ⟨b_34, kb_34, rfl, N34q, p34_0, p34_1, p34_2, p34_3, p34_4⟩ := hQ34
  have N34 := Fr.app N32 N34q
  have f34_S_String_COMPACT_STRINGS : Sta Z T34.heap "java/lang/String" "COMPACT_STRINGS" "Z" (.int cs) := own_sta_keep f32_S_String_COMPACT_STRINGS p34_0 (nsS f32_E_b25.nostat ns0)
  have f34_S_ArrayList_DEFAULTCAPACITY_EMPTY_ELEMENTDATA : Sta Z T34.heap "java/util/ArrayList" sN4 "[Ljava/lang/Object;" (.ref dc) := own_sta_keep f32_S_ArrayList_DEFAULTCAPACITY_EMPTY_ELEMENTDATA p34_0 (nsS f32_E_b25.nostat ns0)
  have f34_A_dc : Arv Z T34.heap dc kdc (.object "java/lang/Object") (0 : Int32) [] .null := f32_A_dc.keep p34_0 (ninS ne_dc_b25 nin0)
  have f34_S_ImmutableCollections_EMPTY : Sta Z T34.heap sN1 "EMPTY" "Ljava/lang/Object;" (.ref em) := own_sta_keep f32_S_ImmutableCollections_EMPTY p34_0 (nsS f32_E_b25.nostat ns0)
  have f34_S_ImmutableCollections_EMPTY_LIST : Sta Z T34.heap sN1 "EMPTY_LIST" sN5 (.ref le) := own_sta_keep f32_S_ImmutableCollections_EMPTY_LIST p34_0 (nsS f32_E_b25.nostat ns0)
  have f34_E_le : Exa Z T34.heap le sN0 := f32_E_le.keep p34_0
  have f34_F_elements_le : Fld Z T34.heap le sN0 "elements" "[Ljava/lang/Object;" (.ref ea) := f32_F_elements_le.keep p34_0 (ninS ne_le_b25 nin0)
  have f34_A_ea : Arv Z T34.heap ea kea (.object "java/lang/Object") (0 : Int32) [] .null := f32_A_ea.keep p34_0 (ninS ne_ea_b25 nin0)
  have f34_E_b1 : Exa Z T34.heap b1 "java/lang/String" := f32_E_b1.keep p34_0
  have f34_A_b4 : Arv Z T34.heap b4 k4 .char (1 : Int32) [(.int (nar .char c0))] (.int (0 : Int32)) := f32_A_b4.keep p34_0 (ninS ne_b4_b25 nin0)
  have f34_F_value_b1 : Fld Z T34.heap b1 "java/lang/String" "value" "[B" (.ref b_10) := f32_F_value_b1.keep p34_0 (ninS ne_b1_b25 nin0)
  have f34_F_coder_b1 : Fld Z T34.heap b1 "java/lang/String" "coder" "B" (.int (0 : Int32)) := f32_F_coder_b1.keep p34_0 (ninS ne_b1_b25 nin0)
  have f34_A_b_10 : Arv Z T34.heap b_10 kb_10 .byte (1 : Int32) [(.int (nar .byte ((nar .char c0).toInt8.toInt32)))] (.int (0 : Int32)) := f32_A_b_10.keep p34_0 (ninS ne_b_10_b25 nin0)
  have f34_E_b13 : Exa Z T34.heap b13 "java/lang/String" := f32_E_b13.keep p34_0
  have f34_A_b16 : Arv Z T34.heap b16 k16 .char (1 : Int32) [(.int (nar .char c1))] (.int (0 : Int32)) := f32_A_b16.keep p34_0 (ninS ne_b16_b25 nin0)
  have f34_F_value_b13 : Fld Z T34.heap b13 "java/lang/String" "value" "[B" (.ref b_22) := f32_F_value_b13.keep p34_0 (ninS ne_b13_b25 nin0)
  have f34_F_coder_b13 : Fld Z T34.heap b13 "java/lang/String" "coder" "B" (.int (0 : Int32)) := f32_F_coder_b13.keep p34_0 (ninS ne_b13_b25 nin0)
  have f34_A_b_22 : Arv Z T34.heap b_22 kb_22 .byte (1 : Int32) [(.int (nar .byte ((nar .char c1).toInt8.toInt32)))] (.int (0 : Int32)) := f32_A_b_22.keep p34_0 (ninS ne_b_22_b25 nin0)
  have f34_E_b25 : Exa Z T34.heap b25 "java/lang/String" := f32_E_b25.keep p34_0
  have f34_A_b28 : Arv Z T34.heap b28 k28 .char (1 : Int32) [(.int (nar .char c2))] (.int (0 : Int32)) := v32.keep p34_0 (ninS (Ne.symm ne_b25_b28) nin0)
  have z34 : n0 ≤ T34.heap.size := Nat.le_trans z32 p34_0.1
  have K34 : Keep h0 T34.heap [] := K32.trans p34_0 (allS (Or.inr sz_b25) all0)
  have g_b_34 : n0 ≤ b_34 := Nat.le_trans z32 p34_4
  have sz_b_34 : h0.size ≤ b_34 := Nat.le_trans K32.1 p34_4
  have ne_dc_b_34 : dc ≠ b_34 := Nat.ne_of_lt (Nat.lt_of_lt_of_le f32_A_dc.lt p34_4)
  have ne_le_b_34 : le ≠ b_34 := Nat.ne_of_lt (Nat.lt_of_lt_of_le f32_E_le.lt p34_4)
  have ne_ea_b_34 : ea ≠ b_34 := Nat.ne_of_lt (Nat.lt_of_lt_of_le f32_A_ea.lt p34_4)
  have ne_b1_b_34 : b1 ≠ b_34 := Nat.ne_of_lt (Nat.lt_of_lt_of_le f32_E_b1.lt p34_4)
  have ne_b4_b_34 : b4 ≠ b_34 := Nat.ne_of_lt (Nat.lt_of_lt_of_le f32_A_b4.lt p34_4)
  have ne_b_10_b_34 : b_10 ≠ b_34 := Nat.ne_of_lt (Nat.lt_of_lt_of_le f32_A_b_10.lt p34_4)
  have ne_b13_b_34 : b13 ≠ b_34 := Nat.ne_of_lt (Nat.lt_of_lt_of_le f32_E_b13.lt p34_4)
  have ne_b16_b_34 : b16 ≠ b_34 := Nat.ne_of_lt (Nat.lt_of_lt_of_le f32_A_b16.lt p34_4)
  have ne_b_22_b_34 : b_22 ≠ b_34 := Nat.ne_of_lt (Nat.lt_of_lt_of_le f32_A_b_22.lt p34_4)
  have ne_b25_b_34 : b25 ≠ b_34 := Nat.ne_of_lt (Nat.lt_of_lt_of_le f32_E_b25.lt p34_4)
  have ne_b28_b_34 : b28 ≠ b_34 := Nat.ne_of_lt (Nat.lt_of_lt_of_le v32.lt p34_4)
  have R35 : ∀ t, Steps p.tables e below (T34.setTop (mkF m 65 #[iv p0, iv p1, rv b1, rv b13, .unset, .unset, .unset, .unset, .unset, .unset, .unset, .unset] [(.ref b25)])) t → Steps p.tables e below (s₁.setTop f0) t := fun t k => R33 t (st34.trans k)
  have R36 : ∀ t, Steps p.tables e below (T34.setTop (mkF m 67 #[iv p0, iv p1, rv b1, rv b13, rv b25, .unset, .unset, .unset, .unset, .unset, .unset, .unset] [])) t → Steps p.tables e below (s₁.setTop f0) t := fun t k => R35 t (by
    show Steps p.tables e below (T34.setTop (mkF m 65 #[iv p0, iv p1, rv b1, rv b13, .unset, .unset, .unset, .unset, .unset, .unset, .unset, .unset] [(.ref b25)])) _
    refine XS.astore X34.here hx rfl (hb hby at_65) rfl rfl (l' := #[iv p0, iv p1, rv b1, rv b13, rv b25, .unset, .unset, .unset, .unset, .unset, .unset, .unset]) rfl ?_
    exact k)
  obtain ⟨T37, h37, X37, e37, E37, A37, D37, -, st37⟩ := newO X34 hx hZ hown (hw _ (List.mem_of_getElem? (i := 0) rfl)) (hw _ (List.mem_of_getElem? (i := 1) rfl)) (hw _ (List.mem_of_getElem? (i := 2) rfl)) rfl (g := (mkF m 67 #[iv p0, iv p1, rv b1, rv b13, rv b25, .unset, .unset, .unset, .unset, .unset, .unset, .unset] [])) rfl (hb hby at_67) (by decide) (by decide)
  obtain ⟨b37, g37⟩ : ∃ z, z = T34.heap.size := ⟨_, rfl⟩
  rw [← g37] at A37 D37 st37
  have g_b37 : n0 ≤ b37 := Nat.le_trans z34 (Nat.le_of_eq g37.symm)
  have sz_b37 : h0.size ≤ b37 := Nat.le_trans K34.1 (Nat.le_of_eq g37.symm)
  have ne_dc_b37 : dc ≠ b37 := Nat.ne_of_lt (Nat.lt_of_lt_of_le f34_A_dc.lt (Nat.le_of_eq g37.symm))
  have ne_le_b37 : le ≠ b37 := Nat.ne_of_lt (Nat.lt_of_lt_of_le f34_E_le.lt (Nat.le_of_eq g37.symm))
  have ne_ea_b37 : ea ≠ b37 := Nat.ne_of_lt (Nat.lt_of_lt_of_le f34_A_ea.lt (Nat.le_of_eq g37.symm))
  have ne_b1_b37 : b1 ≠ b37 := Nat.ne_of_lt (Nat.lt_of_lt_of_le f34_E_b1.lt (Nat.le_of_eq g37.symm))
  have ne_b4_b37 : b4 ≠ b37 := Nat.ne_of_lt (Nat.lt_of_lt_of_le f34_A_b4.lt (Nat.le_of_eq g37.symm))
  have ne_b_10_b37 : b_10 ≠ b37 := Nat.ne_of_lt (Nat.lt_of_lt_of_le f34_A_b_10.lt (Nat.le_of_eq g37.symm))
  have ne_b13_b37 : b13 ≠ b37 := Nat.ne_of_lt (Nat.lt_of_lt_of_le f34_E_b13.lt (Nat.le_of_eq g37.symm))
  have ne_b16_b37 : b16 ≠ b37 := Nat.ne_of_lt (Nat.lt_of_lt_of_le f34_A_b16.lt (Nat.le_of_eq g37.symm))
  have ne_b_22_b37 : b_22 ≠ b37 := Nat.ne_of_lt (Nat.lt_of_lt_of_le f34_A_b_22.lt (Nat.le_of_eq g37.symm))
  have ne_b25_b37 : b25 ≠ b37 := Nat.ne_of_lt (Nat.lt_of_lt_of_le f34_E_b25.lt (Nat.le_of_eq g37.symm))
  have ne_b28_b37 : b28 ≠ b37 := Nat.ne_of_lt (Nat.lt_of_lt_of_le f34_A_b28.lt (Nat.le_of_eq g37.symm))
  have ne_b_34_b37 : b_34 ≠ b37 := Nat.ne_of_lt (Nat.lt_of_lt_of_le p34_3.lt (Nat.le_of_eq g37.symm))
  have f37_S_String_COMPACT_STRINGS : Sta Z h37 "java/lang/String" "COMPACT_STRINGS" "Z" (.int cs) := f34_S_String_COMPACT_STRINGS.ext E37
  have f37_S_ArrayList_DEFAULTCAPACITY_EMPTY_ELEMENTDATA : Sta Z h37 "java/util/ArrayList" sN4 "[Ljava/lang/Object;" (.ref dc) := f34_S_ArrayList_DEFAULTCAPACITY_EMPTY_ELEMENTDATA.ext E37
  have f37_A_dc : Arv Z h37 dc kdc (.object "java/lang/Object") (0 : Int32) [] .null := f34_A_dc.ext E37
  have f37_S_ImmutableCollections_EMPTY : Sta Z h37 sN1 "EMPTY" "Ljava/lang/Object;" (.ref em) := f34_S_ImmutableCollections_EMPTY.ext E37
  have f37_S_ImmutableCollections_EMPTY_LIST : Sta Z h37 sN1 "EMPTY_LIST" sN5 (.ref le) := f34_S_ImmutableCollections_EMPTY_LIST.ext E37
  have f37_E_le : Exa Z h37 le sN0 := f34_E_le.ext E37
  have f37_F_elements_le : Fld Z h37 le sN0 "elements" "[Ljava/lang/Object;" (.ref ea) := f34_F_elements_le.ext E37
  have f37_A_ea : Arv Z h37 ea kea (.object "java/lang/Object") (0 : Int32) [] .null := f34_A_ea.ext E37
  have f37_E_b1 : Exa Z h37 b1 "java/lang/String" := f34_E_b1.ext E37
  have f37_A_b4 : Arv Z h37 b4 k4 .char (1 : Int32) [(.int (nar .char c0))] (.int (0 : Int32)) := f34_A_b4.ext E37
  have f37_F_value_b1 : Fld Z h37 b1 "java/lang/String" "value" "[B" (.ref b_10) := f34_F_value_b1.ext E37
  have f37_F_coder_b1 : Fld Z h37 b1 "java/lang/String" "coder" "B" (.int (0 : Int32)) := f34_F_coder_b1.ext E37
  have f37_A_b_10 : Arv Z h37 b_10 kb_10 .byte (1 : Int32) [(.int (nar .byte ((nar .char c0).toInt8.toInt32)))] (.int (0 : Int32)) := f34_A_b_10.ext E37
  have f37_E_b13 : Exa Z h37 b13 "java/lang/String" := f34_E_b13.ext E37
  have f37_A_b16 : Arv Z h37 b16 k16 .char (1 : Int32) [(.int (nar .char c1))] (.int (0 : Int32)) := f34_A_b16.ext E37
  have f37_F_value_b13 : Fld Z h37 b13 "java/lang/String" "value" "[B" (.ref b_22) := f34_F_value_b13.ext E37
  have f37_F_coder_b13 : Fld Z h37 b13 "java/lang/String" "coder" "B" (.int (0 : Int32)) := f34_F_coder_b13.ext E37
  have f37_A_b_22 : Arv Z h37 b_22 kb_22 .byte (1 : Int32) [(.int (nar .byte ((nar .char c1).toInt8.toInt32)))] (.int (0 : Int32)) := f34_A_b_22.ext E37
  have f37_E_b25 : Exa Z h37 b25 "java/lang/String" := f34_E_b25.ext E37
  have f37_A_b28 : Arv Z h37 b28 k28 .char (1 : Int32) [(.int (nar .char c2))] (.int (0 : Int32)) := f34_A_b28.ext E37
  have f37_F_value_b25 : Fld Z h37 b25 "java/lang/String" "value" "[B" (.ref b_34) := p34_1.ext E37
  have f37_F_coder_b25 : Fld Z h37 b25 "java/lang/String" "coder" "B" (.int (0 : Int32)) := p34_2.ext E37
  have f37_A_b_34 : Arv Z h37 b_34 kb_34 .byte (1 : Int32) [(.int (nar .byte ((nar .char c2).toInt8.toInt32)))] (.int (0 : Int32)) := p34_3.ext E37
  have z37 : n0 ≤ h37.size := Nat.le_trans z34 E37.1
  have K37 : Keep h0 h37 [] := K34.ext E37
  have d37_coder : Fld Z h37 b37 "java/lang/String" "coder" "B" (.int (0 : Int32)) := D37 (Or.inr (hw _ (List.mem_of_getElem? (i := 27) rfl))) (ty := .byte) (by decide)
  have d37_value : Fld Z h37 b37 "java/lang/String" "value" "[B" .null := D37 (Or.inr (hw _ (List.mem_of_getElem? (i := 29) rfl))) (ty := (.array .byte)) (by decide)
  have R38 : ∀ t, Steps p.tables e below (T37.setTop (mkF m 70 #[iv p0, iv p1, rv b1, rv b13, rv b25, .unset, .unset, .unset, .unset, .unset, .unset, .unset] [(.ref b37)])) t → Steps p.tables e below (s₁.setTop f0) t := fun t k => R36 t (st37 t k)
  have R39 : ∀ t, Steps p.tables e below (T37.setTop (mkF m 72 #[iv p0, iv p1, rv b1, rv b13, rv b25, .unset, .unset, .unset, .unset, .unset, .unset, .unset] [(.int (1 : Int32)), (.ref b37), (.ref b37)])) t → Steps p.tables e below (s₁.setTop f0) t := fun t k => R38 t (by
    show Steps p.tables e below (T37.setTop (mkF m 70 #[iv p0, iv p1, rv b1, rv b13, rv b25, .unset, .unset, .unset, .unset, .unset, .unset, .unset] [(.ref b37)])) _
    refine XS.dup X37.here hx rfl (hb hby at_70) rfl rfl ?_
    show Steps p.tables e below (T37.setTop (mkF m 71 #[iv p0, iv p1, rv b1, rv b13, rv b25, .unset, .unset, .unset, .unset, .unset, .unset, .unset] [(.ref b37), (.ref b37)])) _
    refine XS.iconst X37.here hx rfl (hb hby at_71) ?_
    exact k)
  obtain ⟨T40, h40, k40, X40, e40, E40, A40, st40⟩ := newP X37 hx hZ (hw _ (List.mem_of_getElem? (i := 3) rfl)) e37 (g := (mkF m 72 #[iv p0, iv p1, rv b1, rv b13, rv b25, .unset, .unset, .unset, .unset, .unset, .unset, .unset] [(.int (1 : Int32)), (.ref b37), (.ref b37)])) rfl (hb hby at_72) rfl (by decide) (cap := 1) (by decide) (by decide) (by decide) (by decide)
  obtain ⟨b40, g40⟩ : ∃ z, z = h37.size := ⟨_, rfl⟩
  rw [← g40] at A40 st40
  have g_b40 : n0 ≤ b40 := Nat.le_trans z37 (Nat.le_of_eq g40.symm)
  have sz_b40 : h0.size ≤ b40 := Nat.le_trans K37.1 (Nat.le_of_eq g40.symm)
  have ne_dc_b40 : dc ≠ b40 := Nat.ne_of_lt (Nat.lt_of_lt_of_le f37_A_dc.lt (Nat.le_of_eq g40.symm))
  have ne_le_b40 : le ≠ b40 := Nat.ne_of_lt (Nat.lt_of_lt_of_le f37_E_le.lt (Nat.le_of_eq g40.symm))
  have ne_ea_b40 : ea ≠ b40 := Nat.ne_of_lt (Nat.lt_of_lt_of_le f37_A_ea.lt (Nat.le_of_eq g40.symm))
  have ne_b1_b40 : b1 ≠ b40 := Nat.ne_of_lt (Nat.lt_of_lt_of_le f37_E_b1.lt (Nat.le_of_eq g40.symm))
  have ne_b4_b40 : b4 ≠ b40 := Nat.ne_of_lt (Nat.lt_of_lt_of_le f37_A_b4.lt (Nat.le_of_eq g40.symm))
  have ne_b_10_b40 : b_10 ≠ b40 := Nat.ne_of_lt (Nat.lt_of_lt_of_le f37_A_b_10.lt (Nat.le_of_eq g40.symm))
  have ne_b13_b40 : b13 ≠ b40 := Nat.ne_of_lt (Nat.lt_of_lt_of_le f37_E_b13.lt (Nat.le_of_eq g40.symm))
  have ne_b16_b40 : b16 ≠ b40 := Nat.ne_of_lt (Nat.lt_of_lt_of_le f37_A_b16.lt (Nat.le_of_eq g40.symm))
  have ne_b_22_b40 : b_22 ≠ b40 := Nat.ne_of_lt (Nat.lt_of_lt_of_le f37_A_b_22.lt (Nat.le_of_eq g40.symm))
  have ne_b25_b40 : b25 ≠ b40 := Nat.ne_of_lt (Nat.lt_of_lt_of_le f37_E_b25.lt (Nat.le_of_eq g40.symm))
  have ne_b28_b40 : b28 ≠ b40 := Nat.ne_of_lt (Nat.lt_of_lt_of_le f37_A_b28.lt (Nat.le_of_eq g40.symm))
  have ne_b_34_b40 : b_34 ≠ b40 := Nat.ne_of_lt (Nat.lt_of_lt_of_le f37_A_b_34.lt (Nat.le_of_eq g40.symm))
  have ne_b37_b40 : b37 ≠ b40 := Nat.ne_of_lt (Nat.lt_of_lt_of_le A37.lt (Nat.le_of_eq g40.symm))
  have f40_S_String_COMPACT_STRINGS : Sta Z h40 "java/lang/String" "COMPACT_STRINGS" "Z" (.int cs) := f37_S_String_COMPACT_STRINGS.ext E40
  have f40_S_ArrayList_DEFAULTCAPACITY_EMPTY_ELEMENTDATA : Sta Z h40 "java/util/ArrayList" sN4 "[Ljava/lang/Object;" (.ref dc) := f37_S_ArrayList_DEFAULTCAPACITY_EMPTY_ELEMENTDATA.ext E40
  have f40_A_dc : Arv Z h40 dc kdc (.object "java/lang/Object") (0 : Int32) [] .null := f37_A_dc.ext E40
  have f40_S_ImmutableCollections_EMPTY : Sta Z h40 sN1 "EMPTY" "Ljava/lang/Object;" (.ref em) := f37_S_ImmutableCollections_EMPTY.ext E40
  have f40_S_ImmutableCollections_EMPTY_LIST : Sta Z h40 sN1 "EMPTY_LIST" sN5 (.ref le) := f37_S_ImmutableCollections_EMPTY_LIST.ext E40
  have f40_E_le : Exa Z h40 le sN0 := f37_E_le.ext E40
  have f40_F_elements_le : Fld Z h40 le sN0 "elements" "[Ljava/lang/Object;" (.ref ea) := f37_F_elements_le.ext E40
  have f40_A_ea : Arv Z h40 ea kea (.object "java/lang/Object") (0 : Int32) [] .null := f37_A_ea.ext E40
  have f40_E_b1 : Exa Z h40 b1 "java/lang/String" := f37_E_b1.ext E40
  have f40_A_b4 : Arv Z h40 b4 k4 .char (1 : Int32) [(.int (nar .char c0))] (.int (0 : Int32)) := f37_A_b4.ext E40
  have f40_F_value_b1 : Fld Z h40 b1 "java/lang/String" "value" "[B" (.ref b_10) := f37_F_value_b1.ext E40
  have f40_F_coder_b1 : Fld Z h40 b1 "java/lang/String" "coder" "B" (.int (0 : Int32)) := f37_F_coder_b1.ext E40
  have f40_A_b_10 : Arv Z h40 b_10 kb_10 .byte (1 : Int32) [(.int (nar .byte ((nar .char c0).toInt8.toInt32)))] (.int (0 : Int32)) := f37_A_b_10.ext E40
  have f40_E_b13 : Exa Z h40 b13 "java/lang/String" := f37_E_b13.ext E40
  have f40_A_b16 : Arv Z h40 b16 k16 .char (1 : Int32) [(.int (nar .char c1))] (.int (0 : Int32)) := f37_A_b16.ext E40
  have f40_F_value_b13 : Fld Z h40 b13 "java/lang/String" "value" "[B" (.ref b_22) := f37_F_value_b13.ext E40
  have f40_F_coder_b13 : Fld Z h40 b13 "java/lang/String" "coder" "B" (.int (0 : Int32)) := f37_F_coder_b13.ext E40
  have f40_A_b_22 : Arv Z h40 b_22 kb_22 .byte (1 : Int32) [(.int (nar .byte ((nar .char c1).toInt8.toInt32)))] (.int (0 : Int32)) := f37_A_b_22.ext E40
  have f40_E_b25 : Exa Z h40 b25 "java/lang/String" := f37_E_b25.ext E40
  have f40_A_b28 : Arv Z h40 b28 k28 .char (1 : Int32) [(.int (nar .char c2))] (.int (0 : Int32)) := f37_A_b28.ext E40
  have f40_F_value_b25 : Fld Z h40 b25 "java/lang/String" "value" "[B" (.ref b_34) := f37_F_value_b25.ext E40
  have f40_F_coder_b25 : Fld Z h40 b25 "java/lang/String" "coder" "B" (.int (0 : Int32)) := f37_F_coder_b25.ext E40
  have f40_A_b_34 : Arv Z h40 b_34 kb_34 .byte (1 : Int32) [(.int (nar .byte ((nar .char c2).toInt8.toInt32)))] (.int (0 : Int32)) := f37_A_b_34.ext E40
  have f40_E_b37 : Exa Z h40 b37 "java/lang/String" := A37.ext E40
  have f40_F_coder_b37 : Fld Z h40 b37 "java/lang/String" "coder" "B" (.int (0 : Int32)) := d37_coder.ext E40
  have f40_F_value_b37 : Fld Z h40 b37 "java/lang/String" "value" "[B" .null := d37_value.ext E40
  have z40 : n0 ≤ h40.size := Nat.le_trans z37 E40.1
  have K40 : Keep h0 h40 [] := K37.ext E40
  have v40 : Arv Z h40 b40 k40 .char (1 : Int32) [(.int (0 : Int32))] (.int (0 : Int32)) := (Arv.new A40 (by decide)).pad (pad_rep [] (.int (0 : Int32)) 1)
  have R41 : ∀ t, Steps p.tables e below (T40.setTop (mkF m 74 #[iv p0, iv p1, rv b1, rv b13, rv b25, .unset, .unset, .unset, .unset, .unset, .unset, .unset] [(.ref b40), (.ref b37), (.ref b37)])) t → Steps p.tables e below (s₁.setTop f0) t := fun t k => R39 t (st40 t k)
  have R42 : ∀ t, Steps p.tables e below (T40.setTop (mkF m 85 #[iv p0, iv p1, rv b1, rv b13, rv b25, .unset, .unset, .unset, .unset, .unset, .unset, .unset] [(.int ((((p0.toUInt32 >>> ((24 : Int32) &&& 31).toUInt32).toInt32) &&& (255 : Int32)).toUInt32.toUInt16.toUInt32.toInt32)), (.int (0 : Int32)), (.ref b40), (.ref b40), (.ref b37), (.ref b37)])) t → Steps p.tables e below (s₁.setTop f0) t := fun t k => R41 t (by
    show Steps p.tables e below (T40.setTop (mkF m 74 #[iv p0, iv p1, rv b1, rv b13, rv b25, .unset, .unset, .unset, .unset, .unset, .unset, .unset] [(.ref b40), (.ref b37), (.ref b37)])) _
    refine XS.dup X40.here hx rfl (hb hby at_74) rfl rfl ?_
    show Steps p.tables e below (T40.setTop (mkF m 75 #[iv p0, iv p1, rv b1, rv b13, rv b25, .unset, .unset, .unset, .unset, .unset, .unset, .unset] [(.ref b40), (.ref b40), (.ref b37), (.ref b37)])) _
    refine XS.iconst X40.here hx rfl (hb hby at_75) ?_
    show Steps p.tables e below (T40.setTop (mkF m 76 #[iv p0, iv p1, rv b1, rv b13, rv b25, .unset, .unset, .unset, .unset, .unset, .unset, .unset] [(.int (0 : Int32)), (.ref b40), (.ref b40), (.ref b37), (.ref b37)])) _
    refine XS.iloadN X40.here hx rfl (hb hby at_76) rfl  ?_
    show Steps p.tables e below (T40.setTop (mkF m 77 #[iv p0, iv p1, rv b1, rv b13, rv b25, .unset, .unset, .unset, .unset, .unset, .unset, .unset] [(.int p0), (.int (0 : Int32)), (.ref b40), (.ref b40), (.ref b37), (.ref b37)])) _
    refine XS.bipush X40.here hx rfl (hb hby at_77) ?_
    show Steps p.tables e below (T40.setTop (mkF m 79 #[iv p0, iv p1, rv b1, rv b13, rv b25, .unset, .unset, .unset, .unset, .unset, .unset, .unset] [(.int (24 : Int32)), (.int p0), (.int (0 : Int32)), (.ref b40), (.ref b40), (.ref b37), (.ref b37)])) _
    refine XS.iushr X40.here hx rfl (hb hby at_79) rfl ?_
    show Steps p.tables e below (T40.setTop (mkF m 80 #[iv p0, iv p1, rv b1, rv b13, rv b25, .unset, .unset, .unset, .unset, .unset, .unset, .unset] [(.int ((p0.toUInt32 >>> ((24 : Int32) &&& 31).toUInt32).toInt32)), (.int (0 : Int32)), (.ref b40), (.ref b40), (.ref b37), (.ref b37)])) _
    refine XS.sipush X40.here hx rfl (hb hby at_80) ?_
    show Steps p.tables e below (T40.setTop (mkF m 83 #[iv p0, iv p1, rv b1, rv b13, rv b25, .unset, .unset, .unset, .unset, .unset, .unset, .unset] [(.int (255 : Int32)), (.int ((p0.toUInt32 >>> ((24 : Int32) &&& 31).toUInt32).toInt32)), (.int (0 : Int32)), (.ref b40), (.ref b40), (.ref b37), (.ref b37)])) _
    refine XS.iand X40.here hx rfl (hb hby at_83) rfl ?_
    show Steps p.tables e below (T40.setTop (mkF m 84 #[iv p0, iv p1, rv b1, rv b13, rv b25, .unset, .unset, .unset, .unset, .unset, .unset, .unset] [(.int (((p0.toUInt32 >>> ((24 : Int32) &&& 31).toUInt32).toInt32) &&& (255 : Int32))), (.int (0 : Int32)), (.ref b40), (.ref b40), (.ref b37), (.ref b37)])) _
    refine XS.i2c X40.here hx rfl (hb hby at_84) rfl ?_
    exact k)
  obtain ⟨c3, e_c3⟩ : ∃ z : Int32, z = ((((p0.toUInt32 >>> ((24 : Int32) &&& 31).toUInt32).toInt32) &&& (255 : Int32)).toUInt32.toUInt16.toUInt32.toInt32) := ⟨_, rfl⟩
  have R43 : ∀ t, Steps p.tables e below (T40.setTop (mkF m 85 #[iv p0, iv p1, rv b1, rv b13, rv b25, .unset, .unset, .unset, .unset, .unset, .unset, .unset] [(.int c3), (.int (0 : Int32)), (.ref b40), (.ref b40), (.ref b37), (.ref b37)])) t → Steps p.tables e below (s₁.setTop f0) t := by have q := R42; rw [← e_c3] at q; exact q
  obtain ⟨cl44, Ar44, q44, S44, n44_, H44, G44⟩ := id v40
  have hin44 : ¬ ((0 : Int32) < 0 ∨ cl44.slots.size ≤ ((0 : Int32)).toNatClampNeg) := inb_of S44 ⟨by decide, by decide⟩
  obtain ⟨T44, h44, X44, e44, W44, st44⟩ := stC X40 hx hZ e40 Ar44 (j := (0 : Int32)) hin44 (g := (mkF m 85 #[iv p0, iv p1, rv b1, rv b13, rv b25, .unset, .unset, .unset, .unset, .unset, .unset, .unset] [(.int c3), (.int (0 : Int32)), (.ref b40), (.ref b40), (.ref b37), (.ref b37)])) rfl rfl (hb hby at_85)
  have f44_S_String_COMPACT_STRINGS : Sta Z h44 "java/lang/String" "COMPACT_STRINGS" "Z" (.int cs) := f40_S_String_COMPACT_STRINGS.wr W44
  have f44_S_ArrayList_DEFAULTCAPACITY_EMPTY_ELEMENTDATA : Sta Z h44 "java/util/ArrayList" sN4 "[Ljava/lang/Object;" (.ref dc) := f40_S_ArrayList_DEFAULTCAPACITY_EMPTY_ELEMENTDATA.wr W44
  have f44_A_dc : Arv Z h44 dc kdc (.object "java/lang/Object") (0 : Int32) [] .null := f40_A_dc.other W44 ne_dc_b40
  have f44_S_ImmutableCollections_EMPTY : Sta Z h44 sN1 "EMPTY" "Ljava/lang/Object;" (.ref em) := f40_S_ImmutableCollections_EMPTY.wr W44
  have f44_S_ImmutableCollections_EMPTY_LIST : Sta Z h44 sN1 "EMPTY_LIST" sN5 (.ref le) := f40_S_ImmutableCollections_EMPTY_LIST.wr W44
  have f44_E_le : Exa Z h44 le sN0 := f40_E_le.wr W44
  have f44_F_elements_le : Fld Z h44 le sN0 "elements" "[Ljava/lang/Object;" (.ref ea) := f40_F_elements_le.other W44 (Or.inl ne_le_b40)
  have f44_A_ea : Arv Z h44 ea kea (.object "java/lang/Object") (0 : Int32) [] .null := f40_A_ea.other W44 ne_ea_b40
  have f44_E_b1 : Exa Z h44 b1 "java/lang/String" := f40_E_b1.wr W44
  have f44_A_b4 : Arv Z h44 b4 k4 .char (1 : Int32) [(.int (nar .char c0))] (.int (0 : Int32)) := f40_A_b4.other W44 ne_b4_b40
  have f44_F_value_b1 : Fld Z h44 b1 "java/lang/String" "value" "[B" (.ref b_10) := f40_F_value_b1.other W44 (Or.inl ne_b1_b40)
  have f44_F_coder_b1 : Fld Z h44 b1 "java/lang/String" "coder" "B" (.int (0 : Int32)) := f40_F_coder_b1.other W44 (Or.inl ne_b1_b40)
  have f44_A_b_10 : Arv Z h44 b_10 kb_10 .byte (1 : Int32) [(.int (nar .byte ((nar .char c0).toInt8.toInt32)))] (.int (0 : Int32)) := f40_A_b_10.other W44 ne_b_10_b40
  have f44_E_b13 : Exa Z h44 b13 "java/lang/String" := f40_E_b13.wr W44
  have f44_A_b16 : Arv Z h44 b16 k16 .char (1 : Int32) [(.int (nar .char c1))] (.int (0 : Int32)) := f40_A_b16.other W44 ne_b16_b40
  have f44_F_value_b13 : Fld Z h44 b13 "java/lang/String" "value" "[B" (.ref b_22) := f40_F_value_b13.other W44 (Or.inl ne_b13_b40)
  have f44_F_coder_b13 : Fld Z h44 b13 "java/lang/String" "coder" "B" (.int (0 : Int32)) := f40_F_coder_b13.other W44 (Or.inl ne_b13_b40)
  have f44_A_b_22 : Arv Z h44 b_22 kb_22 .byte (1 : Int32) [(.int (nar .byte ((nar .char c1).toInt8.toInt32)))] (.int (0 : Int32)) := f40_A_b_22.other W44 ne_b_22_b40
  have f44_E_b25 : Exa Z h44 b25 "java/lang/String" := f40_E_b25.wr W44
  have f44_A_b28 : Arv Z h44 b28 k28 .char (1 : Int32) [(.int (nar .char c2))] (.int (0 : Int32)) := f40_A_b28.other W44 ne_b28_b40
  have f44_F_value_b25 : Fld Z h44 b25 "java/lang/String" "value" "[B" (.ref b_34) := f40_F_value_b25.other W44 (Or.inl ne_b25_b40)
  have f44_F_coder_b25 : Fld Z h44 b25 "java/lang/String" "coder" "B" (.int (0 : Int32)) := f40_F_coder_b25.other W44 (Or.inl ne_b25_b40)
  have f44_A_b_34 : Arv Z h44 b_34 kb_34 .byte (1 : Int32) [(.int (nar .byte ((nar .char c2).toInt8.toInt32)))] (.int (0 : Int32)) := f40_A_b_34.other W44 ne_b_34_b40
  have f44_E_b37 : Exa Z h44 b37 "java/lang/String" := f40_E_b37.wr W44
  have f44_F_coder_b37 : Fld Z h44 b37 "java/lang/String" "coder" "B" (.int (0 : Int32)) := f40_F_coder_b37.other W44 (Or.inl ne_b37_b40)
  have f44_F_value_b37 : Fld Z h44 b37 "java/lang/String" "value" "[B" .null := f40_F_value_b37.other W44 (Or.inl ne_b37_b40)
  have z44 : n0 ≤ h44.size := by rw [W44.size]; exact z40
  have K44 : Keep h0 h44 [] := K40.wr W44 (Or.inr sz_b40)
  have v44 : Arv Z h44 b40 k40 .char (1 : Int32) [(.int (nar .char c3))] (.int (0 : Int32)) := Arv.set Ar44 q44 S44 n44_ H44 G44 (fits_nar_char _) W44 0 rfl (Nat.le_of_ble_eq_true rfl)
  have N44 := Fr.snoc X44 N34 g_b40
  have R45 : ∀ t, Steps p.tables e below (T44.setTop (mkF m 86 #[iv p0, iv p1, rv b1, rv b13, rv b25, .unset, .unset, .unset, .unset, .unset, .unset, .unset] [(.ref b40), (.ref b37), (.ref b37)])) t → Steps p.tables e below (s₁.setTop f0) t := fun t k => R43 t (st44 t k)
  obtain ⟨_, _, ⟨T46, L46, k46, n46⟩, -, X46, ⟨Lc46, hQ46, l46, y46, z46⟩, st46⟩ := X44.specialBack hx (y := (⟨"java/lang/String", "<init>", "([C)V"⟩ : MethodName)) rfl hown (mvT hZ (hw _ (List.mem_of_getElem? (i := 4) rfl))) (mvT hZ (hw _ (List.mem_of_getElem? (i := 5) rfl))) (mvT hZ (hw _ (List.mem_of_getElem? (i := 6) rfl))) (by decide) (backOf (W := 1) (rmStr1 l Z a0 hw [] b37 b40 .null (.int (0 : Int32)) k40 (nar .char c3) cs h44 n0 z44 f44_E_b37 f44_F_value_b37 f44_F_coder_b37 g_b37 v44 ne_b37_b40 f44_S_String_COMPACT_STRINGS hcs (own_c255 e_c3)) hZ (hw _ (List.mem_of_getElem? (i := 6) rfl)) (hw _ (List.mem_of_getElem? (i := 2) rfl)) (by decide) (by decide)) (g := (mkF m 86 #[iv p0, iv p1, rv b1, rv b13, rv b25, .unset, .unset, .unset, .unset, .unset, .unset, .unset] [(.ref b40), (.ref b37), (.ref b37)])) rfl (by rw [hml]; rfl) (Steps.refl _) (a := b37) (argsL := [(.ref b40)]) (rest := [(.ref b37)]) (lenOf pd_29 rfl) rfl (by show 2 * 0 + _ ≤ _; exact Nat.le_of_eq rfl) (hb hby at_86) (fun _ _ => ⟨rfl, e44, (by decide : 11 + 1 ≤ _), (by decide : 23 + 1 ≤ _)⟩)
  dsimp only [Pt.U, Pt.locs, Pt.cells, Pt.slots] at X46 l46 y46 z46 st46 hQ46
  subst l46 y46 z46
  obtain ⟨b_46, kb_46, rfl, N46q, p46_0, p46_1, p46_2, p46_3, p46_4⟩ := hQ46
  have N46 := Fr.app N44 N46q
  have f46_S_String_COMPACT_STRINGS : Sta Z T46.heap "java/lang/String" "COMPACT_STRINGS" "Z" (.int cs) := own_sta_keep f44_S_String_COMPACT_STRINGS p46_0 (nsS f44_E_b37.nostat ns0)
  have f46_S_ArrayList_DEFAULTCAPACITY_EMPTY_ELEMENTDATA : Sta Z T46.heap "java/util/ArrayList" sN4 "[Ljava/lang/Object;" (.ref dc) := own_sta_keep f44_S_ArrayList_DEFAULTCAPACITY_EMPTY_ELEMENTDATA p46_0 (nsS f44_E_b37.nostat ns0)
  have f46_A_dc : Arv Z T46.heap dc kdc (.object "java/lang/Object") (0 : Int32) [] .null := f44_A_dc.keep p46_0 (ninS ne_dc_b37 nin0)
  have f46_S_ImmutableCollections_EMPTY : Sta Z T46.heap sN1 "EMPTY" "Ljava/lang/Object;" (.ref em) := own_sta_keep f44_S_ImmutableCollections_EMPTY p46_0 (nsS f44_E_b37.nostat ns0)
  have f46_S_ImmutableCollections_EMPTY_LIST : Sta Z T46.heap sN1 "EMPTY_LIST" sN5 (.ref le) := own_sta_keep f44_S_ImmutableCollections_EMPTY_LIST p46_0 (nsS f44_E_b37.nostat ns0)
  have f46_E_le : Exa Z T46.heap le sN0 := f44_E_le.keep p46_0
  have f46_F_elements_le : Fld Z T46.heap le sN0 "elements" "[Ljava/lang/Object;" (.ref ea) := f44_F_elements_le.keep p46_0 (ninS ne_le_b37 nin0)
  have f46_A_ea : Arv Z T46.heap ea kea (.object "java/lang/Object") (0 : Int32) [] .null := f44_A_ea.keep p46_0 (ninS ne_ea_b37 nin0)
  have f46_E_b1 : Exa Z T46.heap b1 "java/lang/String" := f44_E_b1.keep p46_0
  have f46_A_b4 : Arv Z T46.heap b4 k4 .char (1 : Int32) [(.int (nar .char c0))] (.int (0 : Int32)) := f44_A_b4.keep p46_0 (ninS ne_b4_b37 nin0)
  have f46_F_value_b1 : Fld Z T46.heap b1 "java/lang/String" "value" "[B" (.ref b_10) := f44_F_value_b1.keep p46_0 (ninS ne_b1_b37 nin0)
  have f46_F_coder_b1 : Fld Z T46.heap b1 "java/lang/String" "coder" "B" (.int (0 : Int32)) := f44_F_coder_b1.keep p46_0 (ninS ne_b1_b37 nin0)
  have f46_A_b_10 : Arv Z T46.heap b_10 kb_10 .byte (1 : Int32) [(.int (nar .byte ((nar .char c0).toInt8.toInt32)))] (.int (0 : Int32)) := f44_A_b_10.keep p46_0 (ninS ne_b_10_b37 nin0)
  have f46_E_b13 : Exa Z T46.heap b13 "java/lang/String" := f44_E_b13.keep p46_0
  have f46_A_b16 : Arv Z T46.heap b16 k16 .char (1 : Int32) [(.int (nar .char c1))] (.int (0 : Int32)) := f44_A_b16.keep p46_0 (ninS ne_b16_b37 nin0)
  have f46_F_value_b13 : Fld Z T46.heap b13 "java/lang/String" "value" "[B" (.ref b_22) := f44_F_value_b13.keep p46_0 (ninS ne_b13_b37 nin0)
  have f46_F_coder_b13 : Fld Z T46.heap b13 "java/lang/String" "coder" "B" (.int (0 : Int32)) := f44_F_coder_b13.keep p46_0 (ninS ne_b13_b37 nin0)
  have f46_A_b_22 : Arv Z T46.heap b_22 kb_22 .byte (1 : Int32) [(.int (nar .byte ((nar .char c1).toInt8.toInt32)))] (.int (0 : Int32)) := f44_A_b_22.keep p46_0 (ninS ne_b_22_b37 nin0)
  have f46_E_b25 : Exa Z T46.heap b25 "java/lang/String" := f44_E_b25.keep p46_0
  have f46_A_b28 : Arv Z T46.heap b28 k28 .char (1 : Int32) [(.int (nar .char c2))] (.int (0 : Int32)) := f44_A_b28.keep p46_0 (ninS ne_b28_b37 nin0)
  have f46_F_value_b25 : Fld Z T46.heap b25 "java/lang/String" "value" "[B" (.ref b_34) := f44_F_value_b25.keep p46_0 (ninS ne_b25_b37 nin0)
  have f46_F_coder_b25 : Fld Z T46.heap b25 "java/lang/String" "coder" "B" (.int (0 : Int32)) := f44_F_coder_b25.keep p46_0 (ninS ne_b25_b37 nin0)
  have f46_A_b_34 : Arv Z T46.heap b_34 kb_34 .byte (1 : Int32) [(.int (nar .byte ((nar .char c2).toInt8.toInt32)))] (.int (0 : Int32)) := f44_A_b_34.keep p46_0 (ninS ne_b_34_b37 nin0)
  have f46_E_b37 : Exa Z T46.heap b37 "java/lang/String" := f44_E_b37.keep p46_0
  have f46_A_b40 : Arv Z T46.heap b40 k40 .char (1 : Int32) [(.int (nar .char c3))] (.int (0 : Int32)) := v44.keep p46_0 (ninS (Ne.symm ne_b37_b40) nin0)
  have z46 : n0 ≤ T46.heap.size := Nat.le_trans z44 p46_0.1
  have K46 : Keep h0 T46.heap [] := K44.trans p46_0 (allS (Or.inr sz_b37) all0)
  have g_b_46 : n0 ≤ b_46 := Nat.le_trans z44 p46_4
  have sz_b_46 : h0.size ≤ b_46 := Nat.le_trans K44.1 p46_4
  have ne_dc_b_46 : dc ≠ b_46 := Nat.ne_of_lt (Nat.lt_of_lt_of_le f44_A_dc.lt p46_4)
  have ne_le_b_46 : le ≠ b_46 := Nat.ne_of_lt (Nat.lt_of_lt_of_le f44_E_le.lt p46_4)
  have ne_ea_b_46 : ea ≠ b_46 := Nat.ne_of_lt (Nat.lt_of_lt_of_le f44_A_ea.lt p46_4)
  have ne_b1_b_46 : b1 ≠ b_46 := Nat.ne_of_lt (Nat.lt_of_lt_of_le f44_E_b1.lt p46_4)
  have ne_b4_b_46 : b4 ≠ b_46 := Nat.ne_of_lt (Nat.lt_of_lt_of_le f44_A_b4.lt p46_4)
  have ne_b_10_b_46 : b_10 ≠ b_46 := Nat.ne_of_lt (Nat.lt_of_lt_of_le f44_A_b_10.lt p46_4)
  have ne_b13_b_46 : b13 ≠ b_46 := Nat.ne_of_lt (Nat.lt_of_lt_of_le f44_E_b13.lt p46_4)
  have ne_b16_b_46 : b16 ≠ b_46 := Nat.ne_of_lt (Nat.lt_of_lt_of_le f44_A_b16.lt p46_4)
  have ne_b_22_b_46 : b_22 ≠ b_46 := Nat.ne_of_lt (Nat.lt_of_lt_of_le f44_A_b_22.lt p46_4)
  have ne_b25_b_46 : b25 ≠ b_46 := Nat.ne_of_lt (Nat.lt_of_lt_of_le f44_E_b25.lt p46_4)
  have ne_b28_b_46 : b28 ≠ b_46 := Nat.ne_of_lt (Nat.lt_of_lt_of_le f44_A_b28.lt p46_4)
  have ne_b_34_b_46 : b_34 ≠ b_46 := Nat.ne_of_lt (Nat.lt_of_lt_of_le f44_A_b_34.lt p46_4)
  have ne_b37_b_46 : b37 ≠ b_46 := Nat.ne_of_lt (Nat.lt_of_lt_of_le f44_E_b37.lt p46_4)
  have ne_b40_b_46 : b40 ≠ b_46 := Nat.ne_of_lt (Nat.lt_of_lt_of_le v44.lt p46_4)
  have R47 : ∀ t, Steps p.tables e below (T46.setTop (mkF m 89 #[iv p0, iv p1, rv b1, rv b13, rv b25, .unset, .unset, .unset, .unset, .unset, .unset, .unset] [(.ref b37)])) t → Steps p.tables e below (s₁.setTop f0) t := fun t k => R45 t (st46.trans k)
  have R48 : ∀ t, Steps p.tables e below (T46.setTop (mkF m 91 #[iv p0, iv p1, rv b1, rv b13, rv b25, rv b37, .unset, .unset, .unset, .unset, .unset, .unset] [])) t → Steps p.tables e below (s₁.setTop f0) t := fun t k => R47 t (by
    show Steps p.tables e below (T46.setTop (mkF m 89 #[iv p0, iv p1, rv b1, rv b13, rv b25, .unset, .unset, .unset, .unset, .unset, .unset, .unset] [(.ref b37)])) _
    refine XS.astore X46.here hx rfl (hb hby at_89) rfl rfl (l' := #[iv p0, iv p1, rv b1, rv b13, rv b25, rv b37, .unset, .unset, .unset, .unset, .unset, .unset]) rfl ?_
    exact k)
  obtain ⟨T49, h49, X49, e49, E49, A49, D49, -, st49⟩ := newO X46 hx hZ hown (hw _ (List.mem_of_getElem? (i := 30) rfl)) (hw _ (List.mem_of_getElem? (i := 31) rfl)) (hw _ (List.mem_of_getElem? (i := 32) rfl)) rfl (g := (mkF m 91 #[iv p0, iv p1, rv b1, rv b13, rv b25, rv b37, .unset, .unset, .unset, .unset, .unset, .unset] [])) rfl (hb hby at_91) (by decide) (by decide)
  obtain ⟨b49, g49⟩ : ∃ z, z = T46.heap.size := ⟨_, rfl⟩
  rw [← g49] at A49 D49 st49
  have g_b49 : n0 ≤ b49 := Nat.le_trans z46 (Nat.le_of_eq g49.symm)
  have sz_b49 : h0.size ≤ b49 := Nat.le_trans K46.1 (Nat.le_of_eq g49.symm)
  have ne_dc_b49 : dc ≠ b49 := Nat.ne_of_lt (Nat.lt_of_lt_of_le f46_A_dc.lt (Nat.le_of_eq g49.symm))
  have ne_le_b49 : le ≠ b49 := Nat.ne_of_lt (Nat.lt_of_lt_of_le f46_E_le.lt (Nat.le_of_eq g49.symm))
  have ne_ea_b49 : ea ≠ b49 := Nat.ne_of_lt (Nat.lt_of_lt_of_le f46_A_ea.lt (Nat.le_of_eq g49.symm))
  have ne_b1_b49 : b1 ≠ b49 := Nat.ne_of_lt (Nat.lt_of_lt_of_le f46_E_b1.lt (Nat.le_of_eq g49.symm))
  have ne_b13_b49 : b13 ≠ b49 := Nat.ne_of_lt (Nat.lt_of_lt_of_le f46_E_b13.lt (Nat.le_of_eq g49.symm))
  have ne_b25_b49 : b25 ≠ b49 := Nat.ne_of_lt (Nat.lt_of_lt_of_le f46_E_b25.lt (Nat.le_of_eq g49.symm))
  have ne_b37_b49 : b37 ≠ b49 := Nat.ne_of_lt (Nat.lt_of_lt_of_le f46_E_b37.lt (Nat.le_of_eq g49.symm))
  have f49_S_String_COMPACT_STRINGS : Sta Z h49 "java/lang/String" "COMPACT_STRINGS" "Z" (.int cs) := f46_S_String_COMPACT_STRINGS.ext E49
  have f49_S_ArrayList_DEFAULTCAPACITY_EMPTY_ELEMENTDATA : Sta Z h49 "java/util/ArrayList" sN4 "[Ljava/lang/Object;" (.ref dc) := f46_S_ArrayList_DEFAULTCAPACITY_EMPTY_ELEMENTDATA.ext E49
  have f49_A_dc : Arv Z h49 dc kdc (.object "java/lang/Object") (0 : Int32) [] .null := f46_A_dc.ext E49
  have f49_S_ImmutableCollections_EMPTY : Sta Z h49 sN1 "EMPTY" "Ljava/lang/Object;" (.ref em) := f46_S_ImmutableCollections_EMPTY.ext E49
  have f49_S_ImmutableCollections_EMPTY_LIST : Sta Z h49 sN1 "EMPTY_LIST" sN5 (.ref le) := f46_S_ImmutableCollections_EMPTY_LIST.ext E49
  have f49_E_le : Exa Z h49 le sN0 := f46_E_le.ext E49
  have f49_F_elements_le : Fld Z h49 le sN0 "elements" "[Ljava/lang/Object;" (.ref ea) := f46_F_elements_le.ext E49
  have f49_A_ea : Arv Z h49 ea kea (.object "java/lang/Object") (0 : Int32) [] .null := f46_A_ea.ext E49
  have f49_E_b1 : Exa Z h49 b1 "java/lang/String" := f46_E_b1.ext E49
  have f49_E_b13 : Exa Z h49 b13 "java/lang/String" := f46_E_b13.ext E49
  have f49_E_b25 : Exa Z h49 b25 "java/lang/String" := f46_E_b25.ext E49
  have f49_E_b37 : Exa Z h49 b37 "java/lang/String" := f46_E_b37.ext E49
  have z49 : n0 ≤ h49.size := Nat.le_trans z46 E49.1
  have K49 : Keep h0 h49 [] := K46.ext E49
  have d49_modCount : Fld Z h49 b49 "java/util/AbstractList" "modCount" "I" (.int (0 : Int32)) := D49 (Or.inl (hw _ (List.mem_of_getElem? (i := 50) rfl))) (ty := .int) (by decide)
  have d49_elementData : Fld Z h49 b49 "java/util/ArrayList" "elementData" "[Ljava/lang/Object;" .null := D49 (Or.inl (hw _ (List.mem_of_getElem? (i := 53) rfl))) (ty := (.array (.object "java/lang/Object"))) (by decide)
  have d49_size : Fld Z h49 b49 "java/util/ArrayList" "size" "I" (.int (0 : Int32)) := D49 (Or.inl (hw _ (List.mem_of_getElem? (i := 62) rfl))) (ty := .int) (by decide)
  have R50 : ∀ t, Steps p.tables e below (T49.setTop (mkF m 94 #[iv p0, iv p1, rv b1, rv b13, rv b25, rv b37, .unset, .unset, .unset, .unset, .unset, .unset] [(.ref b49)])) t → Steps p.tables e below (s₁.setTop f0) t := fun t k => R48 t (st49 t k)
  have R51 : ∀ t, Steps p.tables e below (T49.setTop (mkF m 95 #[iv p0, iv p1, rv b1, rv b13, rv b25, rv b37, .unset, .unset, .unset, .unset, .unset, .unset] [(.ref b49), (.ref b49)])) t → Steps p.tables e below (s₁.setTop f0) t := fun t k => R50 t (by
    show Steps p.tables e below (T49.setTop (mkF m 94 #[iv p0, iv p1, rv b1, rv b13, rv b25, rv b37, .unset, .unset, .unset, .unset, .unset, .unset] [(.ref b49)])) _
    refine XS.dup X49.here hx rfl (hb hby at_94) rfl rfl ?_
    exact k)
  obtain ⟨_, _, ⟨T52, L52, k52, n52⟩, -, X52, ⟨Lc52, hQ52, l52, y52, z52⟩, st52⟩ := X49.specialBack hx (y := (⟨"java/util/ArrayList", "<init>", "()V"⟩ : MethodName)) rfl hown (mvT hZ (hw _ (List.mem_of_getElem? (i := 33) rfl))) (mvT hZ (hw _ (List.mem_of_getElem? (i := 34) rfl))) (mvT hZ (hw _ (List.mem_of_getElem? (i := 35) rfl))) (by decide) (backOf (W := 1) (rmAri l Z a0 hw [] b49 (.int (0 : Int32)) .null (.int (0 : Int32)) dc h49 n0 z49 A49 d49_modCount d49_elementData d49_size g_b49 f49_S_ArrayList_DEFAULTCAPACITY_EMPTY_ELEMENTDATA) hZ (hw _ (List.mem_of_getElem? (i := 35) rfl)) (hw _ (List.mem_of_getElem? (i := 32) rfl)) (by decide) (by decide)) (g := (mkF m 95 #[iv p0, iv p1, rv b1, rv b13, rv b25, rv b37, .unset, .unset, .unset, .unset, .unset, .unset] [(.ref b49), (.ref b49)])) rfl (by rw [hml]; rfl) (Steps.refl _) (a := b49) (argsL := []) (rest := [(.ref b49)]) (lenOf pd_8 rfl) rfl (by show 2 * 0 + _ ≤ _; exact Nat.le_of_eq rfl) (hb hby at_95) (fun _ _ => ⟨rfl, e49, (by decide : 13 + 0 ≤ _), (by decide : 27 + 0 ≤ _)⟩)
  dsimp only [Pt.U, Pt.locs, Pt.cells, Pt.slots] at X52 l52 y52 z52 st52 hQ52
  subst l52 y52 z52
  obtain ⟨rfl, N52q, p52_0, p52_1, p52_2, p52_3⟩ := hQ52
  have N52 := Fr.app N46 N52q
  have f52_S_String_COMPACT_STRINGS : Sta Z T52.heap "java/lang/String" "COMPACT_STRINGS" "Z" (.int cs) := own_sta_keep f49_S_String_COMPACT_STRINGS p52_0 (nsS A49.nostat ns0)
  have f52_S_ArrayList_DEFAULTCAPACITY_EMPTY_ELEMENTDATA : Sta Z T52.heap "java/util/ArrayList" sN4 "[Ljava/lang/Object;" (.ref dc) := own_sta_keep f49_S_ArrayList_DEFAULTCAPACITY_EMPTY_ELEMENTDATA p52_0 (nsS A49.nostat ns0)
  have f52_A_dc : Arv Z T52.heap dc kdc (.object "java/lang/Object") (0 : Int32) [] .null := f49_A_dc.keep p52_0 (ninS ne_dc_b49 nin0)
  have f52_S_ImmutableCollections_EMPTY : Sta Z T52.heap sN1 "EMPTY" "Ljava/lang/Object;" (.ref em) := own_sta_keep f49_S_ImmutableCollections_EMPTY p52_0 (nsS A49.nostat ns0)
  have f52_S_ImmutableCollections_EMPTY_LIST : Sta Z T52.heap sN1 "EMPTY_LIST" sN5 (.ref le) := own_sta_keep f49_S_ImmutableCollections_EMPTY_LIST p52_0 (nsS A49.nostat ns0)
  have f52_E_le : Exa Z T52.heap le sN0 := f49_E_le.keep p52_0
  have f52_F_elements_le : Fld Z T52.heap le sN0 "elements" "[Ljava/lang/Object;" (.ref ea) := f49_F_elements_le.keep p52_0 (ninS ne_le_b49 nin0)
  have f52_A_ea : Arv Z T52.heap ea kea (.object "java/lang/Object") (0 : Int32) [] .null := f49_A_ea.keep p52_0 (ninS ne_ea_b49 nin0)
  have f52_E_b1 : Exa Z T52.heap b1 "java/lang/String" := f49_E_b1.keep p52_0
  have f52_E_b13 : Exa Z T52.heap b13 "java/lang/String" := f49_E_b13.keep p52_0
  have f52_E_b25 : Exa Z T52.heap b25 "java/lang/String" := f49_E_b25.keep p52_0
  have f52_E_b37 : Exa Z T52.heap b37 "java/lang/String" := f49_E_b37.keep p52_0
  have f52_E_b49 : Exa Z T52.heap b49 "java/util/ArrayList" := A49.keep p52_0
  have z52 : n0 ≤ T52.heap.size := Nat.le_trans z49 p52_0.1
  have K52 : Keep h0 T52.heap [] := K49.trans p52_0 (allS (Or.inr sz_b49) all0)
  have R53 : ∀ t, Steps p.tables e below (T52.setTop (mkF m 98 #[iv p0, iv p1, rv b1, rv b13, rv b25, rv b37, .unset, .unset, .unset, .unset, .unset, .unset] [(.ref b49)])) t → Steps p.tables e below (s₁.setTop f0) t := fun t k => R51 t (st52.trans k)
  have R54 : ∀ t, Steps p.tables e below (T52.setTop (mkF m 103 #[iv p0, iv p1, rv b1, rv b13, rv b25, rv b37, rv b49, .unset, .unset, .unset, .unset, .unset] [(.ref b1), (.ref b49)])) t → Steps p.tables e below (s₁.setTop f0) t := fun t k => R53 t (by
    show Steps p.tables e below (T52.setTop (mkF m 98 #[iv p0, iv p1, rv b1, rv b13, rv b25, rv b37, .unset, .unset, .unset, .unset, .unset, .unset] [(.ref b49)])) _
    refine XS.astore X52.here hx rfl (hb hby at_98) rfl rfl (l' := #[iv p0, iv p1, rv b1, rv b13, rv b25, rv b37, rv b49, .unset, .unset, .unset, .unset, .unset]) rfl ?_
    show Steps p.tables e below (T52.setTop (mkF m 100 #[iv p0, iv p1, rv b1, rv b13, rv b25, rv b37, rv b49, .unset, .unset, .unset, .unset, .unset] [])) _
    refine XS.aload X52.here hx rfl (hb hby at_100) rfl rfl ?_
    show Steps p.tables e below (T52.setTop (mkF m 102 #[iv p0, iv p1, rv b1, rv b13, rv b25, rv b37, rv b49, .unset, .unset, .unset, .unset, .unset] [(.ref b49)])) _
    refine XS.aloadN X52.here hx rfl (hb hby at_102) rfl rfl ?_
    exact k)
  obtain ⟨cq55, kq55, q55a, q55b, q55c⟩ := isOf hZ rfl f52_E_b49
  obtain ⟨_, _, ⟨T55, L55, k55, n55⟩, -, X55, ⟨Lc55, hQ55, l55, y55, z55⟩, st55⟩ := X52.virtualBack hx (y := (⟨"java/util/ArrayList", "add", "(Ljava/lang/Object;)Z"⟩ : MethodName)) (z := (⟨"java/util/ArrayList", "add", "(Ljava/lang/Object;)Z"⟩ : MethodName)) hown (mvT hZ (hw _ (List.mem_of_getElem? (i := 54) rfl))) (mvT hZ (hw _ (List.mem_of_getElem? (i := 55) rfl))) (notFace_of_selects (args := #[]) (mvT hZ (hw _ (List.mem_of_getElem? (i := 57) rfl)))) (mvT hZ (hw _ (List.mem_of_getElem? (i := 57) rfl))) (mvT hZ (hw _ (List.mem_of_getElem? (i := 56) rfl))) (by decide) (backOf (W := 0) (rmAdd0 l Z a0 hw [] b49 (0 : Int32) dc kdc b1 T52.heap n0 z52 f52_E_b49 p52_1 p52_2 p52_3 g_b49 f52_S_ArrayList_DEFAULTCAPACITY_EMPTY_ELEMENTDATA f52_A_dc (Ne.symm ne_dc_b49) f52_E_b1) hZ (hw _ (List.mem_of_getElem? (i := 58) rfl)) (hw _ (List.mem_of_getElem? (i := 32) rfl)) (by decide) (by decide)) q55a q55c (g := (mkF m 103 #[iv p0, iv p1, rv b1, rv b13, rv b25, rv b37, rv b49, .unset, .unset, .unset, .unset, .unset] [(.ref b1), (.ref b49)])) rfl (by rw [hml]; rfl) (Steps.refl _) (argsL := [(.ref b1)]) (rest := []) (lenOf pd_30 rfl) rfl (by show 2 * 0 + _ ≤ _; exact Nat.le_of_eq rfl) (hb hby at_103) (fun _ _ => ⟨rfl, rfl, (by decide : 13 + 1 ≤ _), (by decide : 27 + 10 ≤ _)⟩)
  dsimp only [Pt.U, Pt.locs, Pt.cells, Pt.slots] at X55 l55 y55 z55 st55 hQ55
  subst l55 y55 z55
  obtain ⟨b_55, kb_55, rfl, N55q, p55_0, p55_1, p55_2, p55_3, p55_4, p55_5, p55_6⟩ := hQ55
  have N55 := Fr.app N52 N55q
  have f55_S_String_COMPACT_STRINGS : Sta Z T55.heap "java/lang/String" "COMPACT_STRINGS" "Z" (.int cs) := own_sta_keep f52_S_String_COMPACT_STRINGS p55_0 (nsS f52_E_b49.nostat ns0)
  have f55_S_ArrayList_DEFAULTCAPACITY_EMPTY_ELEMENTDATA : Sta Z T55.heap "java/util/ArrayList" sN4 "[Ljava/lang/Object;" (.ref dc) := own_sta_keep f52_S_ArrayList_DEFAULTCAPACITY_EMPTY_ELEMENTDATA p55_0 (nsS f52_E_b49.nostat ns0)
  have f55_A_dc : Arv Z T55.heap dc kdc (.object "java/lang/Object") (0 : Int32) [] .null := f52_A_dc.keep p55_0 (ninS ne_dc_b49 nin0)
  have f55_S_ImmutableCollections_EMPTY : Sta Z T55.heap sN1 "EMPTY" "Ljava/lang/Object;" (.ref em) := own_sta_keep f52_S_ImmutableCollections_EMPTY p55_0 (nsS f52_E_b49.nostat ns0)
  have f55_S_ImmutableCollections_EMPTY_LIST : Sta Z T55.heap sN1 "EMPTY_LIST" sN5 (.ref le) := own_sta_keep f52_S_ImmutableCollections_EMPTY_LIST p55_0 (nsS f52_E_b49.nostat ns0)
  have f55_E_le : Exa Z T55.heap le sN0 := f52_E_le.keep p55_0
  have f55_F_elements_le : Fld Z T55.heap le sN0 "elements" "[Ljava/lang/Object;" (.ref ea) := f52_F_elements_le.keep p55_0 (ninS ne_le_b49 nin0)
  have f55_A_ea : Arv Z T55.heap ea kea (.object "java/lang/Object") (0 : Int32) [] .null := f52_A_ea.keep p55_0 (ninS ne_ea_b49 nin0)
  have f55_E_b1 : Exa Z T55.heap b1 "java/lang/String" := f52_E_b1.keep p55_0
  have f55_E_b13 : Exa Z T55.heap b13 "java/lang/String" := f52_E_b13.keep p55_0
  have f55_E_b25 : Exa Z T55.heap b25 "java/lang/String" := f52_E_b25.keep p55_0
  have f55_E_b37 : Exa Z T55.heap b37 "java/lang/String" := f52_E_b37.keep p55_0
  have f55_E_b49 : Exa Z T55.heap b49 "java/util/ArrayList" := f52_E_b49.keep p55_0
  have z55 : n0 ≤ T55.heap.size := Nat.le_trans z52 p55_0.1
  have K55 : Keep h0 T55.heap [] := K52.trans p55_0 (allS (Or.inr sz_b49) all0)
  have g_b_55 : n0 ≤ b_55 := Nat.le_trans z52 p55_5
  have sz_b_55 : h0.size ≤ b_55 := Nat.le_trans K52.1 p55_5
  have ne_dc_b_55 : dc ≠ b_55 := Nat.ne_of_lt (Nat.lt_of_lt_of_le f52_A_dc.lt p55_5)
  have ne_le_b_55 : le ≠ b_55 := Nat.ne_of_lt (Nat.lt_of_lt_of_le f52_E_le.lt p55_5)
  have ne_ea_b_55 : ea ≠ b_55 := Nat.ne_of_lt (Nat.lt_of_lt_of_le f52_A_ea.lt p55_5)
  have ne_b1_b_55 : b1 ≠ b_55 := Nat.ne_of_lt (Nat.lt_of_lt_of_le f52_E_b1.lt p55_5)
  have ne_b13_b_55 : b13 ≠ b_55 := Nat.ne_of_lt (Nat.lt_of_lt_of_le f52_E_b13.lt p55_5)
  have ne_b25_b_55 : b25 ≠ b_55 := Nat.ne_of_lt (Nat.lt_of_lt_of_le f52_E_b25.lt p55_5)
  have ne_b37_b_55 : b37 ≠ b_55 := Nat.ne_of_lt (Nat.lt_of_lt_of_le f52_E_b37.lt p55_5)
  have ne_b49_b_55 : b49 ≠ b_55 := Nat.ne_of_lt (Nat.lt_of_lt_of_le f52_E_b49.lt p55_5)
  have R56 : ∀ t, Steps p.tables e below (T55.setTop (mkF m 106 #[iv p0, iv p1, rv b1, rv b13, rv b25, rv b37, rv b49, .unset, .unset, .unset, .unset, .unset] [(.int (1 : Int32))])) t → Steps p.tables e below (s₁.setTop f0) t := fun t k => R54 t (st55.trans k)
  have R57 : ∀ t, Steps p.tables e below (T55.setTop (mkF m 110 #[iv p0, iv p1, rv b1, rv b13, rv b25, rv b37, rv b49, .unset, .unset, .unset, .unset, .unset] [(.ref b13), (.ref b49)])) t → Steps p.tables e below (s₁.setTop f0) t := fun t k => R56 t (by
    show Steps p.tables e below (T55.setTop (mkF m 106 #[iv p0, iv p1, rv b1, rv b13, rv b25, rv b37, rv b49, .unset, .unset, .unset, .unset, .unset] [(.int (1 : Int32))])) _
    refine XS.pop X55.here hx rfl (hb hby at_106) rfl rfl ?_
    show Steps p.tables e below (T55.setTop (mkF m 107 #[iv p0, iv p1, rv b1, rv b13, rv b25, rv b37, rv b49, .unset, .unset, .unset, .unset, .unset] [])) _
    refine XS.aload X55.here hx rfl (hb hby at_107) rfl rfl ?_
    show Steps p.tables e below (T55.setTop (mkF m 109 #[iv p0, iv p1, rv b1, rv b13, rv b25, rv b37, rv b49, .unset, .unset, .unset, .unset, .unset] [(.ref b49)])) _
    refine XS.aloadN X55.here hx rfl (hb hby at_109) rfl rfl ?_
    exact k)
  obtain ⟨cq58, kq58, q58a, q58b, q58c⟩ := isOf hZ rfl f55_E_b49
  obtain ⟨_, _, ⟨T58, L58, k58, n58⟩, -, X58, ⟨Lc58, hQ58, l58, y58, z58⟩, st58⟩ := X55.virtualBack hx (y := (⟨"java/util/ArrayList", "add", "(Ljava/lang/Object;)Z"⟩ : MethodName)) (z := (⟨"java/util/ArrayList", "add", "(Ljava/lang/Object;)Z"⟩ : MethodName)) hown (mvT hZ (hw _ (List.mem_of_getElem? (i := 54) rfl))) (mvT hZ (hw _ (List.mem_of_getElem? (i := 55) rfl))) (notFace_of_selects (args := #[]) (mvT hZ (hw _ (List.mem_of_getElem? (i := 57) rfl)))) (mvT hZ (hw _ (List.mem_of_getElem? (i := 57) rfl))) (mvT hZ (hw _ (List.mem_of_getElem? (i := 56) rfl))) (by decide) (backOf (W := 0) (rmAdd1 l Z a0 hw [] b49 ((0 : Int32) + (1 : Int32)) b_55 kb_55 b13 b1 T55.heap n0 z55 f55_E_b49 p55_1 p55_2 p55_3 g_b49 p55_4 g_b_55 ne_b49_b_55 p55_6 f55_E_b13) hZ (hw _ (List.mem_of_getElem? (i := 58) rfl)) (hw _ (List.mem_of_getElem? (i := 32) rfl)) (by decide) (by decide)) q58a q58c (g := (mkF m 110 #[iv p0, iv p1, rv b1, rv b13, rv b25, rv b37, rv b49, .unset, .unset, .unset, .unset, .unset] [(.ref b13), (.ref b49)])) rfl (by rw [hml]; rfl) (Steps.refl _) (argsL := [(.ref b13)]) (rest := []) (lenOf pd_30 rfl) rfl (by show 2 * 0 + _ ≤ _; exact Nat.le_of_eq rfl) (hb hby at_110) (fun _ _ => ⟨rfl, rfl, (by decide : 14 + 0 ≤ _), (by decide : 37 + 0 ≤ _)⟩)
  dsimp only [Pt.U, Pt.locs, Pt.cells, Pt.slots] at X58 l58 y58 z58 st58 hQ58
  subst l58 y58 z58
  obtain ⟨rfl, N58q, p58_0, p58_1, p58_2, p58_3, p58_4⟩ := hQ58
  have N58 := Fr.app N55 N58q
  have f58_S_String_COMPACT_STRINGS : Sta Z T58.heap "java/lang/String" "COMPACT_STRINGS" "Z" (.int cs) := own_sta_keep f55_S_String_COMPACT_STRINGS p58_0 (nsS f55_E_b49.nostat (nsS p55_4.nostat ns0))
  have f58_S_ArrayList_DEFAULTCAPACITY_EMPTY_ELEMENTDATA : Sta Z T58.heap "java/util/ArrayList" sN4 "[Ljava/lang/Object;" (.ref dc) := own_sta_keep f55_S_ArrayList_DEFAULTCAPACITY_EMPTY_ELEMENTDATA p58_0 (nsS f55_E_b49.nostat (nsS p55_4.nostat ns0))
  have f58_A_dc : Arv Z T58.heap dc kdc (.object "java/lang/Object") (0 : Int32) [] .null := f55_A_dc.keep p58_0 (ninS ne_dc_b49 (ninS ne_dc_b_55 nin0))
  have f58_S_ImmutableCollections_EMPTY : Sta Z T58.heap sN1 "EMPTY" "Ljava/lang/Object;" (.ref em) := own_sta_keep f55_S_ImmutableCollections_EMPTY p58_0 (nsS f55_E_b49.nostat (nsS p55_4.nostat ns0))
  have f58_S_ImmutableCollections_EMPTY_LIST : Sta Z T58.heap sN1 "EMPTY_LIST" sN5 (.ref le) := own_sta_keep f55_S_ImmutableCollections_EMPTY_LIST p58_0 (nsS f55_E_b49.nostat (nsS p55_4.nostat ns0))
  have f58_E_le : Exa Z T58.heap le sN0 := f55_E_le.keep p58_0
  have f58_F_elements_le : Fld Z T58.heap le sN0 "elements" "[Ljava/lang/Object;" (.ref ea) := f55_F_elements_le.keep p58_0 (ninS ne_le_b49 (ninS ne_le_b_55 nin0))
  have f58_A_ea : Arv Z T58.heap ea kea (.object "java/lang/Object") (0 : Int32) [] .null := f55_A_ea.keep p58_0 (ninS ne_ea_b49 (ninS ne_ea_b_55 nin0))
  have f58_E_b1 : Exa Z T58.heap b1 "java/lang/String" := f55_E_b1.keep p58_0
  have f58_E_b13 : Exa Z T58.heap b13 "java/lang/String" := f55_E_b13.keep p58_0
  have f58_E_b25 : Exa Z T58.heap b25 "java/lang/String" := f55_E_b25.keep p58_0
  have f58_E_b37 : Exa Z T58.heap b37 "java/lang/String" := f55_E_b37.keep p58_0
  have f58_E_b49 : Exa Z T58.heap b49 "java/util/ArrayList" := f55_E_b49.keep p58_0
  have z58 : n0 ≤ T58.heap.size := Nat.le_trans z55 p58_0.1
  have K58 : Keep h0 T58.heap [] := K55.trans p58_0 (allS (Or.inr sz_b49) (allS (Or.inr sz_b_55) all0))
  have R59 : ∀ t, Steps p.tables e below (T58.setTop (mkF m 113 #[iv p0, iv p1, rv b1, rv b13, rv b25, rv b37, rv b49, .unset, .unset, .unset, .unset, .unset] [(.int (1 : Int32))])) t → Steps p.tables e below (s₁.setTop f0) t := fun t k => R57 t (st58.trans k)
  have R60 : ∀ t, Steps p.tables e below (T58.setTop (mkF m 118 #[iv p0, iv p1, rv b1, rv b13, rv b25, rv b37, rv b49, .unset, .unset, .unset, .unset, .unset] [(.ref b25), (.ref b49)])) t → Steps p.tables e below (s₁.setTop f0) t := fun t k => R59 t (by
    show Steps p.tables e below (T58.setTop (mkF m 113 #[iv p0, iv p1, rv b1, rv b13, rv b25, rv b37, rv b49, .unset, .unset, .unset, .unset, .unset] [(.int (1 : Int32))])) _
    refine XS.pop X58.here hx rfl (hb hby at_113) rfl rfl ?_
    show Steps p.tables e below (T58.setTop (mkF m 114 #[iv p0, iv p1, rv b1, rv b13, rv b25, rv b37, rv b49, .unset, .unset, .unset, .unset, .unset] [])) _
    refine XS.aload X58.here hx rfl (hb hby at_114) rfl rfl ?_
    show Steps p.tables e below (T58.setTop (mkF m 116 #[iv p0, iv p1, rv b1, rv b13, rv b25, rv b37, rv b49, .unset, .unset, .unset, .unset, .unset] [(.ref b49)])) _
    refine XS.aload X58.here hx rfl (hb hby at_116) rfl rfl ?_
    exact k)
  obtain ⟨cq61, kq61, q61a, q61b, q61c⟩ := isOf hZ rfl f58_E_b49
  obtain ⟨_, _, ⟨T61, L61, k61, n61⟩, -, X61, ⟨Lc61, hQ61, l61, y61, z61⟩, st61⟩ := X58.virtualBack hx (y := (⟨"java/util/ArrayList", "add", "(Ljava/lang/Object;)Z"⟩ : MethodName)) (z := (⟨"java/util/ArrayList", "add", "(Ljava/lang/Object;)Z"⟩ : MethodName)) hown (mvT hZ (hw _ (List.mem_of_getElem? (i := 54) rfl))) (mvT hZ (hw _ (List.mem_of_getElem? (i := 55) rfl))) (notFace_of_selects (args := #[]) (mvT hZ (hw _ (List.mem_of_getElem? (i := 57) rfl)))) (mvT hZ (hw _ (List.mem_of_getElem? (i := 57) rfl))) (mvT hZ (hw _ (List.mem_of_getElem? (i := 56) rfl))) (by decide) (backOf (W := 0) (rmAdd2 l Z a0 hw [] b49 (((0 : Int32) + (1 : Int32)) + (1 : Int32)) b_55 kb_55 b25 b1 b13 T58.heap n0 z58 f58_E_b49 p58_1 p58_2 p58_3 g_b49 p58_4 g_b_55 ne_b49_b_55 p55_6 f58_E_b25) hZ (hw _ (List.mem_of_getElem? (i := 58) rfl)) (hw _ (List.mem_of_getElem? (i := 32) rfl)) (by decide) (by decide)) q61a q61c (g := (mkF m 118 #[iv p0, iv p1, rv b1, rv b13, rv b25, rv b37, rv b49, .unset, .unset, .unset, .unset, .unset] [(.ref b25), (.ref b49)])) rfl (by rw [hml]; rfl) (Steps.refl _) (argsL := [(.ref b25)]) (rest := []) (lenOf pd_30 rfl) rfl (by show 2 * 0 + _ ≤ _; exact Nat.le_of_eq rfl) (hb hby at_118) (fun _ _ => ⟨rfl, rfl, (by decide : 14 + 0 ≤ _), (by decide : 37 + 0 ≤ _)⟩)
  dsimp only [Pt.U, Pt.locs, Pt.cells, Pt.slots] at X61 l61 y61 z61 st61 hQ61
  subst l61 y61 z61
  obtain ⟨rfl, N61q, p61_0, p61_1, p61_2, p61_3, p61_4⟩ := hQ61
  have N61 := Fr.app N58 N61q
  have f61_S_String_COMPACT_STRINGS : Sta Z T61.heap "java/lang/String" "COMPACT_STRINGS" "Z" (.int cs) := own_sta_keep f58_S_String_COMPACT_STRINGS p61_0 (nsS f58_E_b49.nostat (nsS p58_4.nostat ns0))
  have f61_S_ArrayList_DEFAULTCAPACITY_EMPTY_ELEMENTDATA : Sta Z T61.heap "java/util/ArrayList" sN4 "[Ljava/lang/Object;" (.ref dc) := own_sta_keep f58_S_ArrayList_DEFAULTCAPACITY_EMPTY_ELEMENTDATA p61_0 (nsS f58_E_b49.nostat (nsS p58_4.nostat ns0))
  have f61_A_dc : Arv Z T61.heap dc kdc (.object "java/lang/Object") (0 : Int32) [] .null := f58_A_dc.keep p61_0 (ninS ne_dc_b49 (ninS ne_dc_b_55 nin0))
  have f61_S_ImmutableCollections_EMPTY : Sta Z T61.heap sN1 "EMPTY" "Ljava/lang/Object;" (.ref em) := own_sta_keep f58_S_ImmutableCollections_EMPTY p61_0 (nsS f58_E_b49.nostat (nsS p58_4.nostat ns0))
  have f61_S_ImmutableCollections_EMPTY_LIST : Sta Z T61.heap sN1 "EMPTY_LIST" sN5 (.ref le) := own_sta_keep f58_S_ImmutableCollections_EMPTY_LIST p61_0 (nsS f58_E_b49.nostat (nsS p58_4.nostat ns0))
  have f61_E_le : Exa Z T61.heap le sN0 := f58_E_le.keep p61_0
  have f61_F_elements_le : Fld Z T61.heap le sN0 "elements" "[Ljava/lang/Object;" (.ref ea) := f58_F_elements_le.keep p61_0 (ninS ne_le_b49 (ninS ne_le_b_55 nin0))
  have f61_A_ea : Arv Z T61.heap ea kea (.object "java/lang/Object") (0 : Int32) [] .null := f58_A_ea.keep p61_0 (ninS ne_ea_b49 (ninS ne_ea_b_55 nin0))
  have f61_E_b1 : Exa Z T61.heap b1 "java/lang/String" := f58_E_b1.keep p61_0
  have f61_E_b13 : Exa Z T61.heap b13 "java/lang/String" := f58_E_b13.keep p61_0
  have f61_E_b25 : Exa Z T61.heap b25 "java/lang/String" := f58_E_b25.keep p61_0
  have f61_E_b37 : Exa Z T61.heap b37 "java/lang/String" := f58_E_b37.keep p61_0
  have f61_E_b49 : Exa Z T61.heap b49 "java/util/ArrayList" := f58_E_b49.keep p61_0
  have z61 : n0 ≤ T61.heap.size := Nat.le_trans z58 p61_0.1
  have K61 : Keep h0 T61.heap [] := K58.trans p61_0 (allS (Or.inr sz_b49) (allS (Or.inr sz_b_55) all0))
  have R62 : ∀ t, Steps p.tables e below (T61.setTop (mkF m 121 #[iv p0, iv p1, rv b1, rv b13, rv b25, rv b37, rv b49, .unset, .unset, .unset, .unset, .unset] [(.int (1 : Int32))])) t → Steps p.tables e below (s₁.setTop f0) t := fun t k => R60 t (st61.trans k)
  have R63 : ∀ t, Steps p.tables e below (T61.setTop (mkF m 126 #[iv p0, iv p1, rv b1, rv b13, rv b25, rv b37, rv b49, .unset, .unset, .unset, .unset, .unset] [(.ref b37), (.ref b49)])) t → Steps p.tables e below (s₁.setTop f0) t := fun t k => R62 t (by
    show Steps p.tables e below (T61.setTop (mkF m 121 #[iv p0, iv p1, rv b1, rv b13, rv b25, rv b37, rv b49, .unset, .unset, .unset, .unset, .unset] [(.int (1 : Int32))])) _
    refine XS.pop X61.here hx rfl (hb hby at_121) rfl rfl ?_
    show Steps p.tables e below (T61.setTop (mkF m 122 #[iv p0, iv p1, rv b1, rv b13, rv b25, rv b37, rv b49, .unset, .unset, .unset, .unset, .unset] [])) _
    refine XS.aload X61.here hx rfl (hb hby at_122) rfl rfl ?_
    show Steps p.tables e below (T61.setTop (mkF m 124 #[iv p0, iv p1, rv b1, rv b13, rv b25, rv b37, rv b49, .unset, .unset, .unset, .unset, .unset] [(.ref b49)])) _
    refine XS.aload X61.here hx rfl (hb hby at_124) rfl rfl ?_
    exact k)
  obtain ⟨cq64, kq64, q64a, q64b, q64c⟩ := isOf hZ rfl f61_E_b49
  obtain ⟨_, _, ⟨T64, L64, k64, n64⟩, -, X64, ⟨Lc64, hQ64, l64, y64, z64⟩, st64⟩ := X61.virtualBack hx (y := (⟨"java/util/ArrayList", "add", "(Ljava/lang/Object;)Z"⟩ : MethodName)) (z := (⟨"java/util/ArrayList", "add", "(Ljava/lang/Object;)Z"⟩ : MethodName)) hown (mvT hZ (hw _ (List.mem_of_getElem? (i := 54) rfl))) (mvT hZ (hw _ (List.mem_of_getElem? (i := 55) rfl))) (notFace_of_selects (args := #[]) (mvT hZ (hw _ (List.mem_of_getElem? (i := 57) rfl)))) (mvT hZ (hw _ (List.mem_of_getElem? (i := 57) rfl))) (mvT hZ (hw _ (List.mem_of_getElem? (i := 56) rfl))) (by decide) (backOf (W := 0) (rmAdd3 l Z a0 hw [] b49 ((((0 : Int32) + (1 : Int32)) + (1 : Int32)) + (1 : Int32)) b_55 kb_55 b37 b1 b13 b25 T61.heap n0 z61 f61_E_b49 p61_1 p61_2 p61_3 g_b49 p61_4 g_b_55 ne_b49_b_55 p55_6 f61_E_b37) hZ (hw _ (List.mem_of_getElem? (i := 58) rfl)) (hw _ (List.mem_of_getElem? (i := 32) rfl)) (by decide) (by decide)) q64a q64c (g := (mkF m 126 #[iv p0, iv p1, rv b1, rv b13, rv b25, rv b37, rv b49, .unset, .unset, .unset, .unset, .unset] [(.ref b37), (.ref b49)])) rfl (by rw [hml]; rfl) (Steps.refl _) (argsL := [(.ref b37)]) (rest := []) (lenOf pd_30 rfl) rfl (by show 2 * 0 + _ ≤ _; exact Nat.le_of_eq rfl) (hb hby at_126) (fun _ _ => ⟨rfl, rfl, (by decide : 14 + 0 ≤ _), (by decide : 37 + 0 ≤ _)⟩)
  dsimp only [Pt.U, Pt.locs, Pt.cells, Pt.slots] at X64 l64 y64 z64 st64 hQ64
  subst l64 y64 z64
  obtain ⟨rfl, N64q, p64_0, p64_1, p64_2, p64_3, p64_4⟩ := hQ64
  have N64 := Fr.app N61 N64q
  have f64_S_String_COMPACT_STRINGS : Sta Z T64.heap "java/lang/String" "COMPACT_STRINGS" "Z" (.int cs) := own_sta_keep f61_S_String_COMPACT_STRINGS p64_0 (nsS f61_E_b49.nostat (nsS p61_4.nostat ns0))
  have f64_S_ArrayList_DEFAULTCAPACITY_EMPTY_ELEMENTDATA : Sta Z T64.heap "java/util/ArrayList" sN4 "[Ljava/lang/Object;" (.ref dc) := own_sta_keep f61_S_ArrayList_DEFAULTCAPACITY_EMPTY_ELEMENTDATA p64_0 (nsS f61_E_b49.nostat (nsS p61_4.nostat ns0))
  have f64_A_dc : Arv Z T64.heap dc kdc (.object "java/lang/Object") (0 : Int32) [] .null := f61_A_dc.keep p64_0 (ninS ne_dc_b49 (ninS ne_dc_b_55 nin0))
  have f64_S_ImmutableCollections_EMPTY : Sta Z T64.heap sN1 "EMPTY" "Ljava/lang/Object;" (.ref em) := own_sta_keep f61_S_ImmutableCollections_EMPTY p64_0 (nsS f61_E_b49.nostat (nsS p61_4.nostat ns0))
  have f64_S_ImmutableCollections_EMPTY_LIST : Sta Z T64.heap sN1 "EMPTY_LIST" sN5 (.ref le) := own_sta_keep f61_S_ImmutableCollections_EMPTY_LIST p64_0 (nsS f61_E_b49.nostat (nsS p61_4.nostat ns0))
  have f64_E_le : Exa Z T64.heap le sN0 := f61_E_le.keep p64_0
  have f64_F_elements_le : Fld Z T64.heap le sN0 "elements" "[Ljava/lang/Object;" (.ref ea) := f61_F_elements_le.keep p64_0 (ninS ne_le_b49 (ninS ne_le_b_55 nin0))
  have f64_A_ea : Arv Z T64.heap ea kea (.object "java/lang/Object") (0 : Int32) [] .null := f61_A_ea.keep p64_0 (ninS ne_ea_b49 (ninS ne_ea_b_55 nin0))
  have f64_E_b1 : Exa Z T64.heap b1 "java/lang/String" := f61_E_b1.keep p64_0
  have f64_E_b13 : Exa Z T64.heap b13 "java/lang/String" := f61_E_b13.keep p64_0
  have f64_E_b25 : Exa Z T64.heap b25 "java/lang/String" := f61_E_b25.keep p64_0
  have f64_E_b37 : Exa Z T64.heap b37 "java/lang/String" := f61_E_b37.keep p64_0
  have f64_E_b49 : Exa Z T64.heap b49 "java/util/ArrayList" := f61_E_b49.keep p64_0
  have z64 : n0 ≤ T64.heap.size := Nat.le_trans z61 p64_0.1
  have K64 : Keep h0 T64.heap [] := K61.trans p64_0 (allS (Or.inr sz_b49) (allS (Or.inr sz_b_55) all0))
  have R65 : ∀ t, Steps p.tables e below (T64.setTop (mkF m 129 #[iv p0, iv p1, rv b1, rv b13, rv b25, rv b37, rv b49, .unset, .unset, .unset, .unset, .unset] [(.int (1 : Int32))])) t → Steps p.tables e below (s₁.setTop f0) t := fun t k => R63 t (st64.trans k)
  have R66 : ∀ t, Steps p.tables e below (T64.setTop (mkF m 136 #[iv p0, iv p1, rv b1, rv b13, rv b25, rv b37, rv b49, .unset, .unset, .unset, .unset, .unset] [(.int ((p1 &&& (2147483647 : Int32)) % (4 : Int32)))])) t → Steps p.tables e below (s₁.setTop f0) t := fun t k => R65 t (by
    show Steps p.tables e below (T64.setTop (mkF m 129 #[iv p0, iv p1, rv b1, rv b13, rv b25, rv b37, rv b49, .unset, .unset, .unset, .unset, .unset] [(.int (1 : Int32))])) _
    refine XS.pop X64.here hx rfl (hb hby at_129) rfl rfl ?_
    show Steps p.tables e below (T64.setTop (mkF m 130 #[iv p0, iv p1, rv b1, rv b13, rv b25, rv b37, rv b49, .unset, .unset, .unset, .unset, .unset] [])) _
    refine XS.iloadN X64.here hx rfl (hb hby at_130) rfl  ?_
    show Steps p.tables e below (T64.setTop (mkF m 131 #[iv p0, iv p1, rv b1, rv b13, rv b25, rv b37, rv b49, .unset, .unset, .unset, .unset, .unset] [(.int p1)])) _
    refine X64.ldcInt hx hown (mvT hZ (hw _ (List.mem_of_getElem? (i := 85) rfl))) (g := (mkF m 131 #[iv p0, iv p1, rv b1, rv b13, rv b25, rv b37, rv b49, .unset, .unset, .unset, .unset, .unset] [(.int p1)])) rfl (hb hby at_131) _ ?_
    show Steps p.tables e below (T64.setTop (mkF m 133 #[iv p0, iv p1, rv b1, rv b13, rv b25, rv b37, rv b49, .unset, .unset, .unset, .unset, .unset] [(.int (2147483647 : Int32)), (.int p1)])) _
    refine XS.iand X64.here hx rfl (hb hby at_133) rfl ?_
    show Steps p.tables e below (T64.setTop (mkF m 134 #[iv p0, iv p1, rv b1, rv b13, rv b25, rv b37, rv b49, .unset, .unset, .unset, .unset, .unset] [(.int (p1 &&& (2147483647 : Int32)))])) _
    refine XS.iconst X64.here hx rfl (hb hby at_134) ?_
    show Steps p.tables e below (T64.setTop (mkF m 135 #[iv p0, iv p1, rv b1, rv b13, rv b25, rv b37, rv b49, .unset, .unset, .unset, .unset, .unset] [(.int (4 : Int32)), (.int (p1 &&& (2147483647 : Int32)))])) _
    refine iremM X64 hx rfl (hb hby at_135) rfl (by decide) ?_
    exact k)
  obtain ⟨pp, e_pp⟩ : ∃ z : Int32, z = ((p1 &&& (2147483647 : Int32)) % (4 : Int32)) := ⟨_, rfl⟩
  have R67 : ∀ t, Steps p.tables e below (T64.setTop (mkF m 136 #[iv p0, iv p1, rv b1, rv b13, rv b25, rv b37, rv b49, .unset, .unset, .unset, .unset, .unset] [(.int pp)])) t → Steps p.tables e below (s₁.setTop f0) t := by have q := R66; rw [← e_pp] at q; exact q
  have R68 : ∀ t, Steps p.tables e below (T64.setTop (mkF m 138 #[iv p0, iv p1, rv b1, rv b13, rv b25, rv b37, rv b49, iv pp, .unset, .unset, .unset, .unset] [])) t → Steps p.tables e below (s₁.setTop f0) t := fun t k => R67 t (by
    show Steps p.tables e below (T64.setTop (mkF m 136 #[iv p0, iv p1, rv b1, rv b13, rv b25, rv b37, rv b49, .unset, .unset, .unset, .unset, .unset] [(.int pp)])) _
    refine XS.istore X64.here hx rfl (hb hby at_136) rfl (l' := #[iv p0, iv p1, rv b1, rv b13, rv b25, rv b37, rv b49, iv pp, .unset, .unset, .unset, .unset]) rfl ?_
    exact k)
  obtain ⟨T69, h69, X69, e69, E69, A69, D69, -, st69⟩ := newO X64 hx hZ hown (hw _ (List.mem_of_getElem? (i := 86) rfl)) (hw _ (List.mem_of_getElem? (i := 87) rfl)) (hw _ (List.mem_of_getElem? (i := 88) rfl)) rfl (g := (mkF m 138 #[iv p0, iv p1, rv b1, rv b13, rv b25, rv b37, rv b49, iv pp, .unset, .unset, .unset, .unset] [])) rfl (hb hby at_138) (by decide) (by decide)
  obtain ⟨b69, g69⟩ : ∃ z, z = T64.heap.size := ⟨_, rfl⟩
  rw [← g69] at A69 D69 st69
  have g_b69 : n0 ≤ b69 := Nat.le_trans z64 (Nat.le_of_eq g69.symm)
  have sz_b69 : h0.size ≤ b69 := Nat.le_trans K64.1 (Nat.le_of_eq g69.symm)
  have ne_dc_b69 : dc ≠ b69 := Nat.ne_of_lt (Nat.lt_of_lt_of_le f64_A_dc.lt (Nat.le_of_eq g69.symm))
  have ne_le_b69 : le ≠ b69 := Nat.ne_of_lt (Nat.lt_of_lt_of_le f64_E_le.lt (Nat.le_of_eq g69.symm))
  have ne_ea_b69 : ea ≠ b69 := Nat.ne_of_lt (Nat.lt_of_lt_of_le f64_A_ea.lt (Nat.le_of_eq g69.symm))
  have ne_b1_b69 : b1 ≠ b69 := Nat.ne_of_lt (Nat.lt_of_lt_of_le f64_E_b1.lt (Nat.le_of_eq g69.symm))
  have ne_b13_b69 : b13 ≠ b69 := Nat.ne_of_lt (Nat.lt_of_lt_of_le f64_E_b13.lt (Nat.le_of_eq g69.symm))
  have ne_b25_b69 : b25 ≠ b69 := Nat.ne_of_lt (Nat.lt_of_lt_of_le f64_E_b25.lt (Nat.le_of_eq g69.symm))
  have ne_b37_b69 : b37 ≠ b69 := Nat.ne_of_lt (Nat.lt_of_lt_of_le f64_E_b37.lt (Nat.le_of_eq g69.symm))
  have ne_b49_b69 : b49 ≠ b69 := Nat.ne_of_lt (Nat.lt_of_lt_of_le f64_E_b49.lt (Nat.le_of_eq g69.symm))
  have ne_b_55_b69 : b_55 ≠ b69 := Nat.ne_of_lt (Nat.lt_of_lt_of_le p64_4.lt (Nat.le_of_eq g69.symm))
  have f69_S_String_COMPACT_STRINGS : Sta Z h69 "java/lang/String" "COMPACT_STRINGS" "Z" (.int cs) := f64_S_String_COMPACT_STRINGS.ext E69
  have f69_S_ArrayList_DEFAULTCAPACITY_EMPTY_ELEMENTDATA : Sta Z h69 "java/util/ArrayList" sN4 "[Ljava/lang/Object;" (.ref dc) := f64_S_ArrayList_DEFAULTCAPACITY_EMPTY_ELEMENTDATA.ext E69
  have f69_A_dc : Arv Z h69 dc kdc (.object "java/lang/Object") (0 : Int32) [] .null := f64_A_dc.ext E69
  have f69_S_ImmutableCollections_EMPTY : Sta Z h69 sN1 "EMPTY" "Ljava/lang/Object;" (.ref em) := f64_S_ImmutableCollections_EMPTY.ext E69
  have f69_S_ImmutableCollections_EMPTY_LIST : Sta Z h69 sN1 "EMPTY_LIST" sN5 (.ref le) := f64_S_ImmutableCollections_EMPTY_LIST.ext E69
  have f69_E_le : Exa Z h69 le sN0 := f64_E_le.ext E69
  have f69_F_elements_le : Fld Z h69 le sN0 "elements" "[Ljava/lang/Object;" (.ref ea) := f64_F_elements_le.ext E69
  have f69_A_ea : Arv Z h69 ea kea (.object "java/lang/Object") (0 : Int32) [] .null := f64_A_ea.ext E69
  have f69_E_b1 : Exa Z h69 b1 "java/lang/String" := f64_E_b1.ext E69
  have f69_E_b13 : Exa Z h69 b13 "java/lang/String" := f64_E_b13.ext E69
  have f69_E_b25 : Exa Z h69 b25 "java/lang/String" := f64_E_b25.ext E69
  have f69_E_b37 : Exa Z h69 b37 "java/lang/String" := f64_E_b37.ext E69
  have f69_E_b49 : Exa Z h69 b49 "java/util/ArrayList" := f64_E_b49.ext E69
  have f69_F_modCount_b49 : Fld Z h69 b49 "java/util/AbstractList" "modCount" "I" (.int (((((0 : Int32) + (1 : Int32)) + (1 : Int32)) + (1 : Int32)) + (1 : Int32))) := p64_1.ext E69
  have f69_F_elementData_b49 : Fld Z h69 b49 "java/util/ArrayList" "elementData" "[Ljava/lang/Object;" (.ref b_55) := p64_2.ext E69
  have f69_F_size_b49 : Fld Z h69 b49 "java/util/ArrayList" "size" "I" (.int (4 : Int32)) := p64_3.ext E69
  have f69_A_b_55 : Arv Z h69 b_55 kb_55 (.object "java/lang/Object") (10 : Int32) [(.ref b1), (.ref b13), (.ref b25), (.ref b37), .null, .null, .null, .null, .null, .null] .null := p64_4.ext E69
  have z69 : n0 ≤ h69.size := Nat.le_trans z64 E69.1
  have K69 : Keep h0 h69 [] := K64.ext E69
  have d69_nodePrefix : Fld Z h69 b69 sN2 "nodePrefix" "Ljava/lang/String;" .null := D69 (Or.inr (hw _ (List.mem_of_getElem? (i := 97) rfl))) (ty := (.object "java/lang/String")) (by decide)
  have R70 : ∀ t, Steps p.tables e below (T69.setTop (mkF m 141 #[iv p0, iv p1, rv b1, rv b13, rv b25, rv b37, rv b49, iv pp, .unset, .unset, .unset, .unset] [(.ref b69)])) t → Steps p.tables e below (s₁.setTop f0) t := fun t k => R68 t (st69 t k)
  have R71 : ∀ t, Steps p.tables e below (T69.setTop (mkF m 142 #[iv p0, iv p1, rv b1, rv b13, rv b25, rv b37, rv b49, iv pp, .unset, .unset, .unset, .unset] [(.ref b69), (.ref b69)])) t → Steps p.tables e below (s₁.setTop f0) t := fun t k => R70 t (by
    show Steps p.tables e below (T69.setTop (mkF m 141 #[iv p0, iv p1, rv b1, rv b13, rv b25, rv b37, rv b49, iv pp, .unset, .unset, .unset, .unset] [(.ref b69)])) _
    refine XS.dup X69.here hx rfl (hb hby at_141) rfl rfl ?_
    exact k)
  obtain ⟨b72, T72, h72, k72, X72, e72, E72, S72, l72, Z72, o72, -, -, st72⟩ := ldcOH (s := s) (vm0 := s.vm) (EL := []) X69 hx hZ hown (hw _ (List.mem_of_getElem? (i := 89) rfl)) (fun a ha => by simp only [Bundle.stringAtoms, List.mem_cons, List.not_mem_nil, or_false] at ha; rcases ha with rfl | rfl | rfl | rfl | rfl | rfl | rfl <;> first | exact (hw _ (List.mem_of_getElem? (i := 2) rfl)) | exact (hw _ (List.mem_of_getElem? (i := 1) rfl)) | exact (hw _ (List.mem_of_getElem? (i := 19) rfl)) | exact (hw _ (List.mem_of_getElem? (i := 29) rfl)) | exact (hw _ (List.mem_of_getElem? (i := 27) rfl)) | exact (hw _ (List.mem_of_getElem? (i := 90) rfl)) | exact (hw _ (List.mem_of_getElem? (i := 91) rfl))) e69 (k0 := h69.size) ((State.WarmedH.refl s).since _) (Nat.le_refl _) EW.nil (fun _ hp => nomatch hp) (g := (mkF m 142 #[iv p0, iv p1, rv b1, rv b13, rv b25, rv b37, rv b49, iv pp, .unset, .unset, .unset, .unset] [(.ref b69), (.ref b69)])) rfl (hb hby at_142) (n := 20) (by decide) (by decide) (by decide) (by decide)
  have f72_S_String_COMPACT_STRINGS : Sta Z h72 "java/lang/String" "COMPACT_STRINGS" "Z" (.int cs) := f69_S_String_COMPACT_STRINGS.ext E72
  have f72_S_ArrayList_DEFAULTCAPACITY_EMPTY_ELEMENTDATA : Sta Z h72 "java/util/ArrayList" sN4 "[Ljava/lang/Object;" (.ref dc) := f69_S_ArrayList_DEFAULTCAPACITY_EMPTY_ELEMENTDATA.ext E72
  have f72_A_dc : Arv Z h72 dc kdc (.object "java/lang/Object") (0 : Int32) [] .null := f69_A_dc.ext E72
  have f72_S_ImmutableCollections_EMPTY : Sta Z h72 sN1 "EMPTY" "Ljava/lang/Object;" (.ref em) := f69_S_ImmutableCollections_EMPTY.ext E72
  have f72_S_ImmutableCollections_EMPTY_LIST : Sta Z h72 sN1 "EMPTY_LIST" sN5 (.ref le) := f69_S_ImmutableCollections_EMPTY_LIST.ext E72
  have f72_E_le : Exa Z h72 le sN0 := f69_E_le.ext E72
  have f72_F_elements_le : Fld Z h72 le sN0 "elements" "[Ljava/lang/Object;" (.ref ea) := f69_F_elements_le.ext E72
  have f72_A_ea : Arv Z h72 ea kea (.object "java/lang/Object") (0 : Int32) [] .null := f69_A_ea.ext E72
  have f72_E_b1 : Exa Z h72 b1 "java/lang/String" := f69_E_b1.ext E72
  have f72_E_b13 : Exa Z h72 b13 "java/lang/String" := f69_E_b13.ext E72
  have f72_E_b25 : Exa Z h72 b25 "java/lang/String" := f69_E_b25.ext E72
  have f72_E_b37 : Exa Z h72 b37 "java/lang/String" := f69_E_b37.ext E72
  have f72_E_b49 : Exa Z h72 b49 "java/util/ArrayList" := f69_E_b49.ext E72
  have f72_F_modCount_b49 : Fld Z h72 b49 "java/util/AbstractList" "modCount" "I" (.int (((((0 : Int32) + (1 : Int32)) + (1 : Int32)) + (1 : Int32)) + (1 : Int32))) := f69_F_modCount_b49.ext E72
  have f72_F_elementData_b49 : Fld Z h72 b49 "java/util/ArrayList" "elementData" "[Ljava/lang/Object;" (.ref b_55) := f69_F_elementData_b49.ext E72
  have f72_F_size_b49 : Fld Z h72 b49 "java/util/ArrayList" "size" "I" (.int (4 : Int32)) := f69_F_size_b49.ext E72
  have f72_A_b_55 : Arv Z h72 b_55 kb_55 (.object "java/lang/Object") (10 : Int32) [(.ref b1), (.ref b13), (.ref b25), (.ref b37), .null, .null, .null, .null, .null, .null] .null := f69_A_b_55.ext E72
  have f72_E_b69 : Exa Z h72 b69 sN2 := A69.ext E72
  have f72_F_nodePrefix_b69 : Fld Z h72 b69 sN2 "nodePrefix" "Ljava/lang/String;" .null := d69_nodePrefix.ext E72
  have z72 : n0 ≤ h72.size := Nat.le_trans z69 E72.1
  have K72 : Keep h0 h72 [] := K69.ext E72
  have hZ := Z72
  have hown := o72
  have R73 : ∀ t, Steps p.tables e below (T72.setTop (mkF m 144 #[iv p0, iv p1, rv b1, rv b13, rv b25, rv b37, rv b49, iv pp, .unset, .unset, .unset, .unset] [(.ref b72), (.ref b69), (.ref b69)])) t → Steps p.tables e below (s₁.setTop f0) t := fun t k => R71 t (st72 t k)
  obtain ⟨_, _, ⟨T74, L74, k74, n74⟩, -, X74, ⟨Lc74, hQ74, l74, y74, z74⟩, st74⟩ := X72.specialBack hx (y := (⟨sN2, "<init>", "(Ljava/lang/String;)V"⟩ : MethodName)) rfl hown (mvT hZ (hw _ (List.mem_of_getElem? (i := 92) rfl))) (mvT hZ (hw _ (List.mem_of_getElem? (i := 93) rfl))) (mvT hZ (hw _ (List.mem_of_getElem? (i := 94) rfl))) (by decide) (backOf (W := 1) (rmEri l Z a0 hw [] b69 b72 .null h72 n0 z72 f72_E_b69 f72_F_nodePrefix_b69 g_b69) hZ (hw _ (List.mem_of_getElem? (i := 94) rfl)) (hw _ (List.mem_of_getElem? (i := 88) rfl)) (by decide) (by decide)) (g := (mkF m 144 #[iv p0, iv p1, rv b1, rv b13, rv b25, rv b37, rv b49, iv pp, .unset, .unset, .unset, .unset] [(.ref b72), (.ref b69), (.ref b69)])) rfl (by rw [hml]; rfl) (Steps.refl _) (a := b69) (argsL := [(.ref b72)]) (rest := [(.ref b69)]) (lenOf pd_31 rfl) rfl (by show 2 * 0 + _ ≤ _; exact Nat.le_of_eq rfl) (hb hby at_144) (fun _ _ => ⟨rfl, e72, (by decide : 17 + 0 ≤ _), (by decide : 62 + 0 ≤ _)⟩)
  dsimp only [Pt.U, Pt.locs, Pt.cells, Pt.slots] at X74 l74 y74 z74 st74 hQ74
  subst l74 y74 z74
  obtain ⟨rfl, N74q, p74_0⟩ := hQ74
  have N74 := Fr.app N64 N74q
  have f74_S_String_COMPACT_STRINGS : Sta Z T74.heap "java/lang/String" "COMPACT_STRINGS" "Z" (.int cs) := own_sta_keep f72_S_String_COMPACT_STRINGS p74_0 (nsS f72_E_b69.nostat ns0)
  have f74_S_ArrayList_DEFAULTCAPACITY_EMPTY_ELEMENTDATA : Sta Z T74.heap "java/util/ArrayList" sN4 "[Ljava/lang/Object;" (.ref dc) := own_sta_keep f72_S_ArrayList_DEFAULTCAPACITY_EMPTY_ELEMENTDATA p74_0 (nsS f72_E_b69.nostat ns0)
  have f74_A_dc : Arv Z T74.heap dc kdc (.object "java/lang/Object") (0 : Int32) [] .null := f72_A_dc.keep p74_0 (ninS ne_dc_b69 nin0)
  have f74_S_ImmutableCollections_EMPTY : Sta Z T74.heap sN1 "EMPTY" "Ljava/lang/Object;" (.ref em) := own_sta_keep f72_S_ImmutableCollections_EMPTY p74_0 (nsS f72_E_b69.nostat ns0)
  have f74_S_ImmutableCollections_EMPTY_LIST : Sta Z T74.heap sN1 "EMPTY_LIST" sN5 (.ref le) := own_sta_keep f72_S_ImmutableCollections_EMPTY_LIST p74_0 (nsS f72_E_b69.nostat ns0)
  have f74_E_le : Exa Z T74.heap le sN0 := f72_E_le.keep p74_0
  have f74_F_elements_le : Fld Z T74.heap le sN0 "elements" "[Ljava/lang/Object;" (.ref ea) := f72_F_elements_le.keep p74_0 (ninS ne_le_b69 nin0)
  have f74_A_ea : Arv Z T74.heap ea kea (.object "java/lang/Object") (0 : Int32) [] .null := f72_A_ea.keep p74_0 (ninS ne_ea_b69 nin0)
  have f74_E_b1 : Exa Z T74.heap b1 "java/lang/String" := f72_E_b1.keep p74_0
  have f74_E_b13 : Exa Z T74.heap b13 "java/lang/String" := f72_E_b13.keep p74_0
  have f74_E_b25 : Exa Z T74.heap b25 "java/lang/String" := f72_E_b25.keep p74_0
  have f74_E_b37 : Exa Z T74.heap b37 "java/lang/String" := f72_E_b37.keep p74_0
  have f74_E_b49 : Exa Z T74.heap b49 "java/util/ArrayList" := f72_E_b49.keep p74_0
  have f74_F_modCount_b49 : Fld Z T74.heap b49 "java/util/AbstractList" "modCount" "I" (.int (((((0 : Int32) + (1 : Int32)) + (1 : Int32)) + (1 : Int32)) + (1 : Int32))) := f72_F_modCount_b49.keep p74_0 (ninS ne_b49_b69 nin0)
  have f74_F_elementData_b49 : Fld Z T74.heap b49 "java/util/ArrayList" "elementData" "[Ljava/lang/Object;" (.ref b_55) := f72_F_elementData_b49.keep p74_0 (ninS ne_b49_b69 nin0)
  have f74_F_size_b49 : Fld Z T74.heap b49 "java/util/ArrayList" "size" "I" (.int (4 : Int32)) := f72_F_size_b49.keep p74_0 (ninS ne_b49_b69 nin0)
  have f74_A_b_55 : Arv Z T74.heap b_55 kb_55 (.object "java/lang/Object") (10 : Int32) [(.ref b1), (.ref b13), (.ref b25), (.ref b37), .null, .null, .null, .null, .null, .null] .null := f72_A_b_55.keep p74_0 (ninS ne_b_55_b69 nin0)
  have f74_E_b69 : Exa Z T74.heap b69 sN2 := f72_E_b69.keep p74_0
  have z74 : n0 ≤ T74.heap.size := Nat.le_trans z72 p74_0.1
  have sk74 : k72 ≤ T74.heap.size := Nat.le_trans l72 p74_0.1
  have K74 : Keep h0 T74.heap [] := K72.trans p74_0 (allS (Or.inr sz_b69) all0)
  have R75 : ∀ t, Steps p.tables e below (T74.setTop (mkF m 147 #[iv p0, iv p1, rv b1, rv b13, rv b25, rv b37, rv b49, iv pp, .unset, .unset, .unset, .unset] [(.ref b69)])) t → Steps p.tables e below (s₁.setTop f0) t := fun t k => R73 t (st74.trans k)
  have R76 : ∀ t, Steps p.tables e below (T74.setTop (mkF m 149 #[iv p0, iv p1, rv b1, rv b13, rv b25, rv b37, rv b49, iv pp, rv b69, .unset, .unset, .unset] [])) t → Steps p.tables e below (s₁.setTop f0) t := fun t k => R75 t (by
    show Steps p.tables e below (T74.setTop (mkF m 147 #[iv p0, iv p1, rv b1, rv b13, rv b25, rv b37, rv b49, iv pp, .unset, .unset, .unset, .unset] [(.ref b69)])) _
    refine XS.astore X74.here hx rfl (hb hby at_147) rfl rfl (l' := #[iv p0, iv p1, rv b1, rv b13, rv b25, rv b37, rv b49, iv pp, rv b69, .unset, .unset, .unset]) rfl ?_
    exact k)
  rcases own_p4 e_pp with hp | hp | hp | hp
  · skip
    have R77 : ∀ t, Steps p.tables e below (T74.setTop (mkF m 149 #[iv p0, iv p1, rv b1, rv b13, rv b25, rv b37, rv b49, iv (0 : Int32), rv b69, .unset, .unset, .unset] [])) t → Steps p.tables e below (s₁.setTop f0) t := by have q := R76; rw [(hp : pp = (0 : Int32))] at q; exact q
    have R78 : ∀ t, Steps p.tables e below (T74.setTop (mkF m 155 #[iv p0, iv p1, rv b1, rv b13, rv b25, rv b37, rv b49, iv (0 : Int32), rv b69, .unset, .unset, .unset] [(.int (0 : Int32)), (.ref b49), (.ref b69)])) t → Steps p.tables e below (s₁.setTop f0) t := fun t k => R77 t (by
      show Steps p.tables e below (T74.setTop (mkF m 149 #[iv p0, iv p1, rv b1, rv b13, rv b25, rv b37, rv b49, iv (0 : Int32), rv b69, .unset, .unset, .unset] [])) _
      refine XS.aload X74.here hx rfl (hb hby at_149) rfl rfl ?_
      show Steps p.tables e below (T74.setTop (mkF m 151 #[iv p0, iv p1, rv b1, rv b13, rv b25, rv b37, rv b49, iv (0 : Int32), rv b69, .unset, .unset, .unset] [(.ref b69)])) _
      refine XS.aload X74.here hx rfl (hb hby at_151) rfl rfl ?_
      show Steps p.tables e below (T74.setTop (mkF m 153 #[iv p0, iv p1, rv b1, rv b13, rv b25, rv b37, rv b49, iv (0 : Int32), rv b69, .unset, .unset, .unset] [(.ref b49), (.ref b69)])) _
      refine XS.iload X74.here hx rfl (hb hby at_153) rfl  ?_
      exact k)
    obtain ⟨cq79, kq79, q79a, q79b, q79c⟩ := isOf hZ rfl f74_E_b69
    obtain ⟨_, _, ⟨T79, L79, k79, n79⟩, -, X79, ⟨Lc79, hQ79, l79, y79, z79⟩, st79⟩ := X74.virtualBack hx (y := (⟨sN2, "blockers", sN6⟩ : MethodName)) (z := (⟨sN2, "blockers", sN6⟩ : MethodName)) hown (mvT hZ (hw _ (List.mem_of_getElem? (i := 98) rfl))) (mvT hZ (hw _ (List.mem_of_getElem? (i := 99) rfl))) (notFace_of_selects (args := #[]) (mvT hZ (hw _ (List.mem_of_getElem? (i := 101) rfl)))) (mvT hZ (hw _ (List.mem_of_getElem? (i := 101) rfl))) (mvT hZ (hw _ (List.mem_of_getElem? (i := 100) rfl))) (by decide) (backOf (W := 0) (rmBlk0 l Z a0 hw [] b69 b49 le T74.heap n0 z74 f74_S_ImmutableCollections_EMPTY_LIST) hZ (hw _ (List.mem_of_getElem? (i := 102) rfl)) (hw _ (List.mem_of_getElem? (i := 88) rfl)) (by decide) (by decide)) q79a q79c (g := (mkF m 155 #[iv p0, iv p1, rv b1, rv b13, rv b25, rv b37, rv b49, iv (0 : Int32), rv b69, .unset, .unset, .unset] [(.int (0 : Int32)), (.ref b49), (.ref b69)])) rfl (by rw [hml]; rfl) (Steps.refl _) (argsL := [(.ref b49), (.int (0 : Int32))]) (rest := []) (lenOf pd_32 rfl) rfl (by show 2 * 0 + _ ≤ _; exact Nat.le_of_eq rfl) (hb hby at_155) (fun _ _ => ⟨rfl, rfl, (by decide : 17 + 0 ≤ _), (by decide : 62 + 0 ≤ _)⟩)
    dsimp only [Pt.U, Pt.locs, Pt.cells, Pt.slots] at X79 l79 y79 z79 st79 hQ79
    subst l79 y79 z79
    obtain ⟨rfl, N79q, p79_0⟩ := hQ79
    have N79 := Fr.app N74 N79q
    have R80 : ∀ t, Steps p.tables e below (T79.setTop (mkF m 158 #[iv p0, iv p1, rv b1, rv b13, rv b25, rv b37, rv b49, iv (0 : Int32), rv b69, .unset, .unset, .unset] [(.ref le)])) t → Steps p.tables e below (s₁.setTop f0) t := fun t k => R78 t (st79.trans k)
    have R81 : ∀ t, Steps p.tables e below (T79.setTop (mkF m 167 #[iv p0, iv p1, rv b1, rv b13, rv b25, rv b37, rv b49, iv (0 : Int32), rv b69, rv le, .unset, .unset] [(.ref le)])) t → Steps p.tables e below (s₁.setTop f0) t := fun t k => R80 t (by
      show Steps p.tables e below (T79.setTop (mkF m 158 #[iv p0, iv p1, rv b1, rv b13, rv b25, rv b37, rv b49, iv (0 : Int32), rv b69, .unset, .unset, .unset] [(.ref le)])) _
      refine XS.astore X79.here hx rfl (hb hby at_158) rfl rfl (l' := #[iv p0, iv p1, rv b1, rv b13, rv b25, rv b37, rv b49, iv (0 : Int32), rv b69, rv le, .unset, .unset]) rfl ?_
      show Steps p.tables e below (T79.setTop (mkF m 160 #[iv p0, iv p1, rv b1, rv b13, rv b25, rv b37, rv b49, iv (0 : Int32), rv b69, rv le, .unset, .unset] [])) _
      refine XS.iload X79.here hx rfl (hb hby at_160) rfl  ?_
      show Steps p.tables e below (T79.setTop (mkF m 162 #[iv p0, iv p1, rv b1, rv b13, rv b25, rv b37, rv b49, iv (0 : Int32), rv b69, rv le, .unset, .unset] [(.int (0 : Int32))])) _
      refine XS.ifNo X79.here hx rfl (hb hby at_162) rfl ((if0 _ _).trans (teq (by decide : (0 : Int32) = (0 : Int32))).2) ?_
      show Steps p.tables e below (T79.setTop (mkF m 165 #[iv p0, iv p1, rv b1, rv b13, rv b25, rv b37, rv b49, iv (0 : Int32), rv b69, rv le, .unset, .unset] [])) _
      refine XS.aload X79.here hx rfl (hb hby at_165) rfl rfl ?_
      exact k)
    obtain ⟨cq82, kq82, q82a, q82b, q82c⟩ := isOf hZ p79_0 f74_E_le
    obtain ⟨_, _, ⟨T82, L82, k82, n82⟩, -, X82, ⟨Lc82, hQ82, l82, y82, z82⟩, st82⟩ := X79.interfaceBack hx (xi := (⟨"java/util/List", "size", "()I"⟩ : MethodName)) (y := (⟨sN0, "size", "()I"⟩ : MethodName)) hown (mvT hZ (hw _ (List.mem_of_getElem? (i := 160) rfl))) (mvT hZ (hw _ (List.mem_of_getElem? (i := 161) rfl))) (mvT hZ (hw _ (List.mem_of_getElem? (i := 162) rfl))) (mvT hZ (hw _ (List.mem_of_getElem? (i := 184) rfl))) (mvT hZ (hw _ (List.mem_of_getElem? (i := 185) rfl))) (mvT hZ (hw _ (List.mem_of_getElem? (i := 186) rfl))) (mvT hZ (hw _ (List.mem_of_getElem? (i := 187) rfl))) (mvT hZ (hw _ (List.mem_of_getElem? (i := 188) rfl))) (by decide) (backOf (W := 0) (rmSzN l Z a0 hw [] le ea kea T74.heap n0 z74 f74_F_elements_le f74_A_ea) hZ (hw _ (List.mem_of_getElem? (i := 190) rfl)) (hw _ (List.mem_of_getElem? (i := 189) rfl)) (by decide) (by decide)) q82a q82b q82c (g := (mkF m 167 #[iv p0, iv p1, rv b1, rv b13, rv b25, rv b37, rv b49, iv (0 : Int32), rv b69, rv le, .unset, .unset] [(.ref le)])) rfl (by rw [hml]; rfl) (Steps.refl _) (argsL := []) (rest := []) (lenOf pd_33 rfl) rfl (by show 2 * 0 + _ ≤ _; exact Nat.le_of_eq rfl) (hb hby at_167) (fun _ _ => ⟨rfl, p79_0, (by decide : 17 + 0 ≤ _), (by decide : 62 + 0 ≤ _)⟩)
    dsimp only [Pt.U, Pt.locs, Pt.cells, Pt.slots] at X82 l82 y82 z82 st82 hQ82
    subst l82 y82 z82
    obtain ⟨rfl, N82q, p82_0⟩ := hQ82
    have N82 := Fr.app N79 N82q
    have R83 : ∀ t, Steps p.tables e below (T82.setTop (mkF m 172 #[iv p0, iv p1, rv b1, rv b13, rv b25, rv b37, rv b49, iv (0 : Int32), rv b69, rv le, .unset, .unset] [(.int (0 : Int32))])) t → Steps p.tables e below (s₁.setTop f0) t := fun t k => R81 t (st82.trans k)
    have R84 : ∀ t, Steps p.tables e below (T82.setTop (mkF m 180 #[iv p0, iv p1, rv b1, rv b13, rv b25, rv b37, rv b49, iv (0 : Int32), rv b69, rv le, .unset, .unset] [(.int (1 : Int32))])) t → Steps p.tables e below (s₁.setTop f0) t := fun t k => R83 t (by
      show Steps p.tables e below (T82.setTop (mkF m 172 #[iv p0, iv p1, rv b1, rv b13, rv b25, rv b37, rv b49, iv (0 : Int32), rv b69, rv le, .unset, .unset] [(.int (0 : Int32))])) _
      refine XS.ifNo X82.here hx rfl (hb hby at_172) rfl ((if0 _ _).trans (teq (by decide : (0 : Int32) = (0 : Int32))).2) ?_
      show Steps p.tables e below (T82.setTop (mkF m 175 #[iv p0, iv p1, rv b1, rv b13, rv b25, rv b37, rv b49, iv (0 : Int32), rv b69, rv le, .unset, .unset] [])) _
      refine XS.iconst X82.here hx rfl (hb hby at_175) ?_
      show Steps p.tables e below (T82.setTop (mkF m 176 #[iv p0, iv p1, rv b1, rv b13, rv b25, rv b37, rv b49, iv (0 : Int32), rv b69, rv le, .unset, .unset] [(.int (1 : Int32))])) _
      refine XS.goto X82.here hx rfl (pc0 := 176) (pc' := 180) rfl (hb hby at_176) (by decide) (by decide) ?_
      exact k)
    obtain ⟨fs, hr, hrun, hended, hend⟩ := X82.leaveW S72 (by rw [p82_0]; exact sk74) (v := some (.int (1 : Int32))) (fun h => by rw [Bd.returns] at h; cases h)
    refine ⟨_, _, pre0 _ (R84 _ ?_), hrun, hended, _, _, rfl, ?_, hend.1, hend.2.1, hend.2.2.1, hend.2.2.2.mono (by decide) (by decide)⟩
    · show Steps p.tables e below (T82.setTop (mkF m 180 #[iv p0, iv p1, rv b1, rv b13, rv b25, rv b37, rv b49, iv (0 : Int32), rv b69, rv le, .unset, .unset] [(.int (1 : Int32))])) _
      exact retN X82 hx (t := .boolean) Bd.returns (by simp) (hb hby at_180) hr
    · show Q_rmLaw Z p0 p1 cs dc kdc em le ea kea h0 n0 _ T82.heap _
      rw [p82_0]
      exact ⟨rfl, N82⟩
  · skip
    have R85 : ∀ t, Steps p.tables e below (T74.setTop (mkF m 149 #[iv p0, iv p1, rv b1, rv b13, rv b25, rv b37, rv b49, iv (1 : Int32), rv b69, .unset, .unset, .unset] [])) t → Steps p.tables e below (s₁.setTop f0) t := by have q := R76; rw [(hp : pp = (1 : Int32))] at q; exact q
    have R86 : ∀ t, Steps p.tables e below (T74.setTop (mkF m 155 #[iv p0, iv p1, rv b1, rv b13, rv b25, rv b37, rv b49, iv (1 : Int32), rv b69, .unset, .unset, .unset] [(.int (1 : Int32)), (.ref b49), (.ref b69)])) t → Steps p.tables e below (s₁.setTop f0) t := fun t k => R85 t (by
      show Steps p.tables e below (T74.setTop (mkF m 149 #[iv p0, iv p1, rv b1, rv b13, rv b25, rv b37, rv b49, iv (1 : Int32), rv b69, .unset, .unset, .unset] [])) _
      refine XS.aload X74.here hx rfl (hb hby at_149) rfl rfl ?_
      show Steps p.tables e below (T74.setTop (mkF m 151 #[iv p0, iv p1, rv b1, rv b13, rv b25, rv b37, rv b49, iv (1 : Int32), rv b69, .unset, .unset, .unset] [(.ref b69)])) _
      refine XS.aload X74.here hx rfl (hb hby at_151) rfl rfl ?_
      show Steps p.tables e below (T74.setTop (mkF m 153 #[iv p0, iv p1, rv b1, rv b13, rv b25, rv b37, rv b49, iv (1 : Int32), rv b69, .unset, .unset, .unset] [(.ref b49), (.ref b69)])) _
      refine XS.iload X74.here hx rfl (hb hby at_153) rfl  ?_
      exact k)
    obtain ⟨cq87, kq87, q87a, q87b, q87c⟩ := isOf hZ rfl f74_E_b69
    obtain ⟨_, _, ⟨T87, L87, k87, n87⟩, -, X87, ⟨Lc87, hQ87, l87, y87, z87⟩, st87⟩ := X74.virtualBack hx (y := (⟨sN2, "blockers", sN6⟩ : MethodName)) (z := (⟨sN2, "blockers", sN6⟩ : MethodName)) hown (mvT hZ (hw _ (List.mem_of_getElem? (i := 98) rfl))) (mvT hZ (hw _ (List.mem_of_getElem? (i := 99) rfl))) (notFace_of_selects (args := #[]) (mvT hZ (hw _ (List.mem_of_getElem? (i := 101) rfl)))) (mvT hZ (hw _ (List.mem_of_getElem? (i := 101) rfl))) (mvT hZ (hw _ (List.mem_of_getElem? (i := 100) rfl))) (by decide) (backOf (W := 0) (rmBlk1 l Z a0 hw [] b69 b49 b_55 kb_55 b1 b13 b25 b37 em T74.heap n0 z74 f74_E_b49 f74_F_elementData_b49 f74_F_size_b49 f74_A_b_55 f74_S_ImmutableCollections_EMPTY f74_E_b1 f74_E_b13 f74_E_b25 f74_E_b37) hZ (hw _ (List.mem_of_getElem? (i := 102) rfl)) (hw _ (List.mem_of_getElem? (i := 88) rfl)) (by decide) (by decide)) q87a q87c (g := (mkF m 155 #[iv p0, iv p1, rv b1, rv b13, rv b25, rv b37, rv b49, iv (1 : Int32), rv b69, .unset, .unset, .unset] [(.int (1 : Int32)), (.ref b49), (.ref b69)])) rfl (by rw [hml]; rfl) (Steps.refl _) (argsL := [(.ref b49), (.int (1 : Int32))]) (rest := []) (lenOf pd_32 rfl) rfl (by show 2 * 0 + _ ≤ _; exact Nat.le_of_eq rfl) (hb hby at_155) (fun _ _ => ⟨rfl, rfl, (by decide : 17 + 1 ≤ _), (by decide : 62 + 2 ≤ _)⟩)
    dsimp only [Pt.U, Pt.locs, Pt.cells, Pt.slots] at X87 l87 y87 z87 st87 hQ87
    subst l87 y87 z87
    obtain ⟨r_87, rfl, N87q, p87_0, p87_1, p87_2, p87_3, p87_4⟩ := hQ87
    have N87 := Fr.app N74 N87q
    have f87_S_String_COMPACT_STRINGS : Sta Z T87.heap "java/lang/String" "COMPACT_STRINGS" "Z" (.int cs) := own_sta_keep f74_S_String_COMPACT_STRINGS p87_0 ns0
    have f87_S_ArrayList_DEFAULTCAPACITY_EMPTY_ELEMENTDATA : Sta Z T87.heap "java/util/ArrayList" sN4 "[Ljava/lang/Object;" (.ref dc) := own_sta_keep f74_S_ArrayList_DEFAULTCAPACITY_EMPTY_ELEMENTDATA p87_0 ns0
    have f87_A_dc : Arv Z T87.heap dc kdc (.object "java/lang/Object") (0 : Int32) [] .null := f74_A_dc.keep p87_0 nin0
    have f87_S_ImmutableCollections_EMPTY : Sta Z T87.heap sN1 "EMPTY" "Ljava/lang/Object;" (.ref em) := own_sta_keep f74_S_ImmutableCollections_EMPTY p87_0 ns0
    have f87_S_ImmutableCollections_EMPTY_LIST : Sta Z T87.heap sN1 "EMPTY_LIST" sN5 (.ref le) := own_sta_keep f74_S_ImmutableCollections_EMPTY_LIST p87_0 ns0
    have f87_E_le : Exa Z T87.heap le sN0 := f74_E_le.keep p87_0
    have f87_F_elements_le : Fld Z T87.heap le sN0 "elements" "[Ljava/lang/Object;" (.ref ea) := f74_F_elements_le.keep p87_0 nin0
    have f87_A_ea : Arv Z T87.heap ea kea (.object "java/lang/Object") (0 : Int32) [] .null := f74_A_ea.keep p87_0 nin0
    have f87_E_b1 : Exa Z T87.heap b1 "java/lang/String" := f74_E_b1.keep p87_0
    have f87_E_b13 : Exa Z T87.heap b13 "java/lang/String" := f74_E_b13.keep p87_0
    have f87_E_b25 : Exa Z T87.heap b25 "java/lang/String" := f74_E_b25.keep p87_0
    have f87_E_b37 : Exa Z T87.heap b37 "java/lang/String" := f74_E_b37.keep p87_0
    have f87_E_b49 : Exa Z T87.heap b49 "java/util/ArrayList" := f74_E_b49.keep p87_0
    have f87_F_modCount_b49 : Fld Z T87.heap b49 "java/util/AbstractList" "modCount" "I" (.int (((((0 : Int32) + (1 : Int32)) + (1 : Int32)) + (1 : Int32)) + (1 : Int32))) := f74_F_modCount_b49.keep p87_0 nin0
    have f87_F_elementData_b49 : Fld Z T87.heap b49 "java/util/ArrayList" "elementData" "[Ljava/lang/Object;" (.ref b_55) := f74_F_elementData_b49.keep p87_0 nin0
    have f87_F_size_b49 : Fld Z T87.heap b49 "java/util/ArrayList" "size" "I" (.int (4 : Int32)) := f74_F_size_b49.keep p87_0 nin0
    have f87_A_b_55 : Arv Z T87.heap b_55 kb_55 (.object "java/lang/Object") (10 : Int32) [(.ref b1), (.ref b13), (.ref b25), (.ref b37), .null, .null, .null, .null, .null, .null] .null := f74_A_b_55.keep p87_0 nin0
    have f87_E_b69 : Exa Z T87.heap b69 sN2 := f74_E_b69.keep p87_0
    have z87 : n0 ≤ T87.heap.size := Nat.le_trans z74 p87_0.1
    have sk87 : k72 ≤ T87.heap.size := Nat.le_trans sk74 p87_0.1
    have K87 : Keep h0 T87.heap [] := K74.trans p87_0 all0
    have g_r_87 : n0 ≤ r_87 := Nat.le_trans z74 p87_4
    have sz_r_87 : h0.size ≤ r_87 := Nat.le_trans K74.1 p87_4
    have ne_dc_r_87 : dc ≠ r_87 := Nat.ne_of_lt (Nat.lt_of_lt_of_le f74_A_dc.lt p87_4)
    have ne_le_r_87 : le ≠ r_87 := Nat.ne_of_lt (Nat.lt_of_lt_of_le f74_E_le.lt p87_4)
    have ne_ea_r_87 : ea ≠ r_87 := Nat.ne_of_lt (Nat.lt_of_lt_of_le f74_A_ea.lt p87_4)
    have ne_b1_r_87 : b1 ≠ r_87 := Nat.ne_of_lt (Nat.lt_of_lt_of_le f74_E_b1.lt p87_4)
    have ne_b13_r_87 : b13 ≠ r_87 := Nat.ne_of_lt (Nat.lt_of_lt_of_le f74_E_b13.lt p87_4)
    have ne_b25_r_87 : b25 ≠ r_87 := Nat.ne_of_lt (Nat.lt_of_lt_of_le f74_E_b25.lt p87_4)
    have ne_b37_r_87 : b37 ≠ r_87 := Nat.ne_of_lt (Nat.lt_of_lt_of_le f74_E_b37.lt p87_4)
    have ne_b49_r_87 : b49 ≠ r_87 := Nat.ne_of_lt (Nat.lt_of_lt_of_le f74_E_b49.lt p87_4)
    have ne_b_55_r_87 : b_55 ≠ r_87 := Nat.ne_of_lt (Nat.lt_of_lt_of_le f74_A_b_55.lt p87_4)
    have ne_b69_r_87 : b69 ≠ r_87 := Nat.ne_of_lt (Nat.lt_of_lt_of_le f74_E_b69.lt p87_4)
    have R88 : ∀ t, Steps p.tables e below (T87.setTop (mkF m 158 #[iv p0, iv p1, rv b1, rv b13, rv b25, rv b37, rv b49, iv (1 : Int32), rv b69, .unset, .unset, .unset] [(.ref r_87)])) t → Steps p.tables e below (s₁.setTop f0) t := fun t k => R86 t (st87.trans k)
    have R89 : ∀ t, Steps p.tables e below (T87.setTop (mkF m 211 #[iv p0, iv p1, rv b1, rv b13, rv b25, rv b37, rv b49, iv (1 : Int32), rv b69, rv r_87, rv b1, .unset] [(.ref r_87)])) t → Steps p.tables e below (s₁.setTop f0) t := fun t k => R88 t (by
      show Steps p.tables e below (T87.setTop (mkF m 158 #[iv p0, iv p1, rv b1, rv b13, rv b25, rv b37, rv b49, iv (1 : Int32), rv b69, .unset, .unset, .unset] [(.ref r_87)])) _
      refine XS.astore X87.here hx rfl (hb hby at_158) rfl rfl (l' := #[iv p0, iv p1, rv b1, rv b13, rv b25, rv b37, rv b49, iv (1 : Int32), rv b69, rv r_87, .unset, .unset]) rfl ?_
      show Steps p.tables e below (T87.setTop (mkF m 160 #[iv p0, iv p1, rv b1, rv b13, rv b25, rv b37, rv b49, iv (1 : Int32), rv b69, rv r_87, .unset, .unset] [])) _
      refine XS.iload X87.here hx rfl (hb hby at_160) rfl  ?_
      show Steps p.tables e below (T87.setTop (mkF m 162 #[iv p0, iv p1, rv b1, rv b13, rv b25, rv b37, rv b49, iv (1 : Int32), rv b69, rv r_87, .unset, .unset] [(.int (1 : Int32))])) _
      refine XS.ifYes X87.here hx rfl (pc0 := 162) (pc' := 181) rfl (hb hby at_162) rfl ((if0 _ _).trans (feq (by decide : ¬ ((1 : Int32) = (0 : Int32)))).2) (by decide) (by decide) ?_
      show Steps p.tables e below (T87.setTop (mkF m 181 #[iv p0, iv p1, rv b1, rv b13, rv b25, rv b37, rv b49, iv (1 : Int32), rv b69, rv r_87, .unset, .unset] [])) _
      refine XS.iload X87.here hx rfl (hb hby at_181) rfl  ?_
      show Steps p.tables e below (T87.setTop (mkF m 183 #[iv p0, iv p1, rv b1, rv b13, rv b25, rv b37, rv b49, iv (1 : Int32), rv b69, rv r_87, .unset, .unset] [(.int (1 : Int32))])) _
      refine XS.iconst X87.here hx rfl (hb hby at_183) ?_
      show Steps p.tables e below (T87.setTop (mkF m 184 #[iv p0, iv p1, rv b1, rv b13, rv b25, rv b37, rv b49, iv (1 : Int32), rv b69, rv r_87, .unset, .unset] [(.int (1 : Int32)), (.int (1 : Int32))])) _
      refine XS.icmpNo X87.here hx rfl (hb hby at_184) rfl (teq (by decide : (1 : Int32) = (1 : Int32))).2 ?_
      show Steps p.tables e below (T87.setTop (mkF m 187 #[iv p0, iv p1, rv b1, rv b13, rv b25, rv b37, rv b49, iv (1 : Int32), rv b69, rv r_87, .unset, .unset] [])) _
      refine XS.aloadN X87.here hx rfl (hb hby at_187) rfl rfl ?_
      show Steps p.tables e below (T87.setTop (mkF m 188 #[iv p0, iv p1, rv b1, rv b13, rv b25, rv b37, rv b49, iv (1 : Int32), rv b69, rv r_87, .unset, .unset] [(.ref b1)])) _
      refine XS.astore X87.here hx rfl (hb hby at_188) rfl rfl (l' := #[iv p0, iv p1, rv b1, rv b13, rv b25, rv b37, rv b49, iv (1 : Int32), rv b69, rv r_87, rv b1, .unset]) rfl ?_
      show Steps p.tables e below (T87.setTop (mkF m 190 #[iv p0, iv p1, rv b1, rv b13, rv b25, rv b37, rv b49, iv (1 : Int32), rv b69, rv r_87, rv b1, .unset] [])) _
      refine XS.goto X87.here hx rfl (pc0 := 190) (pc' := 209) rfl (hb hby at_190) (by decide) (by decide) ?_
      show Steps p.tables e below (T87.setTop (mkF m 209 #[iv p0, iv p1, rv b1, rv b13, rv b25, rv b37, rv b49, iv (1 : Int32), rv b69, rv r_87, rv b1, .unset] [])) _
      refine XS.aload X87.here hx rfl (hb hby at_209) rfl rfl ?_
      exact k)
    obtain ⟨cq90, kq90, q90a, q90b, q90c⟩ := isOf hZ rfl p87_1
    obtain ⟨_, _, ⟨T90, L90, k90, n90⟩, -, X90, ⟨Lc90, hQ90, l90, y90, z90⟩, st90⟩ := X87.interfaceBack hx (xi := (⟨"java/util/List", "size", "()I"⟩ : MethodName)) (y := (⟨sN3, "size", "()I"⟩ : MethodName)) hown (mvT hZ (hw _ (List.mem_of_getElem? (i := 160) rfl))) (mvT hZ (hw _ (List.mem_of_getElem? (i := 161) rfl))) (mvT hZ (hw _ (List.mem_of_getElem? (i := 162) rfl))) (mvT hZ (hw _ (List.mem_of_getElem? (i := 163) rfl))) (mvT hZ (hw _ (List.mem_of_getElem? (i := 164) rfl))) (mvT hZ (hw _ (List.mem_of_getElem? (i := 165) rfl))) (mvT hZ (hw _ (List.mem_of_getElem? (i := 166) rfl))) (mvT hZ (hw _ (List.mem_of_getElem? (i := 167) rfl))) (by decide) (backOf (W := 0) (rmSz12 l Z a0 hw [] r_87 em T87.heap n0 z87 p87_3 f87_S_ImmutableCollections_EMPTY) hZ (hw _ (List.mem_of_getElem? (i := 168) rfl)) (hw _ (List.mem_of_getElem? (i := 132) rfl)) (by decide) (by decide)) q90a q90b q90c (g := (mkF m 211 #[iv p0, iv p1, rv b1, rv b13, rv b25, rv b37, rv b49, iv (1 : Int32), rv b69, rv r_87, rv b1, .unset] [(.ref r_87)])) rfl (by rw [hml]; rfl) (Steps.refl _) (argsL := []) (rest := []) (lenOf pd_33 rfl) rfl (by show 2 * 0 + _ ≤ _; exact Nat.le_of_eq rfl) (hb hby at_211) (fun _ _ => ⟨rfl, rfl, (by decide : 18 + 0 ≤ _), (by decide : 64 + 0 ≤ _)⟩)
    dsimp only [Pt.U, Pt.locs, Pt.cells, Pt.slots] at X90 l90 y90 z90 st90 hQ90
    subst l90 y90 z90
    obtain ⟨rfl, N90q, p90_0⟩ := hQ90
    have N90 := Fr.app N87 N90q
    have R91 : ∀ t, Steps p.tables e below (T90.setTop (mkF m 216 #[iv p0, iv p1, rv b1, rv b13, rv b25, rv b37, rv b49, iv (1 : Int32), rv b69, rv r_87, rv b1, .unset] [(.int (1 : Int32))])) t → Steps p.tables e below (s₁.setTop f0) t := fun t k => R89 t (st90.trans k)
    have R92 : ∀ t, Steps p.tables e below (T90.setTop (mkF m 225 #[iv p0, iv p1, rv b1, rv b13, rv b25, rv b37, rv b49, iv (1 : Int32), rv b69, rv r_87, rv b1, .unset] [(.int (0 : Int32)), (.ref r_87)])) t → Steps p.tables e below (s₁.setTop f0) t := fun t k => R91 t (by
      show Steps p.tables e below (T90.setTop (mkF m 216 #[iv p0, iv p1, rv b1, rv b13, rv b25, rv b37, rv b49, iv (1 : Int32), rv b69, rv r_87, rv b1, .unset] [(.int (1 : Int32))])) _
      refine XS.iconst X90.here hx rfl (hb hby at_216) ?_
      show Steps p.tables e below (T90.setTop (mkF m 217 #[iv p0, iv p1, rv b1, rv b13, rv b25, rv b37, rv b49, iv (1 : Int32), rv b69, rv r_87, rv b1, .unset] [(.int (1 : Int32)), (.int (1 : Int32))])) _
      refine XS.icmpYes X90.here hx rfl (pc0 := 217) (pc' := 222) rfl (hb hby at_217) rfl (teq (by decide : (1 : Int32) = (1 : Int32))).1 (by decide) (by decide) ?_
      show Steps p.tables e below (T90.setTop (mkF m 222 #[iv p0, iv p1, rv b1, rv b13, rv b25, rv b37, rv b49, iv (1 : Int32), rv b69, rv r_87, rv b1, .unset] [])) _
      refine XS.aload X90.here hx rfl (hb hby at_222) rfl rfl ?_
      show Steps p.tables e below (T90.setTop (mkF m 224 #[iv p0, iv p1, rv b1, rv b13, rv b25, rv b37, rv b49, iv (1 : Int32), rv b69, rv r_87, rv b1, .unset] [(.ref r_87)])) _
      refine XS.iconst X90.here hx rfl (hb hby at_224) ?_
      exact k)
    obtain ⟨cq93, kq93, q93a, q93b, q93c⟩ := isOf hZ p90_0 p87_1
    obtain ⟨_, _, ⟨T93, L93, k93, n93⟩, -, X93, ⟨Lc93, hQ93, l93, y93, z93⟩, st93⟩ := X90.interfaceBack hx (xi := (⟨"java/util/List", "get", "(I)Ljava/lang/Object;"⟩ : MethodName)) (y := (⟨sN3, "get", "(I)Ljava/lang/Object;"⟩ : MethodName)) hown (mvT hZ (hw _ (List.mem_of_getElem? (i := 169) rfl))) (mvT hZ (hw _ (List.mem_of_getElem? (i := 104) rfl))) (mvT hZ (hw _ (List.mem_of_getElem? (i := 105) rfl))) (mvT hZ (hw _ (List.mem_of_getElem? (i := 170) rfl))) (mvT hZ (hw _ (List.mem_of_getElem? (i := 171) rfl))) (mvT hZ (hw _ (List.mem_of_getElem? (i := 172) rfl))) (mvT hZ (hw _ (List.mem_of_getElem? (i := 173) rfl))) (mvT hZ (hw _ (List.mem_of_getElem? (i := 167) rfl))) (by decide) (backOf (W := 0) (rmGt12 l Z a0 hw [] r_87 b1 T87.heap n0 z87 p87_2) hZ (hw _ (List.mem_of_getElem? (i := 174) rfl)) (hw _ (List.mem_of_getElem? (i := 132) rfl)) (by decide) (by decide)) q93a q93b q93c (g := (mkF m 225 #[iv p0, iv p1, rv b1, rv b13, rv b25, rv b37, rv b49, iv (1 : Int32), rv b69, rv r_87, rv b1, .unset] [(.int (0 : Int32)), (.ref r_87)])) rfl (by rw [hml]; rfl) (Steps.refl _) (argsL := [(.int (0 : Int32))]) (rest := []) (lenOf pd_17 rfl) rfl (by show 2 * 0 + _ ≤ _; exact Nat.le_of_eq rfl) (hb hby at_225) (fun _ _ => ⟨rfl, p90_0, (by decide : 18 + 0 ≤ _), (by decide : 64 + 0 ≤ _)⟩)
    dsimp only [Pt.U, Pt.locs, Pt.cells, Pt.slots] at X93 l93 y93 z93 st93 hQ93
    subst l93 y93 z93
    obtain ⟨rfl, N93q, p93_0⟩ := hQ93
    have N93 := Fr.app N90 N93q
    have R94 : ∀ t, Steps p.tables e below (T93.setTop (mkF m 230 #[iv p0, iv p1, rv b1, rv b13, rv b25, rv b37, rv b49, iv (1 : Int32), rv b69, rv r_87, rv b1, .unset] [(.ref b1)])) t → Steps p.tables e below (s₁.setTop f0) t := fun t k => R92 t (st93.trans k)
    obtain ⟨T95, X95, e95, st95⟩ := castY X93 hx hZ hown (hw _ (List.mem_of_getElem? (i := 0) rfl)) p93_0 (Ins.self f87_E_b1) (g := (mkF m 230 #[iv p0, iv p1, rv b1, rv b13, rv b25, rv b37, rv b49, iv (1 : Int32), rv b69, rv r_87, rv b1, .unset] [(.ref b1)])) rfl rfl (hb hby at_230)
    have R96 : ∀ t, Steps p.tables e below (T95.setTop (mkF m 233 #[iv p0, iv p1, rv b1, rv b13, rv b25, rv b37, rv b49, iv (1 : Int32), rv b69, rv r_87, rv b1, .unset] [(.ref b1)])) t → Steps p.tables e below (s₁.setTop f0) t := fun t k => R94 t (st95 t k)
    have R97 : ∀ t, Steps p.tables e below (T95.setTop (mkF m 246 #[iv p0, iv p1, rv b1, rv b13, rv b25, rv b37, rv b49, iv (1 : Int32), rv b69, rv r_87, rv b1, rv b1] [(.ref b1), (.ref b1)])) t → Steps p.tables e below (s₁.setTop f0) t := fun t k => R96 t (by
      show Steps p.tables e below (T95.setTop (mkF m 233 #[iv p0, iv p1, rv b1, rv b13, rv b25, rv b37, rv b49, iv (1 : Int32), rv b69, rv r_87, rv b1, .unset] [(.ref b1)])) _
      refine XS.astore X95.here hx rfl (hb hby at_233) rfl rfl (l' := #[iv p0, iv p1, rv b1, rv b13, rv b25, rv b37, rv b49, iv (1 : Int32), rv b69, rv r_87, rv b1, rv b1]) rfl ?_
      show Steps p.tables e below (T95.setTop (mkF m 235 #[iv p0, iv p1, rv b1, rv b13, rv b25, rv b37, rv b49, iv (1 : Int32), rv b69, rv r_87, rv b1, rv b1] [])) _
      refine XS.aload X95.here hx rfl (hb hby at_235) rfl rfl ?_
      show Steps p.tables e below (T95.setTop (mkF m 237 #[iv p0, iv p1, rv b1, rv b13, rv b25, rv b37, rv b49, iv (1 : Int32), rv b69, rv r_87, rv b1, rv b1] [(.ref b1)])) _
      refine XS.aload X95.here hx rfl (hb hby at_237) rfl rfl ?_
      show Steps p.tables e below (T95.setTop (mkF m 239 #[iv p0, iv p1, rv b1, rv b13, rv b25, rv b37, rv b49, iv (1 : Int32), rv b69, rv r_87, rv b1, rv b1] [(.ref b1), (.ref b1)])) _
      refine Jvm.RoadKit.acmp (g := (mkF m 239 #[iv p0, iv p1, rv b1, rv b13, rv b25, rv b37, rv b49, iv (1 : Int32), rv b69, rv r_87, rv b1, rv b1] [(.ref b1), (.ref b1)])) X95 hx rfl rfl rfl (pc0 := 239) (pc' := 242) (same := true) rfl (hb hby at_239) rfl (decide_eq_true rfl) (by decide) (by decide) ?_
      show Steps p.tables e below (T95.setTop (mkF m 242 #[iv p0, iv p1, rv b1, rv b13, rv b25, rv b37, rv b49, iv (1 : Int32), rv b69, rv r_87, rv b1, rv b1] [])) _
      refine XS.aload X95.here hx rfl (hb hby at_242) rfl rfl ?_
      show Steps p.tables e below (T95.setTop (mkF m 244 #[iv p0, iv p1, rv b1, rv b13, rv b25, rv b37, rv b49, iv (1 : Int32), rv b69, rv r_87, rv b1, rv b1] [(.ref b1)])) _
      refine XS.aload X95.here hx rfl (hb hby at_244) rfl rfl ?_
      exact k)
    obtain ⟨cq98, kq98, q98a, q98b, q98c⟩ := isOf hZ e95 f87_E_b1
    obtain ⟨_, _, ⟨T98, L98, k98, n98⟩, -, X98, ⟨Lc98, hQ98, l98, y98, z98⟩, st98⟩ := X95.virtualBack hx (y := (⟨"java/lang/String", "equals", "(Ljava/lang/Object;)Z"⟩ : MethodName)) (z := (⟨"java/lang/String", "equals", "(Ljava/lang/Object;)Z"⟩ : MethodName)) hown (mvT hZ (hw _ (List.mem_of_getElem? (i := 175) rfl))) (mvT hZ (hw _ (List.mem_of_getElem? (i := 176) rfl))) (notFace_of_selects (args := #[]) (mvT hZ (hw _ (List.mem_of_getElem? (i := 178) rfl)))) (mvT hZ (hw _ (List.mem_of_getElem? (i := 178) rfl))) (mvT hZ (hw _ (List.mem_of_getElem? (i := 177) rfl))) (by decide) (backOf (W := 0) (rmEq l Z a0 hw [] b1 T87.heap n0 z87) hZ (hw _ (List.mem_of_getElem? (i := 179) rfl)) (hw _ (List.mem_of_getElem? (i := 2) rfl)) (by decide) (by decide)) q98a q98c (g := (mkF m 246 #[iv p0, iv p1, rv b1, rv b13, rv b25, rv b37, rv b49, iv (1 : Int32), rv b69, rv r_87, rv b1, rv b1] [(.ref b1), (.ref b1)])) rfl (by rw [hml]; rfl) (Steps.refl _) (argsL := [(.ref b1)]) (rest := []) (lenOf pd_30 rfl) rfl (by show 2 * 0 + _ ≤ _; exact Nat.le_of_eq rfl) (hb hby at_246) (fun _ _ => ⟨rfl, e95, (by decide : 18 + 0 ≤ _), (by decide : 64 + 0 ≤ _)⟩)
    dsimp only [Pt.U, Pt.locs, Pt.cells, Pt.slots] at X98 l98 y98 z98 st98 hQ98
    subst l98 y98 z98
    obtain ⟨rfl, N98q, p98_0⟩ := hQ98
    have N98 := Fr.app N93 N98q
    have R99 : ∀ t, Steps p.tables e below (T98.setTop (mkF m 249 #[iv p0, iv p1, rv b1, rv b13, rv b25, rv b37, rv b49, iv (1 : Int32), rv b69, rv r_87, rv b1, rv b1] [(.int (1 : Int32))])) t → Steps p.tables e below (s₁.setTop f0) t := fun t k => R97 t (st98.trans k)
    have R100 : ∀ t, Steps p.tables e below (T98.setTop (mkF m 257 #[iv p0, iv p1, rv b1, rv b13, rv b25, rv b37, rv b49, iv (1 : Int32), rv b69, rv r_87, rv b1, rv b1] [(.int (1 : Int32))])) t → Steps p.tables e below (s₁.setTop f0) t := fun t k => R99 t (by
      show Steps p.tables e below (T98.setTop (mkF m 249 #[iv p0, iv p1, rv b1, rv b13, rv b25, rv b37, rv b49, iv (1 : Int32), rv b69, rv r_87, rv b1, rv b1] [(.int (1 : Int32))])) _
      refine XS.ifNo X98.here hx rfl (hb hby at_249) rfl ((if0 _ _).trans (feq (by decide : ¬ ((1 : Int32) = (0 : Int32)))).1) ?_
      show Steps p.tables e below (T98.setTop (mkF m 252 #[iv p0, iv p1, rv b1, rv b13, rv b25, rv b37, rv b49, iv (1 : Int32), rv b69, rv r_87, rv b1, rv b1] [])) _
      refine XS.iconst X98.here hx rfl (hb hby at_252) ?_
      show Steps p.tables e below (T98.setTop (mkF m 253 #[iv p0, iv p1, rv b1, rv b13, rv b25, rv b37, rv b49, iv (1 : Int32), rv b69, rv r_87, rv b1, rv b1] [(.int (1 : Int32))])) _
      refine XS.goto X98.here hx rfl (pc0 := 253) (pc' := 257) rfl (hb hby at_253) (by decide) (by decide) ?_
      exact k)
    obtain ⟨fs, hr, hrun, hended, hend⟩ := X98.leaveW S72 (by rw [p98_0]; exact sk87) (v := some (.int (1 : Int32))) (fun h => by rw [Bd.returns] at h; cases h)
    refine ⟨_, _, pre0 _ (R100 _ ?_), hrun, hended, _, _, rfl, ?_, hend.1, hend.2.1, hend.2.2.1, hend.2.2.2.mono (by decide) (by decide)⟩
    · show Steps p.tables e below (T98.setTop (mkF m 257 #[iv p0, iv p1, rv b1, rv b13, rv b25, rv b37, rv b49, iv (1 : Int32), rv b69, rv r_87, rv b1, rv b1] [(.int (1 : Int32))])) _
      exact retN X98 hx (t := .boolean) Bd.returns (by simp) (hb hby at_257) hr
    · show Q_rmLaw Z p0 p1 cs dc kdc em le ea kea h0 n0 _ T98.heap _
      rw [p98_0]
      exact ⟨rfl, N98⟩
  · skip
    have R101 : ∀ t, Steps p.tables e below (T74.setTop (mkF m 149 #[iv p0, iv p1, rv b1, rv b13, rv b25, rv b37, rv b49, iv (2 : Int32), rv b69, .unset, .unset, .unset] [])) t → Steps p.tables e below (s₁.setTop f0) t := by have q := R76; rw [(hp : pp = (2 : Int32))] at q; exact q
    have R102 : ∀ t, Steps p.tables e below (T74.setTop (mkF m 155 #[iv p0, iv p1, rv b1, rv b13, rv b25, rv b37, rv b49, iv (2 : Int32), rv b69, .unset, .unset, .unset] [(.int (2 : Int32)), (.ref b49), (.ref b69)])) t → Steps p.tables e below (s₁.setTop f0) t := fun t k => R101 t (by
      show Steps p.tables e below (T74.setTop (mkF m 149 #[iv p0, iv p1, rv b1, rv b13, rv b25, rv b37, rv b49, iv (2 : Int32), rv b69, .unset, .unset, .unset] [])) _
      refine XS.aload X74.here hx rfl (hb hby at_149) rfl rfl ?_
      show Steps p.tables e below (T74.setTop (mkF m 151 #[iv p0, iv p1, rv b1, rv b13, rv b25, rv b37, rv b49, iv (2 : Int32), rv b69, .unset, .unset, .unset] [(.ref b69)])) _
      refine XS.aload X74.here hx rfl (hb hby at_151) rfl rfl ?_
      show Steps p.tables e below (T74.setTop (mkF m 153 #[iv p0, iv p1, rv b1, rv b13, rv b25, rv b37, rv b49, iv (2 : Int32), rv b69, .unset, .unset, .unset] [(.ref b49), (.ref b69)])) _
      refine XS.iload X74.here hx rfl (hb hby at_153) rfl  ?_
      exact k)
    obtain ⟨cq103, kq103, q103a, q103b, q103c⟩ := isOf hZ rfl f74_E_b69
    obtain ⟨_, _, ⟨T103, L103, k103, n103⟩, -, X103, ⟨Lc103, hQ103, l103, y103, z103⟩, st103⟩ := X74.virtualBack hx (y := (⟨sN2, "blockers", sN6⟩ : MethodName)) (z := (⟨sN2, "blockers", sN6⟩ : MethodName)) hown (mvT hZ (hw _ (List.mem_of_getElem? (i := 98) rfl))) (mvT hZ (hw _ (List.mem_of_getElem? (i := 99) rfl))) (notFace_of_selects (args := #[]) (mvT hZ (hw _ (List.mem_of_getElem? (i := 101) rfl)))) (mvT hZ (hw _ (List.mem_of_getElem? (i := 101) rfl))) (mvT hZ (hw _ (List.mem_of_getElem? (i := 100) rfl))) (by decide) (backOf (W := 0) (rmBlk2 l Z a0 hw [] b69 b49 b_55 kb_55 b1 b13 b25 b37 em T74.heap n0 z74 f74_E_b49 f74_F_elementData_b49 f74_F_size_b49 f74_A_b_55 f74_S_ImmutableCollections_EMPTY f74_E_b1 f74_E_b13 f74_E_b25 f74_E_b37) hZ (hw _ (List.mem_of_getElem? (i := 102) rfl)) (hw _ (List.mem_of_getElem? (i := 88) rfl)) (by decide) (by decide)) q103a q103c (g := (mkF m 155 #[iv p0, iv p1, rv b1, rv b13, rv b25, rv b37, rv b49, iv (2 : Int32), rv b69, .unset, .unset, .unset] [(.int (2 : Int32)), (.ref b49), (.ref b69)])) rfl (by rw [hml]; rfl) (Steps.refl _) (argsL := [(.ref b49), (.int (2 : Int32))]) (rest := []) (lenOf pd_32 rfl) rfl (by show 2 * 0 + _ ≤ _; exact Nat.le_of_eq rfl) (hb hby at_155) (fun _ _ => ⟨rfl, rfl, (by decide : 17 + 1 ≤ _), (by decide : 62 + 2 ≤ _)⟩)
    dsimp only [Pt.U, Pt.locs, Pt.cells, Pt.slots] at X103 l103 y103 z103 st103 hQ103
    subst l103 y103 z103
    obtain ⟨r_103, rfl, N103q, p103_0, p103_1, p103_2, p103_3, p103_4⟩ := hQ103
    have N103 := Fr.app N74 N103q
    have f103_S_String_COMPACT_STRINGS : Sta Z T103.heap "java/lang/String" "COMPACT_STRINGS" "Z" (.int cs) := own_sta_keep f74_S_String_COMPACT_STRINGS p103_0 ns0
    have f103_S_ArrayList_DEFAULTCAPACITY_EMPTY_ELEMENTDATA : Sta Z T103.heap "java/util/ArrayList" sN4 "[Ljava/lang/Object;" (.ref dc) := own_sta_keep f74_S_ArrayList_DEFAULTCAPACITY_EMPTY_ELEMENTDATA p103_0 ns0
    have f103_A_dc : Arv Z T103.heap dc kdc (.object "java/lang/Object") (0 : Int32) [] .null := f74_A_dc.keep p103_0 nin0
    have f103_S_ImmutableCollections_EMPTY : Sta Z T103.heap sN1 "EMPTY" "Ljava/lang/Object;" (.ref em) := own_sta_keep f74_S_ImmutableCollections_EMPTY p103_0 ns0
    have f103_S_ImmutableCollections_EMPTY_LIST : Sta Z T103.heap sN1 "EMPTY_LIST" sN5 (.ref le) := own_sta_keep f74_S_ImmutableCollections_EMPTY_LIST p103_0 ns0
    have f103_E_le : Exa Z T103.heap le sN0 := f74_E_le.keep p103_0
    have f103_F_elements_le : Fld Z T103.heap le sN0 "elements" "[Ljava/lang/Object;" (.ref ea) := f74_F_elements_le.keep p103_0 nin0
    have f103_A_ea : Arv Z T103.heap ea kea (.object "java/lang/Object") (0 : Int32) [] .null := f74_A_ea.keep p103_0 nin0
    have f103_E_b1 : Exa Z T103.heap b1 "java/lang/String" := f74_E_b1.keep p103_0
    have f103_E_b13 : Exa Z T103.heap b13 "java/lang/String" := f74_E_b13.keep p103_0
    have f103_E_b25 : Exa Z T103.heap b25 "java/lang/String" := f74_E_b25.keep p103_0
    have f103_E_b37 : Exa Z T103.heap b37 "java/lang/String" := f74_E_b37.keep p103_0
    have f103_E_b49 : Exa Z T103.heap b49 "java/util/ArrayList" := f74_E_b49.keep p103_0
    have f103_F_modCount_b49 : Fld Z T103.heap b49 "java/util/AbstractList" "modCount" "I" (.int (((((0 : Int32) + (1 : Int32)) + (1 : Int32)) + (1 : Int32)) + (1 : Int32))) := f74_F_modCount_b49.keep p103_0 nin0
    have f103_F_elementData_b49 : Fld Z T103.heap b49 "java/util/ArrayList" "elementData" "[Ljava/lang/Object;" (.ref b_55) := f74_F_elementData_b49.keep p103_0 nin0
    have f103_F_size_b49 : Fld Z T103.heap b49 "java/util/ArrayList" "size" "I" (.int (4 : Int32)) := f74_F_size_b49.keep p103_0 nin0
    have f103_A_b_55 : Arv Z T103.heap b_55 kb_55 (.object "java/lang/Object") (10 : Int32) [(.ref b1), (.ref b13), (.ref b25), (.ref b37), .null, .null, .null, .null, .null, .null] .null := f74_A_b_55.keep p103_0 nin0
    have f103_E_b69 : Exa Z T103.heap b69 sN2 := f74_E_b69.keep p103_0
    have z103 : n0 ≤ T103.heap.size := Nat.le_trans z74 p103_0.1
    have sk103 : k72 ≤ T103.heap.size := Nat.le_trans sk74 p103_0.1
    have K103 : Keep h0 T103.heap [] := K74.trans p103_0 all0
    have g_r_103 : n0 ≤ r_103 := Nat.le_trans z74 p103_4
    have sz_r_103 : h0.size ≤ r_103 := Nat.le_trans K74.1 p103_4
    have ne_dc_r_103 : dc ≠ r_103 := Nat.ne_of_lt (Nat.lt_of_lt_of_le f74_A_dc.lt p103_4)
    have ne_le_r_103 : le ≠ r_103 := Nat.ne_of_lt (Nat.lt_of_lt_of_le f74_E_le.lt p103_4)
    have ne_ea_r_103 : ea ≠ r_103 := Nat.ne_of_lt (Nat.lt_of_lt_of_le f74_A_ea.lt p103_4)
    have ne_b1_r_103 : b1 ≠ r_103 := Nat.ne_of_lt (Nat.lt_of_lt_of_le f74_E_b1.lt p103_4)
    have ne_b13_r_103 : b13 ≠ r_103 := Nat.ne_of_lt (Nat.lt_of_lt_of_le f74_E_b13.lt p103_4)
    have ne_b25_r_103 : b25 ≠ r_103 := Nat.ne_of_lt (Nat.lt_of_lt_of_le f74_E_b25.lt p103_4)
    have ne_b37_r_103 : b37 ≠ r_103 := Nat.ne_of_lt (Nat.lt_of_lt_of_le f74_E_b37.lt p103_4)
    have ne_b49_r_103 : b49 ≠ r_103 := Nat.ne_of_lt (Nat.lt_of_lt_of_le f74_E_b49.lt p103_4)
    have ne_b_55_r_103 : b_55 ≠ r_103 := Nat.ne_of_lt (Nat.lt_of_lt_of_le f74_A_b_55.lt p103_4)
    have ne_b69_r_103 : b69 ≠ r_103 := Nat.ne_of_lt (Nat.lt_of_lt_of_le f74_E_b69.lt p103_4)
    have R104 : ∀ t, Steps p.tables e below (T103.setTop (mkF m 158 #[iv p0, iv p1, rv b1, rv b13, rv b25, rv b37, rv b49, iv (2 : Int32), rv b69, .unset, .unset, .unset] [(.ref r_103)])) t → Steps p.tables e below (s₁.setTop f0) t := fun t k => R102 t (st103.trans k)
    have R105 : ∀ t, Steps p.tables e below (T103.setTop (mkF m 211 #[iv p0, iv p1, rv b1, rv b13, rv b25, rv b37, rv b49, iv (2 : Int32), rv b69, rv r_103, rv b13, .unset] [(.ref r_103)])) t → Steps p.tables e below (s₁.setTop f0) t := fun t k => R104 t (by
      show Steps p.tables e below (T103.setTop (mkF m 158 #[iv p0, iv p1, rv b1, rv b13, rv b25, rv b37, rv b49, iv (2 : Int32), rv b69, .unset, .unset, .unset] [(.ref r_103)])) _
      refine XS.astore X103.here hx rfl (hb hby at_158) rfl rfl (l' := #[iv p0, iv p1, rv b1, rv b13, rv b25, rv b37, rv b49, iv (2 : Int32), rv b69, rv r_103, .unset, .unset]) rfl ?_
      show Steps p.tables e below (T103.setTop (mkF m 160 #[iv p0, iv p1, rv b1, rv b13, rv b25, rv b37, rv b49, iv (2 : Int32), rv b69, rv r_103, .unset, .unset] [])) _
      refine XS.iload X103.here hx rfl (hb hby at_160) rfl  ?_
      show Steps p.tables e below (T103.setTop (mkF m 162 #[iv p0, iv p1, rv b1, rv b13, rv b25, rv b37, rv b49, iv (2 : Int32), rv b69, rv r_103, .unset, .unset] [(.int (2 : Int32))])) _
      refine XS.ifYes X103.here hx rfl (pc0 := 162) (pc' := 181) rfl (hb hby at_162) rfl ((if0 _ _).trans (feq (by decide : ¬ ((2 : Int32) = (0 : Int32)))).2) (by decide) (by decide) ?_
      show Steps p.tables e below (T103.setTop (mkF m 181 #[iv p0, iv p1, rv b1, rv b13, rv b25, rv b37, rv b49, iv (2 : Int32), rv b69, rv r_103, .unset, .unset] [])) _
      refine XS.iload X103.here hx rfl (hb hby at_181) rfl  ?_
      show Steps p.tables e below (T103.setTop (mkF m 183 #[iv p0, iv p1, rv b1, rv b13, rv b25, rv b37, rv b49, iv (2 : Int32), rv b69, rv r_103, .unset, .unset] [(.int (2 : Int32))])) _
      refine XS.iconst X103.here hx rfl (hb hby at_183) ?_
      show Steps p.tables e below (T103.setTop (mkF m 184 #[iv p0, iv p1, rv b1, rv b13, rv b25, rv b37, rv b49, iv (2 : Int32), rv b69, rv r_103, .unset, .unset] [(.int (1 : Int32)), (.int (2 : Int32))])) _
      refine XS.icmpYes X103.here hx rfl (pc0 := 184) (pc' := 193) rfl (hb hby at_184) rfl (feq (by decide : ¬ ((2 : Int32) = (1 : Int32)))).2 (by decide) (by decide) ?_
      show Steps p.tables e below (T103.setTop (mkF m 193 #[iv p0, iv p1, rv b1, rv b13, rv b25, rv b37, rv b49, iv (2 : Int32), rv b69, rv r_103, .unset, .unset] [])) _
      refine XS.iload X103.here hx rfl (hb hby at_193) rfl  ?_
      show Steps p.tables e below (T103.setTop (mkF m 195 #[iv p0, iv p1, rv b1, rv b13, rv b25, rv b37, rv b49, iv (2 : Int32), rv b69, rv r_103, .unset, .unset] [(.int (2 : Int32))])) _
      refine XS.iconst X103.here hx rfl (hb hby at_195) ?_
      show Steps p.tables e below (T103.setTop (mkF m 196 #[iv p0, iv p1, rv b1, rv b13, rv b25, rv b37, rv b49, iv (2 : Int32), rv b69, rv r_103, .unset, .unset] [(.int (2 : Int32)), (.int (2 : Int32))])) _
      refine XS.icmpNo X103.here hx rfl (hb hby at_196) rfl (teq (by decide : (2 : Int32) = (2 : Int32))).2 ?_
      show Steps p.tables e below (T103.setTop (mkF m 199 #[iv p0, iv p1, rv b1, rv b13, rv b25, rv b37, rv b49, iv (2 : Int32), rv b69, rv r_103, .unset, .unset] [])) _
      refine XS.aloadN X103.here hx rfl (hb hby at_199) rfl rfl ?_
      show Steps p.tables e below (T103.setTop (mkF m 200 #[iv p0, iv p1, rv b1, rv b13, rv b25, rv b37, rv b49, iv (2 : Int32), rv b69, rv r_103, .unset, .unset] [(.ref b13)])) _
      refine XS.astore X103.here hx rfl (hb hby at_200) rfl rfl (l' := #[iv p0, iv p1, rv b1, rv b13, rv b25, rv b37, rv b49, iv (2 : Int32), rv b69, rv r_103, rv b13, .unset]) rfl ?_
      show Steps p.tables e below (T103.setTop (mkF m 202 #[iv p0, iv p1, rv b1, rv b13, rv b25, rv b37, rv b49, iv (2 : Int32), rv b69, rv r_103, rv b13, .unset] [])) _
      refine XS.goto X103.here hx rfl (pc0 := 202) (pc' := 209) rfl (hb hby at_202) (by decide) (by decide) ?_
      show Steps p.tables e below (T103.setTop (mkF m 209 #[iv p0, iv p1, rv b1, rv b13, rv b25, rv b37, rv b49, iv (2 : Int32), rv b69, rv r_103, rv b13, .unset] [])) _
      refine XS.aload X103.here hx rfl (hb hby at_209) rfl rfl ?_
      exact k)
    obtain ⟨cq106, kq106, q106a, q106b, q106c⟩ := isOf hZ rfl p103_1
    obtain ⟨_, _, ⟨T106, L106, k106, n106⟩, -, X106, ⟨Lc106, hQ106, l106, y106, z106⟩, st106⟩ := X103.interfaceBack hx (xi := (⟨"java/util/List", "size", "()I"⟩ : MethodName)) (y := (⟨sN3, "size", "()I"⟩ : MethodName)) hown (mvT hZ (hw _ (List.mem_of_getElem? (i := 160) rfl))) (mvT hZ (hw _ (List.mem_of_getElem? (i := 161) rfl))) (mvT hZ (hw _ (List.mem_of_getElem? (i := 162) rfl))) (mvT hZ (hw _ (List.mem_of_getElem? (i := 163) rfl))) (mvT hZ (hw _ (List.mem_of_getElem? (i := 164) rfl))) (mvT hZ (hw _ (List.mem_of_getElem? (i := 165) rfl))) (mvT hZ (hw _ (List.mem_of_getElem? (i := 166) rfl))) (mvT hZ (hw _ (List.mem_of_getElem? (i := 167) rfl))) (by decide) (backOf (W := 0) (rmSz12 l Z a0 hw [] r_103 em T103.heap n0 z103 p103_3 f103_S_ImmutableCollections_EMPTY) hZ (hw _ (List.mem_of_getElem? (i := 168) rfl)) (hw _ (List.mem_of_getElem? (i := 132) rfl)) (by decide) (by decide)) q106a q106b q106c (g := (mkF m 211 #[iv p0, iv p1, rv b1, rv b13, rv b25, rv b37, rv b49, iv (2 : Int32), rv b69, rv r_103, rv b13, .unset] [(.ref r_103)])) rfl (by rw [hml]; rfl) (Steps.refl _) (argsL := []) (rest := []) (lenOf pd_33 rfl) rfl (by show 2 * 0 + _ ≤ _; exact Nat.le_of_eq rfl) (hb hby at_211) (fun _ _ => ⟨rfl, rfl, (by decide : 18 + 0 ≤ _), (by decide : 64 + 0 ≤ _)⟩)
    dsimp only [Pt.U, Pt.locs, Pt.cells, Pt.slots] at X106 l106 y106 z106 st106 hQ106
    subst l106 y106 z106
    obtain ⟨rfl, N106q, p106_0⟩ := hQ106
    have N106 := Fr.app N103 N106q
    have R107 : ∀ t, Steps p.tables e below (T106.setTop (mkF m 216 #[iv p0, iv p1, rv b1, rv b13, rv b25, rv b37, rv b49, iv (2 : Int32), rv b69, rv r_103, rv b13, .unset] [(.int (1 : Int32))])) t → Steps p.tables e below (s₁.setTop f0) t := fun t k => R105 t (st106.trans k)
    have R108 : ∀ t, Steps p.tables e below (T106.setTop (mkF m 225 #[iv p0, iv p1, rv b1, rv b13, rv b25, rv b37, rv b49, iv (2 : Int32), rv b69, rv r_103, rv b13, .unset] [(.int (0 : Int32)), (.ref r_103)])) t → Steps p.tables e below (s₁.setTop f0) t := fun t k => R107 t (by
      show Steps p.tables e below (T106.setTop (mkF m 216 #[iv p0, iv p1, rv b1, rv b13, rv b25, rv b37, rv b49, iv (2 : Int32), rv b69, rv r_103, rv b13, .unset] [(.int (1 : Int32))])) _
      refine XS.iconst X106.here hx rfl (hb hby at_216) ?_
      show Steps p.tables e below (T106.setTop (mkF m 217 #[iv p0, iv p1, rv b1, rv b13, rv b25, rv b37, rv b49, iv (2 : Int32), rv b69, rv r_103, rv b13, .unset] [(.int (1 : Int32)), (.int (1 : Int32))])) _
      refine XS.icmpYes X106.here hx rfl (pc0 := 217) (pc' := 222) rfl (hb hby at_217) rfl (teq (by decide : (1 : Int32) = (1 : Int32))).1 (by decide) (by decide) ?_
      show Steps p.tables e below (T106.setTop (mkF m 222 #[iv p0, iv p1, rv b1, rv b13, rv b25, rv b37, rv b49, iv (2 : Int32), rv b69, rv r_103, rv b13, .unset] [])) _
      refine XS.aload X106.here hx rfl (hb hby at_222) rfl rfl ?_
      show Steps p.tables e below (T106.setTop (mkF m 224 #[iv p0, iv p1, rv b1, rv b13, rv b25, rv b37, rv b49, iv (2 : Int32), rv b69, rv r_103, rv b13, .unset] [(.ref r_103)])) _
      refine XS.iconst X106.here hx rfl (hb hby at_224) ?_
      exact k)
    obtain ⟨cq109, kq109, q109a, q109b, q109c⟩ := isOf hZ p106_0 p103_1
    obtain ⟨_, _, ⟨T109, L109, k109, n109⟩, -, X109, ⟨Lc109, hQ109, l109, y109, z109⟩, st109⟩ := X106.interfaceBack hx (xi := (⟨"java/util/List", "get", "(I)Ljava/lang/Object;"⟩ : MethodName)) (y := (⟨sN3, "get", "(I)Ljava/lang/Object;"⟩ : MethodName)) hown (mvT hZ (hw _ (List.mem_of_getElem? (i := 169) rfl))) (mvT hZ (hw _ (List.mem_of_getElem? (i := 104) rfl))) (mvT hZ (hw _ (List.mem_of_getElem? (i := 105) rfl))) (mvT hZ (hw _ (List.mem_of_getElem? (i := 170) rfl))) (mvT hZ (hw _ (List.mem_of_getElem? (i := 171) rfl))) (mvT hZ (hw _ (List.mem_of_getElem? (i := 172) rfl))) (mvT hZ (hw _ (List.mem_of_getElem? (i := 173) rfl))) (mvT hZ (hw _ (List.mem_of_getElem? (i := 167) rfl))) (by decide) (backOf (W := 0) (rmGt12 l Z a0 hw [] r_103 b13 T103.heap n0 z103 p103_2) hZ (hw _ (List.mem_of_getElem? (i := 174) rfl)) (hw _ (List.mem_of_getElem? (i := 132) rfl)) (by decide) (by decide)) q109a q109b q109c (g := (mkF m 225 #[iv p0, iv p1, rv b1, rv b13, rv b25, rv b37, rv b49, iv (2 : Int32), rv b69, rv r_103, rv b13, .unset] [(.int (0 : Int32)), (.ref r_103)])) rfl (by rw [hml]; rfl) (Steps.refl _) (argsL := [(.int (0 : Int32))]) (rest := []) (lenOf pd_17 rfl) rfl (by show 2 * 0 + _ ≤ _; exact Nat.le_of_eq rfl) (hb hby at_225) (fun _ _ => ⟨rfl, p106_0, (by decide : 18 + 0 ≤ _), (by decide : 64 + 0 ≤ _)⟩)
    dsimp only [Pt.U, Pt.locs, Pt.cells, Pt.slots] at X109 l109 y109 z109 st109 hQ109
    subst l109 y109 z109
    obtain ⟨rfl, N109q, p109_0⟩ := hQ109
    have N109 := Fr.app N106 N109q
    have R110 : ∀ t, Steps p.tables e below (T109.setTop (mkF m 230 #[iv p0, iv p1, rv b1, rv b13, rv b25, rv b37, rv b49, iv (2 : Int32), rv b69, rv r_103, rv b13, .unset] [(.ref b13)])) t → Steps p.tables e below (s₁.setTop f0) t := fun t k => R108 t (st109.trans k)
    obtain ⟨T111, X111, e111, st111⟩ := castY X109 hx hZ hown (hw _ (List.mem_of_getElem? (i := 0) rfl)) p109_0 (Ins.self f103_E_b13) (g := (mkF m 230 #[iv p0, iv p1, rv b1, rv b13, rv b25, rv b37, rv b49, iv (2 : Int32), rv b69, rv r_103, rv b13, .unset] [(.ref b13)])) rfl rfl (hb hby at_230)
    have R112 : ∀ t, Steps p.tables e below (T111.setTop (mkF m 233 #[iv p0, iv p1, rv b1, rv b13, rv b25, rv b37, rv b49, iv (2 : Int32), rv b69, rv r_103, rv b13, .unset] [(.ref b13)])) t → Steps p.tables e below (s₁.setTop f0) t := fun t k => R110 t (st111 t k)
    have R113 : ∀ t, Steps p.tables e below (T111.setTop (mkF m 246 #[iv p0, iv p1, rv b1, rv b13, rv b25, rv b37, rv b49, iv (2 : Int32), rv b69, rv r_103, rv b13, rv b13] [(.ref b13), (.ref b13)])) t → Steps p.tables e below (s₁.setTop f0) t := fun t k => R112 t (by
      show Steps p.tables e below (T111.setTop (mkF m 233 #[iv p0, iv p1, rv b1, rv b13, rv b25, rv b37, rv b49, iv (2 : Int32), rv b69, rv r_103, rv b13, .unset] [(.ref b13)])) _
      refine XS.astore X111.here hx rfl (hb hby at_233) rfl rfl (l' := #[iv p0, iv p1, rv b1, rv b13, rv b25, rv b37, rv b49, iv (2 : Int32), rv b69, rv r_103, rv b13, rv b13]) rfl ?_
      show Steps p.tables e below (T111.setTop (mkF m 235 #[iv p0, iv p1, rv b1, rv b13, rv b25, rv b37, rv b49, iv (2 : Int32), rv b69, rv r_103, rv b13, rv b13] [])) _
      refine XS.aload X111.here hx rfl (hb hby at_235) rfl rfl ?_
      show Steps p.tables e below (T111.setTop (mkF m 237 #[iv p0, iv p1, rv b1, rv b13, rv b25, rv b37, rv b49, iv (2 : Int32), rv b69, rv r_103, rv b13, rv b13] [(.ref b13)])) _
      refine XS.aload X111.here hx rfl (hb hby at_237) rfl rfl ?_
      show Steps p.tables e below (T111.setTop (mkF m 239 #[iv p0, iv p1, rv b1, rv b13, rv b25, rv b37, rv b49, iv (2 : Int32), rv b69, rv r_103, rv b13, rv b13] [(.ref b13), (.ref b13)])) _
      refine Jvm.RoadKit.acmp (g := (mkF m 239 #[iv p0, iv p1, rv b1, rv b13, rv b25, rv b37, rv b49, iv (2 : Int32), rv b69, rv r_103, rv b13, rv b13] [(.ref b13), (.ref b13)])) X111 hx rfl rfl rfl (pc0 := 239) (pc' := 242) (same := true) rfl (hb hby at_239) rfl (decide_eq_true rfl) (by decide) (by decide) ?_
      show Steps p.tables e below (T111.setTop (mkF m 242 #[iv p0, iv p1, rv b1, rv b13, rv b25, rv b37, rv b49, iv (2 : Int32), rv b69, rv r_103, rv b13, rv b13] [])) _
      refine XS.aload X111.here hx rfl (hb hby at_242) rfl rfl ?_
      show Steps p.tables e below (T111.setTop (mkF m 244 #[iv p0, iv p1, rv b1, rv b13, rv b25, rv b37, rv b49, iv (2 : Int32), rv b69, rv r_103, rv b13, rv b13] [(.ref b13)])) _
      refine XS.aload X111.here hx rfl (hb hby at_244) rfl rfl ?_
      exact k)
    obtain ⟨cq114, kq114, q114a, q114b, q114c⟩ := isOf hZ e111 f103_E_b13
    obtain ⟨_, _, ⟨T114, L114, k114, n114⟩, -, X114, ⟨Lc114, hQ114, l114, y114, z114⟩, st114⟩ := X111.virtualBack hx (y := (⟨"java/lang/String", "equals", "(Ljava/lang/Object;)Z"⟩ : MethodName)) (z := (⟨"java/lang/String", "equals", "(Ljava/lang/Object;)Z"⟩ : MethodName)) hown (mvT hZ (hw _ (List.mem_of_getElem? (i := 175) rfl))) (mvT hZ (hw _ (List.mem_of_getElem? (i := 176) rfl))) (notFace_of_selects (args := #[]) (mvT hZ (hw _ (List.mem_of_getElem? (i := 178) rfl)))) (mvT hZ (hw _ (List.mem_of_getElem? (i := 178) rfl))) (mvT hZ (hw _ (List.mem_of_getElem? (i := 177) rfl))) (by decide) (backOf (W := 0) (rmEq l Z a0 hw [] b13 T103.heap n0 z103) hZ (hw _ (List.mem_of_getElem? (i := 179) rfl)) (hw _ (List.mem_of_getElem? (i := 2) rfl)) (by decide) (by decide)) q114a q114c (g := (mkF m 246 #[iv p0, iv p1, rv b1, rv b13, rv b25, rv b37, rv b49, iv (2 : Int32), rv b69, rv r_103, rv b13, rv b13] [(.ref b13), (.ref b13)])) rfl (by rw [hml]; rfl) (Steps.refl _) (argsL := [(.ref b13)]) (rest := []) (lenOf pd_30 rfl) rfl (by show 2 * 0 + _ ≤ _; exact Nat.le_of_eq rfl) (hb hby at_246) (fun _ _ => ⟨rfl, e111, (by decide : 18 + 0 ≤ _), (by decide : 64 + 0 ≤ _)⟩)
    dsimp only [Pt.U, Pt.locs, Pt.cells, Pt.slots] at X114 l114 y114 z114 st114 hQ114
    subst l114 y114 z114
    obtain ⟨rfl, N114q, p114_0⟩ := hQ114
    have N114 := Fr.app N109 N114q
    have R115 : ∀ t, Steps p.tables e below (T114.setTop (mkF m 249 #[iv p0, iv p1, rv b1, rv b13, rv b25, rv b37, rv b49, iv (2 : Int32), rv b69, rv r_103, rv b13, rv b13] [(.int (1 : Int32))])) t → Steps p.tables e below (s₁.setTop f0) t := fun t k => R113 t (st114.trans k)
    have R116 : ∀ t, Steps p.tables e below (T114.setTop (mkF m 257 #[iv p0, iv p1, rv b1, rv b13, rv b25, rv b37, rv b49, iv (2 : Int32), rv b69, rv r_103, rv b13, rv b13] [(.int (1 : Int32))])) t → Steps p.tables e below (s₁.setTop f0) t := fun t k => R115 t (by
      show Steps p.tables e below (T114.setTop (mkF m 249 #[iv p0, iv p1, rv b1, rv b13, rv b25, rv b37, rv b49, iv (2 : Int32), rv b69, rv r_103, rv b13, rv b13] [(.int (1 : Int32))])) _
      refine XS.ifNo X114.here hx rfl (hb hby at_249) rfl ((if0 _ _).trans (feq (by decide : ¬ ((1 : Int32) = (0 : Int32)))).1) ?_
      show Steps p.tables e below (T114.setTop (mkF m 252 #[iv p0, iv p1, rv b1, rv b13, rv b25, rv b37, rv b49, iv (2 : Int32), rv b69, rv r_103, rv b13, rv b13] [])) _
      refine XS.iconst X114.here hx rfl (hb hby at_252) ?_
      show Steps p.tables e below (T114.setTop (mkF m 253 #[iv p0, iv p1, rv b1, rv b13, rv b25, rv b37, rv b49, iv (2 : Int32), rv b69, rv r_103, rv b13, rv b13] [(.int (1 : Int32))])) _
      refine XS.goto X114.here hx rfl (pc0 := 253) (pc' := 257) rfl (hb hby at_253) (by decide) (by decide) ?_
      exact k)
    obtain ⟨fs, hr, hrun, hended, hend⟩ := X114.leaveW S72 (by rw [p114_0]; exact sk103) (v := some (.int (1 : Int32))) (fun h => by rw [Bd.returns] at h; cases h)
    refine ⟨_, _, pre0 _ (R116 _ ?_), hrun, hended, _, _, rfl, ?_, hend.1, hend.2.1, hend.2.2.1, hend.2.2.2.mono (by decide) (by decide)⟩
    · show Steps p.tables e below (T114.setTop (mkF m 257 #[iv p0, iv p1, rv b1, rv b13, rv b25, rv b37, rv b49, iv (2 : Int32), rv b69, rv r_103, rv b13, rv b13] [(.int (1 : Int32))])) _
      exact retN X114 hx (t := .boolean) Bd.returns (by simp) (hb hby at_257) hr
    · show Q_rmLaw Z p0 p1 cs dc kdc em le ea kea h0 n0 _ T114.heap _
      rw [p114_0]
      exact ⟨rfl, N114⟩
  · skip
    have R117 : ∀ t, Steps p.tables e below (T74.setTop (mkF m 149 #[iv p0, iv p1, rv b1, rv b13, rv b25, rv b37, rv b49, iv (3 : Int32), rv b69, .unset, .unset, .unset] [])) t → Steps p.tables e below (s₁.setTop f0) t := by have q := R76; rw [(hp : pp = (3 : Int32))] at q; exact q
    have R118 : ∀ t, Steps p.tables e below (T74.setTop (mkF m 155 #[iv p0, iv p1, rv b1, rv b13, rv b25, rv b37, rv b49, iv (3 : Int32), rv b69, .unset, .unset, .unset] [(.int (3 : Int32)), (.ref b49), (.ref b69)])) t → Steps p.tables e below (s₁.setTop f0) t := fun t k => R117 t (by
      show Steps p.tables e below (T74.setTop (mkF m 149 #[iv p0, iv p1, rv b1, rv b13, rv b25, rv b37, rv b49, iv (3 : Int32), rv b69, .unset, .unset, .unset] [])) _
      refine XS.aload X74.here hx rfl (hb hby at_149) rfl rfl ?_
      show Steps p.tables e below (T74.setTop (mkF m 151 #[iv p0, iv p1, rv b1, rv b13, rv b25, rv b37, rv b49, iv (3 : Int32), rv b69, .unset, .unset, .unset] [(.ref b69)])) _
      refine XS.aload X74.here hx rfl (hb hby at_151) rfl rfl ?_
      show Steps p.tables e below (T74.setTop (mkF m 153 #[iv p0, iv p1, rv b1, rv b13, rv b25, rv b37, rv b49, iv (3 : Int32), rv b69, .unset, .unset, .unset] [(.ref b49), (.ref b69)])) _
      refine XS.iload X74.here hx rfl (hb hby at_153) rfl  ?_
      exact k)
    obtain ⟨cq119, kq119, q119a, q119b, q119c⟩ := isOf hZ rfl f74_E_b69
    obtain ⟨_, _, ⟨T119, L119, k119, n119⟩, -, X119, ⟨Lc119, hQ119, l119, y119, z119⟩, st119⟩ := X74.virtualBack hx (y := (⟨sN2, "blockers", sN6⟩ : MethodName)) (z := (⟨sN2, "blockers", sN6⟩ : MethodName)) hown (mvT hZ (hw _ (List.mem_of_getElem? (i := 98) rfl))) (mvT hZ (hw _ (List.mem_of_getElem? (i := 99) rfl))) (notFace_of_selects (args := #[]) (mvT hZ (hw _ (List.mem_of_getElem? (i := 101) rfl)))) (mvT hZ (hw _ (List.mem_of_getElem? (i := 101) rfl))) (mvT hZ (hw _ (List.mem_of_getElem? (i := 100) rfl))) (by decide) (backOf (W := 0) (rmBlk3 l Z a0 hw [] b69 b49 b_55 kb_55 b1 b13 b25 b37 em T74.heap n0 z74 f74_E_b49 f74_F_elementData_b49 f74_F_size_b49 f74_A_b_55 f74_S_ImmutableCollections_EMPTY f74_E_b1 f74_E_b13 f74_E_b25 f74_E_b37) hZ (hw _ (List.mem_of_getElem? (i := 102) rfl)) (hw _ (List.mem_of_getElem? (i := 88) rfl)) (by decide) (by decide)) q119a q119c (g := (mkF m 155 #[iv p0, iv p1, rv b1, rv b13, rv b25, rv b37, rv b49, iv (3 : Int32), rv b69, .unset, .unset, .unset] [(.int (3 : Int32)), (.ref b49), (.ref b69)])) rfl (by rw [hml]; rfl) (Steps.refl _) (argsL := [(.ref b49), (.int (3 : Int32))]) (rest := []) (lenOf pd_32 rfl) rfl (by show 2 * 0 + _ ≤ _; exact Nat.le_of_eq rfl) (hb hby at_155) (fun _ _ => ⟨rfl, rfl, (by decide : 17 + 1 ≤ _), (by decide : 62 + 2 ≤ _)⟩)
    dsimp only [Pt.U, Pt.locs, Pt.cells, Pt.slots] at X119 l119 y119 z119 st119 hQ119
    subst l119 y119 z119
    obtain ⟨r_119, rfl, N119q, p119_0, p119_1, p119_2, p119_3, p119_4⟩ := hQ119
    have N119 := Fr.app N74 N119q
    have f119_S_String_COMPACT_STRINGS : Sta Z T119.heap "java/lang/String" "COMPACT_STRINGS" "Z" (.int cs) := own_sta_keep f74_S_String_COMPACT_STRINGS p119_0 ns0
    have f119_S_ArrayList_DEFAULTCAPACITY_EMPTY_ELEMENTDATA : Sta Z T119.heap "java/util/ArrayList" sN4 "[Ljava/lang/Object;" (.ref dc) := own_sta_keep f74_S_ArrayList_DEFAULTCAPACITY_EMPTY_ELEMENTDATA p119_0 ns0
    have f119_A_dc : Arv Z T119.heap dc kdc (.object "java/lang/Object") (0 : Int32) [] .null := f74_A_dc.keep p119_0 nin0
    have f119_S_ImmutableCollections_EMPTY : Sta Z T119.heap sN1 "EMPTY" "Ljava/lang/Object;" (.ref em) := own_sta_keep f74_S_ImmutableCollections_EMPTY p119_0 ns0
    have f119_S_ImmutableCollections_EMPTY_LIST : Sta Z T119.heap sN1 "EMPTY_LIST" sN5 (.ref le) := own_sta_keep f74_S_ImmutableCollections_EMPTY_LIST p119_0 ns0
    have f119_E_le : Exa Z T119.heap le sN0 := f74_E_le.keep p119_0
    have f119_F_elements_le : Fld Z T119.heap le sN0 "elements" "[Ljava/lang/Object;" (.ref ea) := f74_F_elements_le.keep p119_0 nin0
    have f119_A_ea : Arv Z T119.heap ea kea (.object "java/lang/Object") (0 : Int32) [] .null := f74_A_ea.keep p119_0 nin0
    have f119_E_b1 : Exa Z T119.heap b1 "java/lang/String" := f74_E_b1.keep p119_0
    have f119_E_b13 : Exa Z T119.heap b13 "java/lang/String" := f74_E_b13.keep p119_0
    have f119_E_b25 : Exa Z T119.heap b25 "java/lang/String" := f74_E_b25.keep p119_0
    have f119_E_b37 : Exa Z T119.heap b37 "java/lang/String" := f74_E_b37.keep p119_0
    have f119_E_b49 : Exa Z T119.heap b49 "java/util/ArrayList" := f74_E_b49.keep p119_0
    have f119_F_modCount_b49 : Fld Z T119.heap b49 "java/util/AbstractList" "modCount" "I" (.int (((((0 : Int32) + (1 : Int32)) + (1 : Int32)) + (1 : Int32)) + (1 : Int32))) := f74_F_modCount_b49.keep p119_0 nin0
    have f119_F_elementData_b49 : Fld Z T119.heap b49 "java/util/ArrayList" "elementData" "[Ljava/lang/Object;" (.ref b_55) := f74_F_elementData_b49.keep p119_0 nin0
    have f119_F_size_b49 : Fld Z T119.heap b49 "java/util/ArrayList" "size" "I" (.int (4 : Int32)) := f74_F_size_b49.keep p119_0 nin0
    have f119_A_b_55 : Arv Z T119.heap b_55 kb_55 (.object "java/lang/Object") (10 : Int32) [(.ref b1), (.ref b13), (.ref b25), (.ref b37), .null, .null, .null, .null, .null, .null] .null := f74_A_b_55.keep p119_0 nin0
    have f119_E_b69 : Exa Z T119.heap b69 sN2 := f74_E_b69.keep p119_0
    have z119 : n0 ≤ T119.heap.size := Nat.le_trans z74 p119_0.1
    have sk119 : k72 ≤ T119.heap.size := Nat.le_trans sk74 p119_0.1
    have K119 : Keep h0 T119.heap [] := K74.trans p119_0 all0
    have g_r_119 : n0 ≤ r_119 := Nat.le_trans z74 p119_4
    have sz_r_119 : h0.size ≤ r_119 := Nat.le_trans K74.1 p119_4
    have ne_dc_r_119 : dc ≠ r_119 := Nat.ne_of_lt (Nat.lt_of_lt_of_le f74_A_dc.lt p119_4)
    have ne_le_r_119 : le ≠ r_119 := Nat.ne_of_lt (Nat.lt_of_lt_of_le f74_E_le.lt p119_4)
    have ne_ea_r_119 : ea ≠ r_119 := Nat.ne_of_lt (Nat.lt_of_lt_of_le f74_A_ea.lt p119_4)
    have ne_b1_r_119 : b1 ≠ r_119 := Nat.ne_of_lt (Nat.lt_of_lt_of_le f74_E_b1.lt p119_4)
    have ne_b13_r_119 : b13 ≠ r_119 := Nat.ne_of_lt (Nat.lt_of_lt_of_le f74_E_b13.lt p119_4)
    have ne_b25_r_119 : b25 ≠ r_119 := Nat.ne_of_lt (Nat.lt_of_lt_of_le f74_E_b25.lt p119_4)
    have ne_b37_r_119 : b37 ≠ r_119 := Nat.ne_of_lt (Nat.lt_of_lt_of_le f74_E_b37.lt p119_4)
    have ne_b49_r_119 : b49 ≠ r_119 := Nat.ne_of_lt (Nat.lt_of_lt_of_le f74_E_b49.lt p119_4)
    have ne_b_55_r_119 : b_55 ≠ r_119 := Nat.ne_of_lt (Nat.lt_of_lt_of_le f74_A_b_55.lt p119_4)
    have ne_b69_r_119 : b69 ≠ r_119 := Nat.ne_of_lt (Nat.lt_of_lt_of_le f74_E_b69.lt p119_4)
    have R120 : ∀ t, Steps p.tables e below (T119.setTop (mkF m 158 #[iv p0, iv p1, rv b1, rv b13, rv b25, rv b37, rv b49, iv (3 : Int32), rv b69, .unset, .unset, .unset] [(.ref r_119)])) t → Steps p.tables e below (s₁.setTop f0) t := fun t k => R118 t (st119.trans k)
    have R121 : ∀ t, Steps p.tables e below (T119.setTop (mkF m 211 #[iv p0, iv p1, rv b1, rv b13, rv b25, rv b37, rv b49, iv (3 : Int32), rv b69, rv r_119, rv b25, .unset] [(.ref r_119)])) t → Steps p.tables e below (s₁.setTop f0) t := fun t k => R120 t (by
      show Steps p.tables e below (T119.setTop (mkF m 158 #[iv p0, iv p1, rv b1, rv b13, rv b25, rv b37, rv b49, iv (3 : Int32), rv b69, .unset, .unset, .unset] [(.ref r_119)])) _
      refine XS.astore X119.here hx rfl (hb hby at_158) rfl rfl (l' := #[iv p0, iv p1, rv b1, rv b13, rv b25, rv b37, rv b49, iv (3 : Int32), rv b69, rv r_119, .unset, .unset]) rfl ?_
      show Steps p.tables e below (T119.setTop (mkF m 160 #[iv p0, iv p1, rv b1, rv b13, rv b25, rv b37, rv b49, iv (3 : Int32), rv b69, rv r_119, .unset, .unset] [])) _
      refine XS.iload X119.here hx rfl (hb hby at_160) rfl  ?_
      show Steps p.tables e below (T119.setTop (mkF m 162 #[iv p0, iv p1, rv b1, rv b13, rv b25, rv b37, rv b49, iv (3 : Int32), rv b69, rv r_119, .unset, .unset] [(.int (3 : Int32))])) _
      refine XS.ifYes X119.here hx rfl (pc0 := 162) (pc' := 181) rfl (hb hby at_162) rfl ((if0 _ _).trans (feq (by decide : ¬ ((3 : Int32) = (0 : Int32)))).2) (by decide) (by decide) ?_
      show Steps p.tables e below (T119.setTop (mkF m 181 #[iv p0, iv p1, rv b1, rv b13, rv b25, rv b37, rv b49, iv (3 : Int32), rv b69, rv r_119, .unset, .unset] [])) _
      refine XS.iload X119.here hx rfl (hb hby at_181) rfl  ?_
      show Steps p.tables e below (T119.setTop (mkF m 183 #[iv p0, iv p1, rv b1, rv b13, rv b25, rv b37, rv b49, iv (3 : Int32), rv b69, rv r_119, .unset, .unset] [(.int (3 : Int32))])) _
      refine XS.iconst X119.here hx rfl (hb hby at_183) ?_
      show Steps p.tables e below (T119.setTop (mkF m 184 #[iv p0, iv p1, rv b1, rv b13, rv b25, rv b37, rv b49, iv (3 : Int32), rv b69, rv r_119, .unset, .unset] [(.int (1 : Int32)), (.int (3 : Int32))])) _
      refine XS.icmpYes X119.here hx rfl (pc0 := 184) (pc' := 193) rfl (hb hby at_184) rfl (feq (by decide : ¬ ((3 : Int32) = (1 : Int32)))).2 (by decide) (by decide) ?_
      show Steps p.tables e below (T119.setTop (mkF m 193 #[iv p0, iv p1, rv b1, rv b13, rv b25, rv b37, rv b49, iv (3 : Int32), rv b69, rv r_119, .unset, .unset] [])) _
      refine XS.iload X119.here hx rfl (hb hby at_193) rfl  ?_
      show Steps p.tables e below (T119.setTop (mkF m 195 #[iv p0, iv p1, rv b1, rv b13, rv b25, rv b37, rv b49, iv (3 : Int32), rv b69, rv r_119, .unset, .unset] [(.int (3 : Int32))])) _
      refine XS.iconst X119.here hx rfl (hb hby at_195) ?_
      show Steps p.tables e below (T119.setTop (mkF m 196 #[iv p0, iv p1, rv b1, rv b13, rv b25, rv b37, rv b49, iv (3 : Int32), rv b69, rv r_119, .unset, .unset] [(.int (2 : Int32)), (.int (3 : Int32))])) _
      refine XS.icmpYes X119.here hx rfl (pc0 := 196) (pc' := 205) rfl (hb hby at_196) rfl (feq (by decide : ¬ ((3 : Int32) = (2 : Int32)))).2 (by decide) (by decide) ?_
      show Steps p.tables e below (T119.setTop (mkF m 205 #[iv p0, iv p1, rv b1, rv b13, rv b25, rv b37, rv b49, iv (3 : Int32), rv b69, rv r_119, .unset, .unset] [])) _
      refine XS.aload X119.here hx rfl (hb hby at_205) rfl rfl ?_
      show Steps p.tables e below (T119.setTop (mkF m 207 #[iv p0, iv p1, rv b1, rv b13, rv b25, rv b37, rv b49, iv (3 : Int32), rv b69, rv r_119, .unset, .unset] [(.ref b25)])) _
      refine XS.astore X119.here hx rfl (hb hby at_207) rfl rfl (l' := #[iv p0, iv p1, rv b1, rv b13, rv b25, rv b37, rv b49, iv (3 : Int32), rv b69, rv r_119, rv b25, .unset]) rfl ?_
      show Steps p.tables e below (T119.setTop (mkF m 209 #[iv p0, iv p1, rv b1, rv b13, rv b25, rv b37, rv b49, iv (3 : Int32), rv b69, rv r_119, rv b25, .unset] [])) _
      refine XS.aload X119.here hx rfl (hb hby at_209) rfl rfl ?_
      exact k)
    obtain ⟨cq122, kq122, q122a, q122b, q122c⟩ := isOf hZ rfl p119_1
    obtain ⟨_, _, ⟨T122, L122, k122, n122⟩, -, X122, ⟨Lc122, hQ122, l122, y122, z122⟩, st122⟩ := X119.interfaceBack hx (xi := (⟨"java/util/List", "size", "()I"⟩ : MethodName)) (y := (⟨sN3, "size", "()I"⟩ : MethodName)) hown (mvT hZ (hw _ (List.mem_of_getElem? (i := 160) rfl))) (mvT hZ (hw _ (List.mem_of_getElem? (i := 161) rfl))) (mvT hZ (hw _ (List.mem_of_getElem? (i := 162) rfl))) (mvT hZ (hw _ (List.mem_of_getElem? (i := 163) rfl))) (mvT hZ (hw _ (List.mem_of_getElem? (i := 164) rfl))) (mvT hZ (hw _ (List.mem_of_getElem? (i := 165) rfl))) (mvT hZ (hw _ (List.mem_of_getElem? (i := 166) rfl))) (mvT hZ (hw _ (List.mem_of_getElem? (i := 167) rfl))) (by decide) (backOf (W := 0) (rmSz12 l Z a0 hw [] r_119 em T119.heap n0 z119 p119_3 f119_S_ImmutableCollections_EMPTY) hZ (hw _ (List.mem_of_getElem? (i := 168) rfl)) (hw _ (List.mem_of_getElem? (i := 132) rfl)) (by decide) (by decide)) q122a q122b q122c (g := (mkF m 211 #[iv p0, iv p1, rv b1, rv b13, rv b25, rv b37, rv b49, iv (3 : Int32), rv b69, rv r_119, rv b25, .unset] [(.ref r_119)])) rfl (by rw [hml]; rfl) (Steps.refl _) (argsL := []) (rest := []) (lenOf pd_33 rfl) rfl (by show 2 * 0 + _ ≤ _; exact Nat.le_of_eq rfl) (hb hby at_211) (fun _ _ => ⟨rfl, rfl, (by decide : 18 + 0 ≤ _), (by decide : 64 + 0 ≤ _)⟩)
    dsimp only [Pt.U, Pt.locs, Pt.cells, Pt.slots] at X122 l122 y122 z122 st122 hQ122
    subst l122 y122 z122
    obtain ⟨rfl, N122q, p122_0⟩ := hQ122
    have N122 := Fr.app N119 N122q
    have R123 : ∀ t, Steps p.tables e below (T122.setTop (mkF m 216 #[iv p0, iv p1, rv b1, rv b13, rv b25, rv b37, rv b49, iv (3 : Int32), rv b69, rv r_119, rv b25, .unset] [(.int (1 : Int32))])) t → Steps p.tables e below (s₁.setTop f0) t := fun t k => R121 t (st122.trans k)
    have R124 : ∀ t, Steps p.tables e below (T122.setTop (mkF m 225 #[iv p0, iv p1, rv b1, rv b13, rv b25, rv b37, rv b49, iv (3 : Int32), rv b69, rv r_119, rv b25, .unset] [(.int (0 : Int32)), (.ref r_119)])) t → Steps p.tables e below (s₁.setTop f0) t := fun t k => R123 t (by
      show Steps p.tables e below (T122.setTop (mkF m 216 #[iv p0, iv p1, rv b1, rv b13, rv b25, rv b37, rv b49, iv (3 : Int32), rv b69, rv r_119, rv b25, .unset] [(.int (1 : Int32))])) _
      refine XS.iconst X122.here hx rfl (hb hby at_216) ?_
      show Steps p.tables e below (T122.setTop (mkF m 217 #[iv p0, iv p1, rv b1, rv b13, rv b25, rv b37, rv b49, iv (3 : Int32), rv b69, rv r_119, rv b25, .unset] [(.int (1 : Int32)), (.int (1 : Int32))])) _
      refine XS.icmpYes X122.here hx rfl (pc0 := 217) (pc' := 222) rfl (hb hby at_217) rfl (teq (by decide : (1 : Int32) = (1 : Int32))).1 (by decide) (by decide) ?_
      show Steps p.tables e below (T122.setTop (mkF m 222 #[iv p0, iv p1, rv b1, rv b13, rv b25, rv b37, rv b49, iv (3 : Int32), rv b69, rv r_119, rv b25, .unset] [])) _
      refine XS.aload X122.here hx rfl (hb hby at_222) rfl rfl ?_
      show Steps p.tables e below (T122.setTop (mkF m 224 #[iv p0, iv p1, rv b1, rv b13, rv b25, rv b37, rv b49, iv (3 : Int32), rv b69, rv r_119, rv b25, .unset] [(.ref r_119)])) _
      refine XS.iconst X122.here hx rfl (hb hby at_224) ?_
      exact k)
    obtain ⟨cq125, kq125, q125a, q125b, q125c⟩ := isOf hZ p122_0 p119_1
    obtain ⟨_, _, ⟨T125, L125, k125, n125⟩, -, X125, ⟨Lc125, hQ125, l125, y125, z125⟩, st125⟩ := X122.interfaceBack hx (xi := (⟨"java/util/List", "get", "(I)Ljava/lang/Object;"⟩ : MethodName)) (y := (⟨sN3, "get", "(I)Ljava/lang/Object;"⟩ : MethodName)) hown (mvT hZ (hw _ (List.mem_of_getElem? (i := 169) rfl))) (mvT hZ (hw _ (List.mem_of_getElem? (i := 104) rfl))) (mvT hZ (hw _ (List.mem_of_getElem? (i := 105) rfl))) (mvT hZ (hw _ (List.mem_of_getElem? (i := 170) rfl))) (mvT hZ (hw _ (List.mem_of_getElem? (i := 171) rfl))) (mvT hZ (hw _ (List.mem_of_getElem? (i := 172) rfl))) (mvT hZ (hw _ (List.mem_of_getElem? (i := 173) rfl))) (mvT hZ (hw _ (List.mem_of_getElem? (i := 167) rfl))) (by decide) (backOf (W := 0) (rmGt12 l Z a0 hw [] r_119 b25 T119.heap n0 z119 p119_2) hZ (hw _ (List.mem_of_getElem? (i := 174) rfl)) (hw _ (List.mem_of_getElem? (i := 132) rfl)) (by decide) (by decide)) q125a q125b q125c (g := (mkF m 225 #[iv p0, iv p1, rv b1, rv b13, rv b25, rv b37, rv b49, iv (3 : Int32), rv b69, rv r_119, rv b25, .unset] [(.int (0 : Int32)), (.ref r_119)])) rfl (by rw [hml]; rfl) (Steps.refl _) (argsL := [(.int (0 : Int32))]) (rest := []) (lenOf pd_17 rfl) rfl (by show 2 * 0 + _ ≤ _; exact Nat.le_of_eq rfl) (hb hby at_225) (fun _ _ => ⟨rfl, p122_0, (by decide : 18 + 0 ≤ _), (by decide : 64 + 0 ≤ _)⟩)
    dsimp only [Pt.U, Pt.locs, Pt.cells, Pt.slots] at X125 l125 y125 z125 st125 hQ125
    subst l125 y125 z125
    obtain ⟨rfl, N125q, p125_0⟩ := hQ125
    have N125 := Fr.app N122 N125q
    have R126 : ∀ t, Steps p.tables e below (T125.setTop (mkF m 230 #[iv p0, iv p1, rv b1, rv b13, rv b25, rv b37, rv b49, iv (3 : Int32), rv b69, rv r_119, rv b25, .unset] [(.ref b25)])) t → Steps p.tables e below (s₁.setTop f0) t := fun t k => R124 t (st125.trans k)
    obtain ⟨T127, X127, e127, st127⟩ := castY X125 hx hZ hown (hw _ (List.mem_of_getElem? (i := 0) rfl)) p125_0 (Ins.self f119_E_b25) (g := (mkF m 230 #[iv p0, iv p1, rv b1, rv b13, rv b25, rv b37, rv b49, iv (3 : Int32), rv b69, rv r_119, rv b25, .unset] [(.ref b25)])) rfl rfl (hb hby at_230)
    have R128 : ∀ t, Steps p.tables e below (T127.setTop (mkF m 233 #[iv p0, iv p1, rv b1, rv b13, rv b25, rv b37, rv b49, iv (3 : Int32), rv b69, rv r_119, rv b25, .unset] [(.ref b25)])) t → Steps p.tables e below (s₁.setTop f0) t := fun t k => R126 t (st127 t k)
    have R129 : ∀ t, Steps p.tables e below (T127.setTop (mkF m 246 #[iv p0, iv p1, rv b1, rv b13, rv b25, rv b37, rv b49, iv (3 : Int32), rv b69, rv r_119, rv b25, rv b25] [(.ref b25), (.ref b25)])) t → Steps p.tables e below (s₁.setTop f0) t := fun t k => R128 t (by
      show Steps p.tables e below (T127.setTop (mkF m 233 #[iv p0, iv p1, rv b1, rv b13, rv b25, rv b37, rv b49, iv (3 : Int32), rv b69, rv r_119, rv b25, .unset] [(.ref b25)])) _
      refine XS.astore X127.here hx rfl (hb hby at_233) rfl rfl (l' := #[iv p0, iv p1, rv b1, rv b13, rv b25, rv b37, rv b49, iv (3 : Int32), rv b69, rv r_119, rv b25, rv b25]) rfl ?_
      show Steps p.tables e below (T127.setTop (mkF m 235 #[iv p0, iv p1, rv b1, rv b13, rv b25, rv b37, rv b49, iv (3 : Int32), rv b69, rv r_119, rv b25, rv b25] [])) _
      refine XS.aload X127.here hx rfl (hb hby at_235) rfl rfl ?_
      show Steps p.tables e below (T127.setTop (mkF m 237 #[iv p0, iv p1, rv b1, rv b13, rv b25, rv b37, rv b49, iv (3 : Int32), rv b69, rv r_119, rv b25, rv b25] [(.ref b25)])) _
      refine XS.aload X127.here hx rfl (hb hby at_237) rfl rfl ?_
      show Steps p.tables e below (T127.setTop (mkF m 239 #[iv p0, iv p1, rv b1, rv b13, rv b25, rv b37, rv b49, iv (3 : Int32), rv b69, rv r_119, rv b25, rv b25] [(.ref b25), (.ref b25)])) _
      refine Jvm.RoadKit.acmp (g := (mkF m 239 #[iv p0, iv p1, rv b1, rv b13, rv b25, rv b37, rv b49, iv (3 : Int32), rv b69, rv r_119, rv b25, rv b25] [(.ref b25), (.ref b25)])) X127 hx rfl rfl rfl (pc0 := 239) (pc' := 242) (same := true) rfl (hb hby at_239) rfl (decide_eq_true rfl) (by decide) (by decide) ?_
      show Steps p.tables e below (T127.setTop (mkF m 242 #[iv p0, iv p1, rv b1, rv b13, rv b25, rv b37, rv b49, iv (3 : Int32), rv b69, rv r_119, rv b25, rv b25] [])) _
      refine XS.aload X127.here hx rfl (hb hby at_242) rfl rfl ?_
      show Steps p.tables e below (T127.setTop (mkF m 244 #[iv p0, iv p1, rv b1, rv b13, rv b25, rv b37, rv b49, iv (3 : Int32), rv b69, rv r_119, rv b25, rv b25] [(.ref b25)])) _
      refine XS.aload X127.here hx rfl (hb hby at_244) rfl rfl ?_
      exact k)
    obtain ⟨cq130, kq130, q130a, q130b, q130c⟩ := isOf hZ e127 f119_E_b25
    obtain ⟨_, _, ⟨T130, L130, k130, n130⟩, -, X130, ⟨Lc130, hQ130, l130, y130, z130⟩, st130⟩ := X127.virtualBack hx (y := (⟨"java/lang/String", "equals", "(Ljava/lang/Object;)Z"⟩ : MethodName)) (z := (⟨"java/lang/String", "equals", "(Ljava/lang/Object;)Z"⟩ : MethodName)) hown (mvT hZ (hw _ (List.mem_of_getElem? (i := 175) rfl))) (mvT hZ (hw _ (List.mem_of_getElem? (i := 176) rfl))) (notFace_of_selects (args := #[]) (mvT hZ (hw _ (List.mem_of_getElem? (i := 178) rfl)))) (mvT hZ (hw _ (List.mem_of_getElem? (i := 178) rfl))) (mvT hZ (hw _ (List.mem_of_getElem? (i := 177) rfl))) (by decide) (backOf (W := 0) (rmEq l Z a0 hw [] b25 T119.heap n0 z119) hZ (hw _ (List.mem_of_getElem? (i := 179) rfl)) (hw _ (List.mem_of_getElem? (i := 2) rfl)) (by decide) (by decide)) q130a q130c (g := (mkF m 246 #[iv p0, iv p1, rv b1, rv b13, rv b25, rv b37, rv b49, iv (3 : Int32), rv b69, rv r_119, rv b25, rv b25] [(.ref b25), (.ref b25)])) rfl (by rw [hml]; rfl) (Steps.refl _) (argsL := [(.ref b25)]) (rest := []) (lenOf pd_30 rfl) rfl (by show 2 * 0 + _ ≤ _; exact Nat.le_of_eq rfl) (hb hby at_246) (fun _ _ => ⟨rfl, e127, (by decide : 18 + 0 ≤ _), (by decide : 64 + 0 ≤ _)⟩)
    dsimp only [Pt.U, Pt.locs, Pt.cells, Pt.slots] at X130 l130 y130 z130 st130 hQ130
    subst l130 y130 z130
    obtain ⟨rfl, N130q, p130_0⟩ := hQ130
    have N130 := Fr.app N125 N130q
    have R131 : ∀ t, Steps p.tables e below (T130.setTop (mkF m 249 #[iv p0, iv p1, rv b1, rv b13, rv b25, rv b37, rv b49, iv (3 : Int32), rv b69, rv r_119, rv b25, rv b25] [(.int (1 : Int32))])) t → Steps p.tables e below (s₁.setTop f0) t := fun t k => R129 t (st130.trans k)
    have R132 : ∀ t, Steps p.tables e below (T130.setTop (mkF m 257 #[iv p0, iv p1, rv b1, rv b13, rv b25, rv b37, rv b49, iv (3 : Int32), rv b69, rv r_119, rv b25, rv b25] [(.int (1 : Int32))])) t → Steps p.tables e below (s₁.setTop f0) t := fun t k => R131 t (by
      show Steps p.tables e below (T130.setTop (mkF m 249 #[iv p0, iv p1, rv b1, rv b13, rv b25, rv b37, rv b49, iv (3 : Int32), rv b69, rv r_119, rv b25, rv b25] [(.int (1 : Int32))])) _
      refine XS.ifNo X130.here hx rfl (hb hby at_249) rfl ((if0 _ _).trans (feq (by decide : ¬ ((1 : Int32) = (0 : Int32)))).1) ?_
      show Steps p.tables e below (T130.setTop (mkF m 252 #[iv p0, iv p1, rv b1, rv b13, rv b25, rv b37, rv b49, iv (3 : Int32), rv b69, rv r_119, rv b25, rv b25] [])) _
      refine XS.iconst X130.here hx rfl (hb hby at_252) ?_
      show Steps p.tables e below (T130.setTop (mkF m 253 #[iv p0, iv p1, rv b1, rv b13, rv b25, rv b37, rv b49, iv (3 : Int32), rv b69, rv r_119, rv b25, rv b25] [(.int (1 : Int32))])) _
      refine XS.goto X130.here hx rfl (pc0 := 253) (pc' := 257) rfl (hb hby at_253) (by decide) (by decide) ?_
      exact k)
    obtain ⟨fs, hr, hrun, hended, hend⟩ := X130.leaveW S72 (by rw [p130_0]; exact sk119) (v := some (.int (1 : Int32))) (fun h => by rw [Bd.returns] at h; cases h)
    refine ⟨_, _, pre0 _ (R132 _ ?_), hrun, hended, _, _, rfl, ?_, hend.1, hend.2.1, hend.2.2.1, hend.2.2.2.mono (by decide) (by decide)⟩
    · show Steps p.tables e below (T130.setTop (mkF m 257 #[iv p0, iv p1, rv b1, rv b13, rv b25, rv b37, rv b49, iv (3 : Int32), rv b69, rv r_119, rv b25, rv b25] [(.int (1 : Int32))])) _
      exact retN X130 hx (t := .boolean) Bd.returns (by simp) (hb hby at_257) hr
    · show Q_rmLaw Z p0 p1 cs dc kdc em le ea kea h0 n0 _ T130.heap _
      rw [p130_0]
      exact ⟨rfl, N130⟩
set_option maxRecDepth 65536 in
set_option maxHeartbeats 40000000 in
theorem comes_1 {Post : Tables → Env → Array Value → State → Outcome → State → Prop} (hpost : ∀ tb e args s v u, (limb_1_1.after args s (.returned v) u = true ∧ limb_1_2.after args s (.returned v) u = true ∧ True) → ReturnedEndW s (.returned v) u (Jvm.fieldLocs frame_1_writes args s ++ Jvm.arrayLocs frame_1_arrays args s ++ Jvm.staticLocs frame_1_statics s) 48 1216 → Post tb e args s (.returned v) u) :
    ArmFor flags0 classFile x code maxLocals ret World_1 tables_1 room_1 Calls_1 rest_1 Pre_1 Post := by
  intro l hfl _ _ p e ha hc hk s m args below hf hA hF happ hP
  obtain ⟨hcalls, hrest, hpre⟩ := hP
  obtain ⟨-, -, -, hnamed, -, -, -, hat⟩ := (Spec.applies_iff hf).mp happ
  obtain ⟨hg, hn⟩ := and_e (Cond.before_iff.mp (show (Jvm.Cond.and given_1 narrow_1).before args s = true from hpre))
  obtain ⟨gg1, gg2⟩ := and_e hg
  obtain ⟨gg3, gg4⟩ := and_e gg2
  obtain ⟨w0, w1, rfl⟩ : ∃ w0 w1 : Value, args = #[w0, w1] := by
    have hs : args.size = 2 := by simpa [Cond.value, given_1] using gg1
    obtain ⟨L⟩ := args
    match L, hs with
    | [w0, w1], _ => exact ⟨w0, w1, rfl⟩
  have hw := fun d (hd : d ∈ tables_1) => atoms_spec (ws := Jvm.Cond.code x code maxLocals ret :: tables_1) hat d (List.mem_cons_of_mem _ hd)
  have hfit : Fit s := fun {y c} hc i hi => by
    obtain ⟨ha, rfl⟩ := Array.getElem?_eq_some_iff.mp hc
    have q := List.all_eq_true.mp ((Array.all_eq_true_iff_forall_mem.mp hF) _ (Array.getElem_mem ha)) i (List.mem_range.mpr hi)
    simpa [Array.getElem?_eq_getElem hi] using q
  obtain ⟨hsets, hown0⟩ := atoms_of _ (rest_1_c_eq ▸ (show rest_1_c.before _ s = true from hrest))
  obtain ⟨i0, ei0⟩ := is_v gg3
  obtain rfl : w0 = (.int i0) := Option.some.inj ei0
  obtain ⟨i1, ei1⟩ := is_v gg4
  obtain rfl : w1 = (.int i1) := Option.some.inj ei1
  have n3 := not_v (Cond.before_iff.mp (hsets _ (List.mem_of_getElem? (i := 2) rfl)))
  obtain ⟨cs, ecs⟩ := is_v (Cond.before_iff.mp (hsets _ (List.mem_of_getElem? (i := 1) rfl)))
  have hcs : ¬ cs = (0 : Int32) := own_ncs ecs n3
  have Scs := Sta.start ecs (Or.inl (hsets _ (List.mem_of_getElem? (i := 0) rfl)))
  obtain ⟨dc, edc⟩ := arr_v (Cond.before_iff.mp (hsets _ (List.mem_of_getElem? (i := 15) rfl)))
  have Sdc := Sta.start edc (Or.inr ⟨(hw _ (List.mem_of_getElem? (i := 32) rfl)), (hsets _ (List.mem_of_getElem? (i := 11) rfl))⟩)
  obtain ⟨cdc, Adc⟩ := Arr.start edc (Cond.before_iff.mp (hsets _ (List.mem_of_getElem? (i := 15) rfl)))
  obtain ⟨ldc, ndc⟩ := own_len edc Adc (eqv_i (Term.int_eval (0 : Int32)) (Cond.before_iff.mp (hsets _ (List.mem_of_getElem? (i := 17) rfl))))
  have Vdc : Arv s s.heap dc cdc.cls (.object "java/lang/Object") (0 : Int32) [] .null := Arv.start hfit Adc ldc ndc (by decide) rfl trivial
  obtain ⟨em, eem⟩ := exa_v (Cond.before_iff.mp (hsets _ (List.mem_of_getElem? (i := 20) rfl)))
  have Sem := Sta.start eem (Or.inl (hsets _ (List.mem_of_getElem? (i := 19) rfl)))
  obtain ⟨le, ele⟩ := exa_v (Cond.before_iff.mp (hsets _ (List.mem_of_getElem? (i := 26) rfl)))
  have Sle := Sta.start ele (Or.inl (hsets _ (List.mem_of_getElem? (i := 25) rfl)))
  have Ele := Exa.start ele (Cond.before_iff.mp (hsets _ (List.mem_of_getElem? (i := 26) rfl)))
  obtain ⟨ea, eea⟩ := arr_v (Cond.before_iff.mp (hsets _ (List.mem_of_getElem? (i := 30) rfl)))
  have Fea := Fld.start ((fld_at ele).symm.trans eea)
  obtain ⟨cea, Aea⟩ := Arr.start eea (Cond.before_iff.mp (hsets _ (List.mem_of_getElem? (i := 30) rfl)))
  obtain ⟨lea, nea⟩ := own_len eea Aea (eqv_i (Term.int_eval (0 : Int32)) (Cond.before_iff.mp (hsets _ (List.mem_of_getElem? (i := 32) rfl))))
  have Vea : Arv s s.heap ea cea.cls (.object "java/lang/Object") (0 : Int32) [] .null := Arv.start hfit Aea lea nea (by decide) rfl trivial
  obtain ⟨n, o, h1, h2, h3, _, L, rfl, ⟨rfl, N⟩, hq⟩ := rmLaw l s _ hw tables_1 i0 i1 cs dc cdc.cls em le ea cea.cls s.heap s.heap.size (Nat.le_refl _) Scs hcs Sdc Vdc Sem Sle Ele Fea Vea p e ha hc hk s m _ below hf ((Spec.applies_iff_loose hf).mp happ).1 ⟨rfl, State.Warmed39.refl s, rfl⟩ trivial
  refine ⟨n, _, h1, h2, h3, hpost _ _ _ _ _ _ ⟨Cond.after_iff.mpr rfl, Cond.after_iff.mpr (eq_i res_at (Term.int_eval (1)) rfl), trivial⟩ ⟨hq.1, hq.2.1, hq.2.2.1, (hq.2.2.2.sift fun y hy => Or.inr (N y hy)).mono (by decide) (by decide)⟩⟩
theorem main_1_1 : Claimed_1_1 := comes_1 fun _ _ _ _ _ _ h hF => ⟨h.1, hF⟩
theorem main_1_2 : Claimed_1_2 := comes_1 fun _ _ _ _ _ _ h hF => ⟨h.2.1, hF⟩
end Jvm.Pilot.@@N@@
namespace Jvm.Pilot.@@N@@
open Jvm Jvm.ClassFile Sem Op Lib Jvm.Free Jvm.Stand Jvm.Pilot.@@N@@.Jvm.D
/-! MADE BY PROGRAM (witnessworld.py) out of the Statement's table words and the real class files: 37 classes; the members and pool entries that the words name. The judged class is class 1, her method 1. -/
namespace start1
open Jvm.ClassFile
def u (s : String) : CpInfo := .utf8 (stringToUtf16 s)
/-- a pool by its gaps: so many unusable entries, then the entry; so many at the end -/
def gap : Nat → List CpInfo → List CpInfo
  | 0, r => r
  | n + 1, r => .unusable :: gap n r
def poolList (es : List (Nat × CpInfo)) (last : Nat) : List CpInfo := es.foldr (fun e r => gap e.1 (e.2 :: r)) (gap last [])
def pool (es : List (Nat × CpInfo)) (last : Nat) : Array CpInfo := ⟨poolList es last⟩
def fileOf (pool : Array CpInfo) (this : Nat) (attrs : Array Attribute := #[]) (ms : Array MethodInfo := #[]) (fl : Nat := 33) (sup : Nat := 0) (ifs : Array Nat := #[]) (fds : Array FieldInfo := #[]) : ClassFile where
  minorVersion := 0
  majorVersion := 65
  constantPool := pool
  accessFlags := fl
  thisClass := this
  superClass := sup
  interfaces := ifs
  fields := fds
  methods := ms
  attributes := attrs
def plain (name : String) (sup : Option ClassId) : Class where
  name := name
  kind := .ordinary
  loader := none
  accessFlags := 33
  super := sup
  interfaces := #[]
  cf := none
  fields := #[]
  methods := #[]
  instanceTypes := #[]
  staticTypes := #[]
  resolved := #[]
  callSites := []
  init := .initialized
  statics := none
  mirror := none

def pool0 : Array CpInfo := pool [(5, u "<init>"), (0, u "()V"), (1, .class_ 10), (1, u "java/lang/Object")] 113

def k0c0 : Code := { maxStack := 0, maxLocals := 1, code := object_method_1_code, exceptionTable := #[], attributes := #[] }
def k0m0 : Method := { name := "<init>", desc := "()V", sig := { parameters := [], returnType := none }, accessFlags := 1, code := some k0c0 }
/-- java/lang/Object -/
def k0 : Class := { plain "java/lang/Object" none with
  accessFlags := 33
  interfaces := #[]
  cf := some (fileOf pool0 8 #[] #[{ accessFlags := 1, nameIndex := 5, descriptorIndex := 6, attributes := #[] }] 33 0 #[] #[])
  fields := #[]
  methods := #[k0m0]
  instanceTypes := #[]
  staticTypes := #[]
  resolved := Array.replicate 124 none
  statics := none }

def pool1 : Array CpInfo := pool [(2, .class_ 4), (0, .nameAndType 5 6), (0, u "java/lang/Object"), (0, u "<init>"), (0, u "()V"), (0, .class_ 8), (0, u "java/lang/String"), (0, .methodref 7 10), (0, .nameAndType 5 11), (0, u "([C)V"), (0, .class_ 13), (0, u "java/util/ArrayList"), (0, .methodref 12 3), (0, .methodref 12 16), (0, .nameAndType 17 18), (0, u "add"), (0, u "(Ljava/lang/Object;)Z"), (0, .integer 2147483647), (0, .class_ 21), (0, u "com/example/dvarapala/dvarapala/lock/ExclusiveRule"), (0, .string 23), (0, u "lock-"), (0, .methodref 20 25), (0, .nameAndType 5 26), (0, u "(Ljava/lang/String;)V"), (0, .methodref 20 28), (0, .nameAndType 29 30), (0, u "blockers"), (0, u "(Ljava/util/List;I)Ljava/util/List;"), (0, .interfaceMethodref 32 33), (0, .class_ 34), (0, .nameAndType 35 36), (0, u "java/util/List"), (0, u "size"), (0, u "()I"), (0, .interfaceMethodref 32 38), (0, .nameAndType 39 40), (0, u "get"), (0, u "(I)Ljava/lang/Object;"), (0, .methodref 7 42), (0, .nameAndType 43 18), (0, u "equals"), (0, .class_ 45), (0, u "com/example/dvarapala/dvarapala/lock/ExclusiveRuleBlockersPinLaw"), (2, u "law"), (0, u "(II)Z")] 3

def k1m0 : Method := { name := "<init>", desc := "()V", sig := { parameters := [], returnType := none }, accessFlags := 1, code := none }
def k1c1 : Code := { maxStack := 7, maxLocals := 12, code := code, exceptionTable := #[], attributes := #[] }
def k1m1 : Method := { name := "law", desc := "(II)Z", sig := { parameters := [.int, .int], returnType := some .boolean }, accessFlags := 9, code := some k1c1 }
/-- com/example/dvarapala/dvarapala/lock/ExclusiveRuleBlockersPinLaw -/
def k1 : Class := { plain "com/example/dvarapala/dvarapala/lock/ExclusiveRuleBlockersPinLaw" (some 0) with
  accessFlags := 49
  interfaces := #[]
  cf := some (fileOf pool1 44 #[] #[{ accessFlags := 1, nameIndex := 5, descriptorIndex := 6, attributes := #[] }, { accessFlags := 9, nameIndex := 48, descriptorIndex := 49, attributes := #[] }] 49 2 #[] #[])
  fields := #[]
  methods := #[k1m0, k1m1]
  instanceTypes := #[]
  staticTypes := #[]
  resolved := Array.replicate 53 none
  statics := none }

def pool2 : Array CpInfo := pool [(1, .class_ 2), (0, u "java/io/Serializable"), (0, .class_ 4), (0, u "java/lang/Object")] 2

/-- java/io/Serializable -/
def k2 : Class := { plain "java/io/Serializable" (some 0) with
  accessFlags := 1537
  interfaces := #[]
  cf := some (fileOf pool2 1 #[] #[] 1537 3 #[] #[])
  fields := #[]
  methods := #[]
  instanceTypes := #[]
  staticTypes := #[]
  resolved := Array.replicate 7 none
  statics := none }

def pool3 : Array CpInfo := pool [(1, .class_ 2), (0, u "java/lang/Comparable"), (0, .class_ 4), (0, u "java/lang/Object")] 7

/-- java/lang/Comparable -/
def k3 : Class := { plain "java/lang/Comparable" (some 0) with
  accessFlags := 1537
  interfaces := #[]
  cf := some (fileOf pool3 1 #[] #[] 1537 3 #[] #[])
  fields := #[]
  methods := #[]
  instanceTypes := #[]
  staticTypes := #[]
  resolved := Array.replicate 12 none
  statics := none }

def pool4 : Array CpInfo := pool [(2, .class_ 4), (1, u "java/lang/CharSequence"), (42, .class_ 48), (0, u "java/lang/CharSequence$1CodePointIterator"), (10, .class_ 60), (0, u "java/lang/CharSequence$1CharIterator"), (5, .class_ 67), (0, u "java/lang/Object")] 63

/-- java/lang/CharSequence -/
def k4 : Class := { plain "java/lang/CharSequence" (some 0) with
  accessFlags := 1537
  interfaces := #[]
  cf := some (fileOf pool4 2 #[.nestMembers #[47, 59]] #[] 1537 66 #[] #[])
  fields := #[]
  methods := #[]
  instanceTypes := #[]
  staticTypes := #[]
  resolved := Array.replicate 131 none
  statics := none }

def pool5 : Array CpInfo := pool [(1, .class_ 2), (0, u "java/lang/constant/Constable"), (0, .class_ 4), (0, u "java/lang/Object")] 6

/-- java/lang/constant/Constable -/
def k5 : Class := { plain "java/lang/constant/Constable" (some 0) with
  accessFlags := 1537
  interfaces := #[]
  cf := some (fileOf pool5 1 #[] #[] 1537 3 #[] #[])
  fields := #[]
  methods := #[]
  instanceTypes := #[]
  staticTypes := #[]
  resolved := Array.replicate 11 none
  statics := none }

def pool6 : Array CpInfo := pool [(1, .class_ 2), (0, u "java/lang/constant/ConstantDesc"), (0, .class_ 4), (0, u "java/lang/Object")] 32

/-- java/lang/constant/ConstantDesc -/
def k6 : Class := { plain "java/lang/constant/ConstantDesc" (some 0) with
  accessFlags := 1537
  interfaces := #[]
  cf := some (fileOf pool6 1 #[] #[] 1537 3 #[] #[])
  fields := #[]
  methods := #[]
  instanceTypes := #[]
  staticTypes := #[]
  resolved := Array.replicate 37 none
  statics := none }

def pool7 : Array CpInfo := pool [(1, .methodref 2 3), (0, .class_ 4), (0, .nameAndType 5 6), (0, u "java/lang/Object"), (0, u "<init>"), (0, u "()V"), (2, .fieldref 10 11), (0, .class_ 12), (0, .nameAndType 13 14), (0, u "java/lang/String"), (0, u "value"), (0, u "[B"), (0, .fieldref 10 16), (0, .nameAndType 17 18), (0, u "coder"), (0, u "B"), (2, u "hash"), (0, u "I"), (2, u "hashIsZero"), (0, u "Z"), (0, .methodref 10 28), (0, .nameAndType 5 29), (0, u "([CIILjava/lang/Void;)V"), (8, .fieldref 10 39), (0, .nameAndType 40 26), (0, u "COMPACT_STRINGS"), (1, .class_ 44), (1, u "java/lang/StringUTF16"), (0, u "compress"), (1, .methodref 42 48), (0, .nameAndType 49 50), (0, u "coderFromArrayLen"), (0, u "([BI)B"), (126, .methodref 42 178), (0, .nameAndType 45 179), (0, u "([CII)[B"), (363, u "equals"), (29, u "(Ljava/lang/Object;)Z"), (1, .class_ 576), (0, u "java/lang/CharSequence"), (22, u "CASE_INSENSITIVE_ORDER"), (0, u "Ljava/util/Comparator;"), (409, u "([C)V"), (90, u "serialPersistentFields"), (0, u "[Ljava/io/ObjectStreamField;"), (0, .class_ 1104), (0, u "java/lang/String$CaseInsensitiveComparator"), (1, .class_ 1107), (0, u "java/io/Serializable"), (0, .class_ 1109), (0, u "java/lang/Comparable"), (0, .class_ 1111), (0, u "java/lang/constant/Constable"), (0, .class_ 1113), (0, u "java/lang/constant/ConstantDesc"), (2, u "serialVersionUID"), (0, u "J"), (3, u "REPL"), (0, u "C"), (2, u "LATIN1"), (1, u "UTF16")] 323

def k7m0 : Method := { name := "<init>", desc := "()V", sig := { parameters := [], returnType := none }, accessFlags := 1, code := none }
def k7c1 : Code := { maxStack := 5, maxLocals := 2, code := jdk_42_method_3_code, exceptionTable := #[], attributes := #[] }
def k7m1 : Method := { name := "<init>", desc := "([C)V", sig := { parameters := [(.array .char)], returnType := none }, accessFlags := 1, code := some k7c1 }
def k7c2 : Code := { maxStack := 2, maxLocals := 3, code := jdk_42_method_66_code, exceptionTable := #[], attributes := #[] }
def k7m2 : Method := { name := "equals", desc := "(Ljava/lang/Object;)Z", sig := { parameters := [(.object "java/lang/Object")], returnType := some .boolean }, accessFlags := 1, code := some k7c2 }
def k7c3 : Code := { maxStack := 4, maxLocals := 6, code := jdk_42_method_149_code, exceptionTable := #[], attributes := #[] }
def k7m3 : Method := { name := "<init>", desc := "([CIILjava/lang/Void;)V", sig := { parameters := [(.array .char), .int, .int, (.object "java/lang/Void")], returnType := none }, accessFlags := 2, code := some k7c3 }
/-- java/lang/String -/
def k7 : Class := { plain "java/lang/String" (some 0) with
  accessFlags := 49
  interfaces := #[2, 3, 4, 5, 6]
  cf := some (fileOf pool7 10 #[.nestMembers #[1103]] #[{ accessFlags := 1, nameIndex := 5, descriptorIndex := 6, attributes := #[] }, { accessFlags := 1, nameIndex := 5, descriptorIndex := 1010, attributes := #[] }, { accessFlags := 1, nameIndex := 543, descriptorIndex := 573, attributes := #[] }, { accessFlags := 2, nameIndex := 5, descriptorIndex := 29, attributes := #[] }] 49 2 #[1106, 1108, 575, 1110, 1112] #[{ accessFlags := 18, nameIndex := 13, descriptorIndex := 14, attributes := #[] }, { accessFlags := 18, nameIndex := 17, descriptorIndex := 18, attributes := #[] }, { accessFlags := 2, nameIndex := 21, descriptorIndex := 22, attributes := #[] }, { accessFlags := 2, nameIndex := 25, descriptorIndex := 26, attributes := #[] }, { accessFlags := 26, nameIndex := 1116, descriptorIndex := 1117, attributes := #[] }, { accessFlags := 24, nameIndex := 40, descriptorIndex := 26, attributes := #[] }, { accessFlags := 26, nameIndex := 1101, descriptorIndex := 1102, attributes := #[] }, { accessFlags := 26, nameIndex := 1121, descriptorIndex := 1122, attributes := #[] }, { accessFlags := 25, nameIndex := 599, descriptorIndex := 600, attributes := #[] }, { accessFlags := 24, nameIndex := 1125, descriptorIndex := 18, attributes := #[] }, { accessFlags := 24, nameIndex := 1127, descriptorIndex := 18, attributes := #[] }])
  fields := #[{ name := "value", type := (.array .byte), accessFlags := 18, slot := 0, constantValue := 0 }, { name := "coder", type := .byte, accessFlags := 18, slot := 1, constantValue := 0 }, { name := "hash", type := .int, accessFlags := 2, slot := 2, constantValue := 0 }, { name := "hashIsZero", type := .boolean, accessFlags := 2, slot := 3, constantValue := 0 }, { name := "serialVersionUID", type := .long, accessFlags := 26, slot := 0, constantValue := 0 }, { name := "COMPACT_STRINGS", type := .boolean, accessFlags := 24, slot := 1, constantValue := 0 }, { name := "serialPersistentFields", type := (.array (.object "java/io/ObjectStreamField")), accessFlags := 26, slot := 2, constantValue := 0 }, { name := "REPL", type := .char, accessFlags := 26, slot := 3, constantValue := 0 }, { name := "CASE_INSENSITIVE_ORDER", type := (.object "java/util/Comparator"), accessFlags := 25, slot := 4, constantValue := 0 }, { name := "LATIN1", type := .byte, accessFlags := 24, slot := 5, constantValue := 0 }, { name := "UTF16", type := .byte, accessFlags := 24, slot := 6, constantValue := 0 }]
  methods := #[k7m0, k7m1, k7m2, k7m3]
  instanceTypes := #[(.array .byte), .byte, .int, .boolean]
  staticTypes := #[.long, .boolean, (.array (.object "java/io/ObjectStreamField")), .char, (.object "java/util/Comparator"), .byte, .byte]
  resolved := Array.replicate 1451 none
  statics := some 0 }

def pool8 : Array CpInfo := pool [(6, .class_ 8), (1, u "java/lang/Object"), (0, u "<init>"), (0, u "()V"), (1, .class_ 14), (1, u "java/lang/StringUTF16"), (31, u "$assertionsDisabled"), (0, u "Z"), (13, u "HI_BYTE_SHIFT"), (0, u "I"), (2, u "LO_BYTE_SHIFT"), (49, .methodref 12 116), (0, .nameAndType 117 118), (0, u "compress"), (0, u "([CI[BII)I"), (3, u "([CII)[B"), (138, u "coderFromArrayLen"), (0, u "([BI)B"), (106, .class_ 371), (1, u "java/lang/StringUTF16$LinesSpliterator"), (58, u "MAX_LENGTH"), (196, .class_ 628), (0, u "java/lang/StringUTF16$CodePointsSpliterator"), (0, .class_ 630), (0, u "java/lang/StringUTF16$CharsSpliterator")] 4

def k8m0 : Method := { name := "<init>", desc := "()V", sig := { parameters := [], returnType := none }, accessFlags := 0, code := none }
def k8c1 : Code := { maxStack := 2, maxLocals := 2, code := jdk_52_method_15_code, exceptionTable := #[], attributes := #[] }
def k8m1 : Method := { name := "coderFromArrayLen", desc := "([BI)B", sig := { parameters := [(.array .byte), .int], returnType := some .byte }, accessFlags := 8, code := some k8c1 }
def k8c2 : Code := { maxStack := 5, maxLocals := 6, code := jdk_52_method_16_code, exceptionTable := #[], attributes := #[] }
def k8m2 : Method := { name := "compress", desc := "([CII)[B", sig := { parameters := [(.array .char), .int, .int], returnType := some (.array .byte) }, accessFlags := 9, code := some k8c2 }
def k8c3 : Code := { maxStack := 3, maxLocals := 7, code := jdk_52_method_21_code, exceptionTable := #[], attributes := #[] }
def k8m3 : Method := { name := "compress", desc := "([CI[BII)I", sig := { parameters := [(.array .char), .int, (.array .byte), .int, .int], returnType := some .int }, accessFlags := 9, code := some k8c3 }
/-- java/lang/StringUTF16 -/
def k8 : Class := { plain "java/lang/StringUTF16" (some 0) with
  accessFlags := 48
  interfaces := #[]
  cf := some (fileOf pool8 12 #[.nestMembers #[627, 629, 369]] #[{ accessFlags := 0, nameIndex := 9, descriptorIndex := 10, attributes := #[] }, { accessFlags := 8, nameIndex := 261, descriptorIndex := 262, attributes := #[] }, { accessFlags := 9, nameIndex := 117, descriptorIndex := 122, attributes := #[] }, { accessFlags := 9, nameIndex := 117, descriptorIndex := 118, attributes := #[] }] 48 6 #[] #[{ accessFlags := 26, nameIndex := 61, descriptorIndex := 62, attributes := #[] }, { accessFlags := 26, nameIndex := 65, descriptorIndex := 62, attributes := #[] }, { accessFlags := 24, nameIndex := 430, descriptorIndex := 62, attributes := #[] }, { accessFlags := 4120, nameIndex := 46, descriptorIndex := 47, attributes := #[] }])
  fields := #[{ name := "HI_BYTE_SHIFT", type := .int, accessFlags := 26, slot := 0, constantValue := 0 }, { name := "LO_BYTE_SHIFT", type := .int, accessFlags := 26, slot := 1, constantValue := 0 }, { name := "MAX_LENGTH", type := .int, accessFlags := 24, slot := 2, constantValue := 0 }, { name := "$assertionsDisabled", type := .boolean, accessFlags := 4120, slot := 3, constantValue := 0 }]
  methods := #[k8m0, k8m1, k8m2, k8m3]
  instanceTypes := #[]
  staticTypes := #[.int, .int, .int, .boolean]
  resolved := Array.replicate 635 none
  statics := none }

def pool9 : Array CpInfo := pool [(8, .class_ 10), (1, u "java/lang/Iterable"), (24, .class_ 36), (0, u "java/lang/Object")] 25

/-- java/lang/Iterable -/
def k9 : Class := { plain "java/lang/Iterable" (some 0) with
  accessFlags := 1537
  interfaces := #[]
  cf := some (fileOf pool9 8 #[] #[] 1537 35 #[] #[])
  fields := #[]
  methods := #[]
  instanceTypes := #[]
  staticTypes := #[]
  resolved := Array.replicate 62 none
  statics := none }

def pool10 : Array CpInfo := pool [(10, .class_ 12), (1, u "java/util/Collection"), (47, .class_ 61), (0, u "java/lang/Object"), (0, .class_ 63), (0, u "java/lang/Iterable")] 51

/-- java/util/Collection -/
def k10 : Class := { plain "java/util/Collection" (some 0) with
  accessFlags := 1537
  interfaces := #[9]
  cf := some (fileOf pool10 10 #[] #[] 1537 60 #[62] #[])
  fields := #[]
  methods := #[]
  instanceTypes := #[]
  staticTypes := #[]
  resolved := Array.replicate 115 none
  statics := none }

def pool11 : Array CpInfo := pool [(1, .methodref 2 3), (0, .class_ 4), (0, .nameAndType 5 6), (0, u "java/lang/Object"), (0, u "<init>"), (0, u "()V"), (1, .class_ 10), (1, u "java/util/AbstractCollection"), (66, .class_ 78), (0, u "java/util/Collection")] 81

def k11c0 : Code := { maxStack := 1, maxLocals := 1, code := jdk_22_method_1_code, exceptionTable := #[], attributes := #[] }
def k11m0 : Method := { name := "<init>", desc := "()V", sig := { parameters := [], returnType := none }, accessFlags := 4, code := some k11c0 }
/-- java/util/AbstractCollection -/
def k11 : Class := { plain "java/util/AbstractCollection" (some 0) with
  accessFlags := 1057
  interfaces := #[10]
  cf := some (fileOf pool11 8 #[] #[{ accessFlags := 4, nameIndex := 5, descriptorIndex := 6, attributes := #[] }] 1057 2 #[77] #[])
  fields := #[]
  methods := #[k11m0]
  instanceTypes := #[]
  staticTypes := #[]
  resolved := Array.replicate 160 none
  statics := none }

def pool12 : Array CpInfo := pool [(8, .class_ 10), (1, u "java/util/SequencedCollection"), (15, .class_ 27), (0, u "java/lang/Object"), (0, .class_ 29), (0, u "java/util/Collection")] 27

/-- java/util/SequencedCollection -/
def k12 : Class := { plain "java/util/SequencedCollection" (some 0) with
  accessFlags := 1537
  interfaces := #[10]
  cf := some (fileOf pool12 8 #[] #[] 1537 26 #[28] #[])
  fields := #[]
  methods := #[]
  instanceTypes := #[]
  staticTypes := #[]
  resolved := Array.replicate 57 none
  statics := none }

def pool13 : Array CpInfo := pool [(8, .class_ 10), (1, u "java/util/List"), (20, u "(Ljava/lang/Object;)V"), (16, u "<init>"), (26, u "get"), (0, u "(I)Ljava/lang/Object;"), (2, u "size"), (0, u "()I"), (7, u "of"), (1, .fieldref 91 92), (0, .class_ 93), (0, .nameAndType 94 95), (0, u "java/util/ImmutableCollections"), (0, u "EMPTY_LIST"), (0, u "Ljava/util/ImmutableCollections$ListN;"), (0, .class_ 97), (0, u "java/util/ImmutableCollections$List12"), (0, .methodref 96 99), (0, .nameAndType 48 31), (3, .class_ 104), (0, u "java/lang/Object"), (14, u "()Ljava/util/List;"), (0, .class_ 121), (0, u "java/util/SequencedCollection"), (76, u "(Ljava/lang/Object;)Ljava/util/List;")] 52

def k13m0 : Method := { name := "size", desc := "()I", sig := { parameters := [], returnType := some .int }, accessFlags := 1025, code := none }
def k13m1 : Method := { name := "get", desc := "(I)Ljava/lang/Object;", sig := { parameters := [.int], returnType := some (.object "java/lang/Object") }, accessFlags := 1025, code := none }
def k13c2 : Code := { maxStack := 1, maxLocals := 0, code := jdk_40_method_36_code, exceptionTable := #[], attributes := #[] }
def k13m2 : Method := { name := "of", desc := "()Ljava/util/List;", sig := { parameters := [], returnType := some (.object "java/util/List") }, accessFlags := 9, code := some k13c2 }
def k13c3 : Code := { maxStack := 3, maxLocals := 1, code := jdk_40_method_37_code, exceptionTable := #[], attributes := #[] }
def k13m3 : Method := { name := "of", desc := "(Ljava/lang/Object;)Ljava/util/List;", sig := { parameters := [(.object "java/lang/Object")], returnType := some (.object "java/util/List") }, accessFlags := 9, code := some k13c3 }
/-- java/util/List -/
def k13 : Class := { plain "java/util/List" (some 0) with
  accessFlags := 1537
  interfaces := #[12]
  cf := some (fileOf pool13 8 #[] #[{ accessFlags := 1025, nameIndex := 79, descriptorIndex := 80, attributes := #[] }, { accessFlags := 1025, nameIndex := 75, descriptorIndex := 76, attributes := #[] }, { accessFlags := 9, nameIndex := 88, descriptorIndex := 119, attributes := #[] }, { accessFlags := 9, nameIndex := 88, descriptorIndex := 198, attributes := #[] }] 1537 103 #[120] #[])
  fields := #[]
  methods := #[k13m0, k13m1, k13m2, k13m3]
  instanceTypes := #[]
  staticTypes := #[]
  resolved := Array.replicate 251 none
  statics := none }

def pool14 : Array CpInfo := pool [(1, .methodref 2 3), (0, .class_ 4), (0, .nameAndType 5 6), (0, u "java/util/AbstractCollection"), (0, u "<init>"), (0, u "()V"), (0, .fieldref 8 9), (0, .class_ 10), (0, .nameAndType 11 12), (0, u "java/util/AbstractList"), (0, u "modCount"), (0, u "I"), (64, .class_ 78), (0, u "java/util/AbstractList$Itr"), (3, .class_ 83), (0, u "java/util/AbstractList$ListItr"), (9, .class_ 94), (0, u "java/util/AbstractList$RandomAccessSubList"), (3, .class_ 99), (0, u "java/util/AbstractList$SubList"), (33, .class_ 134), (0, u "java/util/List"), (73, .class_ 209), (0, u "java/util/AbstractList$SubList$1"), (0, .class_ 211), (0, u "java/util/AbstractList$RandomAccessSpliterator")] 6

def k14c0 : Code := { maxStack := 2, maxLocals := 1, code := jdk_39_method_1_code, exceptionTable := #[], attributes := #[] }
def k14m0 : Method := { name := "<init>", desc := "()V", sig := { parameters := [], returnType := none }, accessFlags := 4, code := some k14c0 }
/-- java/util/AbstractList -/
def k14 : Class := { plain "java/util/AbstractList" (some 11) with
  accessFlags := 1057
  interfaces := #[13]
  cf := some (fileOf pool14 8 #[.nestMembers #[93, 98, 208, 210, 82, 77]] #[{ accessFlags := 4, nameIndex := 5, descriptorIndex := 6, attributes := #[] }] 1057 2 #[133] #[{ accessFlags := 132, nameIndex := 11, descriptorIndex := 12, attributes := #[] }])
  fields := #[{ name := "modCount", type := .int, accessFlags := 132, slot := 0, constantValue := 0 }]
  methods := #[k14m0]
  instanceTypes := #[.int]
  staticTypes := #[]
  resolved := Array.replicate 218 none
  statics := none }

def pool15 : Array CpInfo := pool [(1, .class_ 2), (0, u "java/util/RandomAccess"), (0, .class_ 4), (0, u "java/lang/Object")] 2

/-- java/util/RandomAccess -/
def k15 : Class := { plain "java/util/RandomAccess" (some 0) with
  accessFlags := 1537
  interfaces := #[]
  cf := some (fileOf pool15 1 #[] #[] 1537 3 #[] #[])
  fields := #[]
  methods := #[]
  instanceTypes := #[]
  staticTypes := #[]
  resolved := Array.replicate 7 none
  statics := none }

def pool16 : Array CpInfo := pool [(1, .class_ 2), (0, u "java/lang/Cloneable"), (0, .class_ 4), (0, u "java/lang/Object")] 2

/-- java/lang/Cloneable -/
def k16 : Class := { plain "java/lang/Cloneable" (some 0) with
  accessFlags := 1537
  interfaces := #[]
  cf := some (fileOf pool16 1 #[] #[] 1537 3 #[] #[])
  fields := #[]
  methods := #[]
  instanceTypes := #[]
  staticTypes := #[]
  resolved := Array.replicate 7 none
  statics := none }

def pool17 : Array CpInfo := pool [(1, .methodref 2 3), (0, .class_ 4), (0, .nameAndType 5 6), (0, u "java/util/AbstractList"), (0, u "<init>"), (0, u "()V"), (0, .class_ 8), (0, u "java/lang/Object"), (0, .fieldref 10 11), (0, .class_ 12), (0, .nameAndType 13 14), (0, u "java/util/ArrayList"), (0, u "elementData"), (0, u "[Ljava/lang/Object;"), (2, u "EMPTY_ELEMENTDATA"), (21, .fieldref 10 40), (0, .nameAndType 41 14), (0, u "DEFAULTCAPACITY_EMPTY_ELEMENTDATA"), (5, u "()[Ljava/lang/Object;"), (0, .fieldref 10 49), (0, .nameAndType 50 51), (0, u "size"), (0, u "I"), (11, .fieldref 10 64), (0, .nameAndType 65 51), (0, u "modCount"), (3, .methodref 10 70), (0, .nameAndType 71 72), (0, u "grow"), (0, u "(I)[Ljava/lang/Object;"), (6, .methodref 80 81), (0, .class_ 82), (0, .nameAndType 83 84), (0, u "java/lang/Math"), (0, u "max"), (0, u "(II)I"), (11, u "(Ljava/lang/Object;)Z"), (21, .methodref 119 120), (0, .class_ 121), (0, .nameAndType 122 84), (0, u "java/util/Objects"), (0, u "checkIndex"), (0, .methodref 10 124), (0, .nameAndType 13 125), (0, u "(I)Ljava/lang/Object;"), (3, .methodref 10 130), (0, .nameAndType 71 47), (0, .methodref 10 132), (0, .nameAndType 133 134), (0, u "add"), (0, u "(Ljava/lang/Object;[Ljava/lang/Object;I)V"), (13, .class_ 149), (0, u "java/util/List"), (112, .class_ 263), (0, u "java/util/ArrayList$ListItr"), (3, .class_ 268), (0, u "java/util/ArrayList$Itr"), (7, .class_ 277), (0, u "java/util/ArrayList$SubList"), (12, .class_ 291), (0, u "java/util/ArrayList$ArrayListSpliterator"), (37, .class_ 330), (0, u "java/util/RandomAccess"), (0, .class_ 332), (0, u "java/lang/Cloneable"), (0, .class_ 334), (0, u "java/io/Serializable"), (0, u "serialVersionUID"), (0, u "J"), (3, u "DEFAULT_CAPACITY"), (40, u "get"), (118, .class_ 501), (0, u "java/util/ArrayList$SubList$2"), (0, .class_ 503), (0, u "java/util/ArrayList$SubList$1")] 5

def k17c0 : Code := { maxStack := 2, maxLocals := 1, code := jdk_38_method_2_code, exceptionTable := #[], attributes := #[] }
def k17m0 : Method := { name := "<init>", desc := "()V", sig := { parameters := [], returnType := none }, accessFlags := 1, code := some k17c0 }
def k17c1 : Code := { maxStack := 4, maxLocals := 4, code := jdk_38_method_6_code, exceptionTable := #[], attributes := #[] }
def k17m1 : Method := { name := "grow", desc := "(I)[Ljava/lang/Object;", sig := { parameters := [.int], returnType := some (.array (.object "java/lang/Object")) }, accessFlags := 2, code := some k17c1 }
def k17c2 : Code := { maxStack := 3, maxLocals := 1, code := jdk_38_method_7_code, exceptionTable := #[], attributes := #[] }
def k17m2 : Method := { name := "grow", desc := "()[Ljava/lang/Object;", sig := { parameters := [], returnType := some (.array (.object "java/lang/Object")) }, accessFlags := 2, code := some k17c2 }
def k17c3 : Code := { maxStack := 2, maxLocals := 2, code := jdk_38_method_18_code, exceptionTable := #[], attributes := #[] }
def k17m3 : Method := { name := "elementData", desc := "(I)Ljava/lang/Object;", sig := { parameters := [.int], returnType := some (.object "java/lang/Object") }, accessFlags := 0, code := some k17c3 }
def k17c4 : Code := { maxStack := 2, maxLocals := 2, code := jdk_38_method_20_code, exceptionTable := #[], attributes := #[] }
def k17m4 : Method := { name := "get", desc := "(I)Ljava/lang/Object;", sig := { parameters := [.int], returnType := some (.object "java/lang/Object") }, accessFlags := 1, code := some k17c4 }
def k17c5 : Code := { maxStack := 3, maxLocals := 4, code := jdk_38_method_24_code, exceptionTable := #[], attributes := #[] }
def k17m5 : Method := { name := "add", desc := "(Ljava/lang/Object;[Ljava/lang/Object;I)V", sig := { parameters := [(.object "java/lang/Object"), (.array (.object "java/lang/Object")), .int], returnType := none }, accessFlags := 2, code := some k17c5 }
def k17c6 : Code := { maxStack := 4, maxLocals := 2, code := jdk_38_method_25_code, exceptionTable := #[], attributes := #[] }
def k17m6 : Method := { name := "add", desc := "(Ljava/lang/Object;)Z", sig := { parameters := [(.object "java/lang/Object")], returnType := some .boolean }, accessFlags := 1, code := some k17c6 }
/-- java/util/ArrayList -/
def k17 : Class := { plain "java/util/ArrayList" (some 14) with
  accessFlags := 33
  interfaces := #[13, 15, 16, 2]
  cf := some (fileOf pool17 10 #[.nestMembers #[290, 276, 500, 502, 262, 267]] #[{ accessFlags := 1, nameIndex := 5, descriptorIndex := 6, attributes := #[] }, { accessFlags := 2, nameIndex := 71, descriptorIndex := 72, attributes := #[] }, { accessFlags := 2, nameIndex := 71, descriptorIndex := 47, attributes := #[] }, { accessFlags := 0, nameIndex := 13, descriptorIndex := 125, attributes := #[] }, { accessFlags := 1, nameIndex := 381, descriptorIndex := 125, attributes := #[] }, { accessFlags := 2, nameIndex := 133, descriptorIndex := 134, attributes := #[] }, { accessFlags := 1, nameIndex := 133, descriptorIndex := 96, attributes := #[] }] 33 2 #[148, 329, 331, 333] #[{ accessFlags := 26, nameIndex := 335, descriptorIndex := 336, attributes := #[] }, { accessFlags := 26, nameIndex := 340, descriptorIndex := 51, attributes := #[] }, { accessFlags := 26, nameIndex := 17, descriptorIndex := 14, attributes := #[] }, { accessFlags := 26, nameIndex := 41, descriptorIndex := 14, attributes := #[] }, { accessFlags := 128, nameIndex := 13, descriptorIndex := 14, attributes := #[] }, { accessFlags := 2, nameIndex := 50, descriptorIndex := 51, attributes := #[] }])
  fields := #[{ name := "serialVersionUID", type := .long, accessFlags := 26, slot := 0, constantValue := 0 }, { name := "DEFAULT_CAPACITY", type := .int, accessFlags := 26, slot := 1, constantValue := 0 }, { name := "EMPTY_ELEMENTDATA", type := (.array (.object "java/lang/Object")), accessFlags := 26, slot := 2, constantValue := 0 }, { name := "DEFAULTCAPACITY_EMPTY_ELEMENTDATA", type := (.array (.object "java/lang/Object")), accessFlags := 26, slot := 3, constantValue := 0 }, { name := "elementData", type := (.array (.object "java/lang/Object")), accessFlags := 128, slot := 1, constantValue := 0 }, { name := "size", type := .int, accessFlags := 2, slot := 2, constantValue := 0 }]
  methods := #[k17m0, k17m1, k17m2, k17m3, k17m4, k17m5, k17m6]
  instanceTypes := #[.int, (.array (.object "java/lang/Object")), .int]
  staticTypes := #[.long, .int, (.array (.object "java/lang/Object")), (.array (.object "java/lang/Object"))]
  resolved := Array.replicate 509 none
  statics := some 1 }

def pool18 : Array CpInfo := pool [(1, .class_ 2), (0, u "java/lang/Math"), (1, .class_ 6), (1, u "java/lang/Object"), (0, u "<init>"), (0, u "()V"), (89, .class_ 100), (1, u "java/lang/Math$RandomNumberGeneratorHolder"), (71, u "negativeZeroFloatBits"), (0, u "J"), (2, u "negativeZeroDoubleBits"), (21, u "max"), (46, u "$assertionsDisabled"), (0, u "Z"), (88, u "(II)I"), (2, u "twoToTheDoubleScaleDown"), (0, u "D"), (4, u "twoToTheDoubleScaleUp"), (9, u "E"), (3, u "PI"), (2, u "TAU"), (2, u "DEGREES_TO_RADIANS"), (0, u "RADIANS_TO_DEGREES")] 94

def k18m0 : Method := { name := "<init>", desc := "()V", sig := { parameters := [], returnType := none }, accessFlags := 2, code := none }
def k18c1 : Code := { maxStack := 2, maxLocals := 2, code := jdk_29_method_65_code, exceptionTable := #[], attributes := #[] }
def k18m1 : Method := { name := "max", desc := "(II)I", sig := { parameters := [.int, .int], returnType := some .int }, accessFlags := 9, code := some k18c1 }
/-- java/lang/Math -/
def k18 : Class := { plain "java/lang/Math" (some 0) with
  accessFlags := 49
  interfaces := #[]
  cf := some (fileOf pool18 1 #[.nestMembers #[98]] #[{ accessFlags := 2, nameIndex := 7, descriptorIndex := 8, attributes := #[] }, { accessFlags := 9, nameIndex := 198, descriptorIndex := 335, attributes := #[] }] 49 4 #[] #[{ accessFlags := 25, nameIndex := 354, descriptorIndex := 339, attributes := #[] }, { accessFlags := 25, nameIndex := 358, descriptorIndex := 339, attributes := #[] }, { accessFlags := 25, nameIndex := 361, descriptorIndex := 339, attributes := #[] }, { accessFlags := 26, nameIndex := 364, descriptorIndex := 339, attributes := #[] }, { accessFlags := 26, nameIndex := 365, descriptorIndex := 339, attributes := #[] }, { accessFlags := 26, nameIndex := 172, descriptorIndex := 173, attributes := #[] }, { accessFlags := 26, nameIndex := 176, descriptorIndex := 173, attributes := #[] }, { accessFlags := 8, nameIndex := 344, descriptorIndex := 339, attributes := #[] }, { accessFlags := 8, nameIndex := 338, descriptorIndex := 339, attributes := #[] }, { accessFlags := 4120, nameIndex := 245, descriptorIndex := 246, attributes := #[] }])
  fields := #[{ name := "E", type := .double, accessFlags := 25, slot := 0, constantValue := 0 }, { name := "PI", type := .double, accessFlags := 25, slot := 1, constantValue := 0 }, { name := "TAU", type := .double, accessFlags := 25, slot := 2, constantValue := 0 }, { name := "DEGREES_TO_RADIANS", type := .double, accessFlags := 26, slot := 3, constantValue := 0 }, { name := "RADIANS_TO_DEGREES", type := .double, accessFlags := 26, slot := 4, constantValue := 0 }, { name := "negativeZeroFloatBits", type := .long, accessFlags := 26, slot := 5, constantValue := 0 }, { name := "negativeZeroDoubleBits", type := .long, accessFlags := 26, slot := 6, constantValue := 0 }, { name := "twoToTheDoubleScaleUp", type := .double, accessFlags := 8, slot := 7, constantValue := 0 }, { name := "twoToTheDoubleScaleDown", type := .double, accessFlags := 8, slot := 8, constantValue := 0 }, { name := "$assertionsDisabled", type := .boolean, accessFlags := 4120, slot := 9, constantValue := 0 }]
  methods := #[k18m0, k18m1]
  instanceTypes := #[]
  staticTypes := #[.double, .double, .double, .double, .double, .long, .long, .double, .double, .boolean]
  resolved := Array.replicate 460 none
  statics := none }

def pool19 : Array CpInfo := pool [(1, .class_ 2), (0, u "com/example/dvarapala/dvarapala/queue/TurnRule"), (0, .class_ 4), (0, u "java/lang/Object")] 12

/-- com/example/dvarapala/dvarapala/queue/TurnRule -/
def k19 : Class := { plain "com/example/dvarapala/dvarapala/queue/TurnRule" (some 0) with
  accessFlags := 1537
  interfaces := #[]
  cf := some (fileOf pool19 1 #[] #[] 1537 3 #[] #[])
  fields := #[]
  methods := #[]
  instanceTypes := #[]
  staticTypes := #[]
  resolved := Array.replicate 17 none
  statics := none }

def pool20 : Array CpInfo := pool [(1, .methodref 2 3), (0, .class_ 4), (0, .nameAndType 5 6), (0, u "java/lang/Object"), (0, u "<init>"), (0, u "()V"), (0, .fieldref 8 9), (0, .class_ 10), (0, .nameAndType 11 12), (0, u "com/example/dvarapala/dvarapala/lock/ExclusiveRule"), (0, u "nodePrefix"), (0, u "Ljava/lang/String;"), (0, .interfaceMethodref 14 15), (0, .class_ 16), (0, .nameAndType 17 18), (0, u "java/util/List"), (0, u "of"), (0, u "()Ljava/util/List;"), (0, .interfaceMethodref 14 20), (0, .nameAndType 21 22), (0, u "get"), (0, u "(I)Ljava/lang/Object;"), (0, .class_ 24), (0, u "java/lang/String"), (0, .interfaceMethodref 14 26), (0, .nameAndType 17 27), (0, u "(Ljava/lang/Object;)Ljava/util/List;"), (0, .class_ 29), (0, u "com/example/dvarapala/dvarapala/queue/TurnRule"), (0, u "(Ljava/lang/String;)V"), (3, u "blockers"), (0, u "(Ljava/util/List;I)Ljava/util/List;")] 5

def k20c0 : Code := { maxStack := 2, maxLocals := 2, code := prog_5_method_1_code, exceptionTable := #[], attributes := #[] }
def k20m0 : Method := { name := "<init>", desc := "(Ljava/lang/String;)V", sig := { parameters := [(.object "java/lang/String")], returnType := none }, accessFlags := 0, code := some k20c0 }
def k20c1 : Code := { maxStack := 3, maxLocals := 4, code := prog_5_method_3_code, exceptionTable := #[], attributes := #[] }
def k20m1 : Method := { name := "blockers", desc := "(Ljava/util/List;I)Ljava/util/List;", sig := { parameters := [(.object "java/util/List"), .int], returnType := some (.object "java/util/List") }, accessFlags := 1, code := some k20c1 }
/-- com/example/dvarapala/dvarapala/lock/ExclusiveRule -/
def k20 : Class := { plain "com/example/dvarapala/dvarapala/lock/ExclusiveRule" (some 0) with
  accessFlags := 32
  interfaces := #[19]
  cf := some (fileOf pool20 8 #[] #[{ accessFlags := 0, nameIndex := 5, descriptorIndex := 30, attributes := #[] }, { accessFlags := 1, nameIndex := 34, descriptorIndex := 35, attributes := #[] }] 32 2 #[28] #[{ accessFlags := 18, nameIndex := 11, descriptorIndex := 12, attributes := #[] }])
  fields := #[{ name := "nodePrefix", type := (.object "java/lang/String"), accessFlags := 18, slot := 0, constantValue := 0 }]
  methods := #[k20m0, k20m1]
  instanceTypes := #[(.object "java/lang/String")]
  staticTypes := #[]
  resolved := Array.replicate 41 none
  statics := none }

def pool21 : Array CpInfo := pool [(2, .class_ 4), (1, u "java/lang/Object"), (0, u "<init>"), (0, u "()V"), (35, .class_ 44), (1, u "java/util/Objects"), (0, u "requireNonNull"), (0, u "(Ljava/lang/Object;)Ljava/lang/Object;"), (58, .methodref 106 107), (0, .class_ 108), (0, .nameAndType 109 110), (0, u "jdk/internal/util/Preconditions"), (0, u "checkIndex"), (0, u "(IILjava/util/function/BiFunction;)I"), (60, u "(II)I")] 12

def k21m0 : Method := { name := "<init>", desc := "()V", sig := { parameters := [], returnType := none }, accessFlags := 2, code := none }
def k21c1 : Code := { maxStack := 2, maxLocals := 1, code := jdk_31_method_10_code, exceptionTable := #[], attributes := #[] }
def k21m1 : Method := { name := "requireNonNull", desc := "(Ljava/lang/Object;)Ljava/lang/Object;", sig := { parameters := [(.object "java/lang/Object")], returnType := some (.object "java/lang/Object") }, accessFlags := 9, code := some k21c1 }
def k21c2 : Code := { maxStack := 3, maxLocals := 2, code := jdk_31_method_17_code, exceptionTable := #[], attributes := #[] }
def k21m2 : Method := { name := "checkIndex", desc := "(II)I", sig := { parameters := [.int, .int], returnType := some .int }, accessFlags := 9, code := some k21c2 }
/-- java/util/Objects -/
def k21 : Class := { plain "java/util/Objects" (some 0) with
  accessFlags := 49
  interfaces := #[]
  cf := some (fileOf pool21 42 #[] #[{ accessFlags := 2, nameIndex := 5, descriptorIndex := 6, attributes := #[] }, { accessFlags := 9, nameIndex := 45, descriptorIndex := 46, attributes := #[] }, { accessFlags := 9, nameIndex := 109, descriptorIndex := 171, attributes := #[] }] 49 2 #[] #[])
  fields := #[]
  methods := #[k21m0, k21m1, k21m2]
  instanceTypes := #[]
  staticTypes := #[]
  resolved := Array.replicate 184 none
  statics := none }

def pool22 : Array CpInfo := pool [(2, .class_ 4), (1, u "java/lang/Object"), (0, u "<init>"), (0, u "()V"), (17, .class_ 26), (1, u "jdk/internal/util/Preconditions"), (6, u "checkIndex"), (21, .class_ 56), (0, u "jdk/internal/util/Preconditions$4"), (57, .class_ 115), (0, u "jdk/internal/util/Preconditions$1"), (7, u "SIOOBE_FORMATTER"), (0, u "Ljava/util/function/BiFunction;"), (0, .class_ 126), (0, u "jdk/internal/util/Preconditions$2"), (3, u "AIOOBE_FORMATTER"), (0, .class_ 132), (0, u "jdk/internal/util/Preconditions$3"), (3, u "IOOBE_FORMATTER"), (41, u "(IILjava/util/function/BiFunction;)I")] 15

def k22m0 : Method := { name := "<init>", desc := "()V", sig := { parameters := [], returnType := none }, accessFlags := 1, code := none }
def k22c1 : Code := { maxStack := 3, maxLocals := 3, code := jdk_41_method_11_code, exceptionTable := #[], attributes := #[] }
def k22m1 : Method := { name := "checkIndex", desc := "(IILjava/util/function/BiFunction;)I", sig := { parameters := [.int, .int, (.object "java/util/function/BiFunction")], returnType := some .int }, accessFlags := 9, code := some k22c1 }
/-- jdk/internal/util/Preconditions -/
def k22 : Class := { plain "jdk/internal/util/Preconditions" (some 0) with
  accessFlags := 33
  interfaces := #[]
  cf := some (fileOf pool22 24 #[.nestMembers #[55, 131, 125, 114]] #[{ accessFlags := 1, nameIndex := 5, descriptorIndex := 6, attributes := #[] }, { accessFlags := 9, nameIndex := 33, descriptorIndex := 178, attributes := #[] }] 33 2 #[] #[{ accessFlags := 25, nameIndex := 123, descriptorIndex := 124, attributes := #[] }, { accessFlags := 25, nameIndex := 130, descriptorIndex := 124, attributes := #[] }, { accessFlags := 25, nameIndex := 136, descriptorIndex := 124, attributes := #[] }])
  fields := #[{ name := "SIOOBE_FORMATTER", type := (.object "java/util/function/BiFunction"), accessFlags := 25, slot := 0, constantValue := 0 }, { name := "AIOOBE_FORMATTER", type := (.object "java/util/function/BiFunction"), accessFlags := 25, slot := 1, constantValue := 0 }, { name := "IOOBE_FORMATTER", type := (.object "java/util/function/BiFunction"), accessFlags := 25, slot := 2, constantValue := 0 }]
  methods := #[k22m0, k22m1]
  instanceTypes := #[]
  staticTypes := #[(.object "java/util/function/BiFunction"), (.object "java/util/function/BiFunction"), (.object "java/util/function/BiFunction")]
  resolved := Array.replicate 194 none
  statics := some 2 }

def pool23 : Array CpInfo := pool [(1, .methodref 2 3), (0, .class_ 4), (0, .nameAndType 5 6), (0, u "java/util/AbstractCollection"), (0, u "<init>"), (0, u "()V"), (1, .class_ 10), (1, u "java/util/ImmutableCollections"), (2, .class_ 14), (0, u "java/util/ImmutableCollections$AbstractImmutableCollection")] 41

def k23c0 : Code := { maxStack := 1, maxLocals := 1, code := jdk_47_method_1_code, exceptionTable := #[], attributes := #[] }
def k23m0 : Method := { name := "<init>", desc := "()V", sig := { parameters := [], returnType := none }, accessFlags := 0, code := some k23c0 }
/-- java/util/ImmutableCollections$AbstractImmutableCollection -/
def k23 : Class := { plain "java/util/ImmutableCollections$AbstractImmutableCollection" (some 11) with
  accessFlags := 1056
  interfaces := #[]
  cf := some (fileOf pool23 13 #[.nestHost 8] #[{ accessFlags := 0, nameIndex := 5, descriptorIndex := 6, attributes := #[] }] 1056 2 #[] #[])
  fields := #[]
  methods := #[k23m0]
  instanceTypes := #[]
  staticTypes := #[]
  resolved := Array.replicate 56 none
  statics := none }

def pool24 : Array CpInfo := pool [(1, .methodref 2 3), (0, .class_ 4), (0, .nameAndType 5 6), (0, u "java/util/ImmutableCollections$AbstractImmutableCollection"), (0, u "<init>"), (0, u "()V"), (1, .class_ 10), (1, u "java/util/ImmutableCollections"), (3, .class_ 16), (1, u "java/util/ImmutableCollections$AbstractImmutableList"), (60, .class_ 78), (0, u "java/util/List"), (45, .class_ 125), (0, u "java/util/RandomAccess")] 70

def k24c0 : Code := { maxStack := 1, maxLocals := 1, code := jdk_46_method_1_code, exceptionTable := #[], attributes := #[] }
def k24m0 : Method := { name := "<init>", desc := "()V", sig := { parameters := [], returnType := none }, accessFlags := 0, code := some k24c0 }
/-- java/util/ImmutableCollections$AbstractImmutableList -/
def k24 : Class := { plain "java/util/ImmutableCollections$AbstractImmutableList" (some 23) with
  accessFlags := 1056
  interfaces := #[13, 15]
  cf := some (fileOf pool24 14 #[.nestHost 8] #[{ accessFlags := 0, nameIndex := 5, descriptorIndex := 6, attributes := #[] }] 1056 2 #[77, 124] #[])
  fields := #[]
  methods := #[k24m0]
  instanceTypes := #[]
  staticTypes := #[]
  resolved := Array.replicate 196 none
  statics := none }

def pool25 : Array CpInfo := pool [(1, .methodref 2 3), (0, .class_ 4), (0, .nameAndType 5 6), (0, u "java/util/ImmutableCollections$AbstractImmutableList"), (0, u "<init>"), (0, u "()V"), (0, .methodref 8 9), (0, .class_ 10), (0, .nameAndType 11 12), (0, u "java/util/Objects"), (0, u "requireNonNull"), (0, u "(Ljava/lang/Object;)Ljava/lang/Object;"), (0, .fieldref 14 15), (0, .class_ 16), (0, .nameAndType 17 18), (0, u "java/util/ImmutableCollections$List12"), (0, u "e0"), (0, u "Ljava/lang/Object;"), (0, .fieldref 20 21), (0, .class_ 22), (0, .nameAndType 23 18), (0, u "java/util/ImmutableCollections"), (0, u "EMPTY"), (0, .fieldref 14 25), (0, .nameAndType 26 18), (0, u "e1"), (24, u "size"), (0, u "()I"), (17, .class_ 71), (0, u "java/io/Serializable"), (4, u "(Ljava/lang/Object;)V"), (13, u "get"), (0, u "(I)Ljava/lang/Object;")] 33

def k25c0 : Code := { maxStack := 2, maxLocals := 2, code := jdk_44_method_1_code, exceptionTable := #[], attributes := #[] }
def k25m0 : Method := { name := "<init>", desc := "(Ljava/lang/Object;)V", sig := { parameters := [(.object "java/lang/Object")], returnType := none }, accessFlags := 0, code := some k25c0 }
def k25c1 : Code := { maxStack := 2, maxLocals := 1, code := jdk_44_method_3_code, exceptionTable := #[], attributes := #[] }
def k25m1 : Method := { name := "size", desc := "()I", sig := { parameters := [], returnType := some .int }, accessFlags := 1, code := some k25c1 }
def k25c2 : Code := { maxStack := 2, maxLocals := 2, code := jdk_44_method_5_code, exceptionTable := #[], attributes := #[] }
def k25m2 : Method := { name := "get", desc := "(I)Ljava/lang/Object;", sig := { parameters := [.int], returnType := some (.object "java/lang/Object") }, accessFlags := 1, code := some k25c2 }
/-- java/util/ImmutableCollections$List12 -/
def k25 : Class := { plain "java/util/ImmutableCollections$List12" (some 24) with
  accessFlags := 48
  interfaces := #[2]
  cf := some (fileOf pool25 14 #[.nestHost 20] #[{ accessFlags := 0, nameIndex := 5, descriptorIndex := 76, attributes := #[] }, { accessFlags := 1, nameIndex := 51, descriptorIndex := 52, attributes := #[] }, { accessFlags := 1, nameIndex := 90, descriptorIndex := 91, attributes := #[] }] 48 2 #[70] #[{ accessFlags := 18, nameIndex := 17, descriptorIndex := 18, attributes := #[] }, { accessFlags := 18, nameIndex := 26, descriptorIndex := 18, attributes := #[] }])
  fields := #[{ name := "e0", type := (.object "java/lang/Object"), accessFlags := 18, slot := 0, constantValue := 0 }, { name := "e1", type := (.object "java/lang/Object"), accessFlags := 18, slot := 1, constantValue := 0 }]
  methods := #[k25m0, k25m1, k25m2]
  instanceTypes := #[(.object "java/lang/Object"), (.object "java/lang/Object")]
  staticTypes := #[]
  resolved := Array.replicate 125 none
  statics := none }

def pool26 : Array CpInfo := pool [(2, .class_ 4), (1, u "java/lang/Object"), (0, u "<init>"), (0, u "()V"), (3, .class_ 11), (0, u "java/util/ImmutableCollections$List12"), (0, .class_ 13), (0, u "java/util/ImmutableCollections$ListN"), (3, u "Z"), (29, .class_ 49), (1, u "java/util/ImmutableCollections"), (0, u "$assertionsDisabled"), (5, u "[Ljava/lang/Object;"), (5, u "EMPTY_LIST"), (0, u "Ljava/util/ImmutableCollections$ListN;"), (8, u "EMPTY_LIST_NULLS"), (22, u "SALT32L"), (0, u "J"), (2, u "REVERSE"), (6, u "archivedObjects"), (2, u "EMPTY"), (0, u "Ljava/lang/Object;"), (0, .class_ 112), (0, u "java/util/ImmutableCollections$SetN"), (5, u "EMPTY_SET"), (0, u "Ljava/util/ImmutableCollections$SetN;"), (0, .class_ 121), (0, u "java/util/ImmutableCollections$MapN"), (3, u "EMPTY_MAP"), (0, u "Ljava/util/ImmutableCollections$MapN;"), (4, u "EXPAND_FACTOR"), (0, u "I"), (36, .class_ 170), (0, u "java/util/ImmutableCollections$MapN$MapNIterator"), (0, .class_ 172), (0, u "java/util/ImmutableCollections$MapN$1"), (0, .class_ 174), (0, u "java/util/ImmutableCollections$Map1"), (0, .class_ 176), (0, u "java/util/ImmutableCollections$AbstractImmutableMap"), (0, .class_ 178), (0, u "java/util/ImmutableCollections$SetN$SetNIterator"), (0, .class_ 180), (0, u "java/util/ImmutableCollections$Set12"), (0, .class_ 182), (0, u "java/util/ImmutableCollections$Set12$1"), (0, .class_ 184), (0, u "java/util/ImmutableCollections$AbstractImmutableSet"), (0, .class_ 186), (0, u "java/util/ImmutableCollections$SubList"), (0, .class_ 188), (0, u "java/util/ImmutableCollections$ListItr"), (0, .class_ 190), (0, u "java/util/ImmutableCollections$AbstractImmutableList"), (0, .class_ 192), (0, u "java/util/ImmutableCollections$AbstractImmutableCollection"), (0, .class_ 194), (0, u "java/util/ImmutableCollections$Access"), (0, .class_ 196), (0, u "java/util/ImmutableCollections$Access$1")] 16

def k26m0 : Method := { name := "<init>", desc := "()V", sig := { parameters := [], returnType := none }, accessFlags := 2, code := none }
/-- java/util/ImmutableCollections -/
def k26 : Class := { plain "java/util/ImmutableCollections" (some 0) with
  accessFlags := 32
  interfaces := #[]
  cf := some (fileOf pool26 47 #[.nestMembers #[120, 169, 171, 173, 175, 111, 177, 179, 181, 183, 12, 10, 185, 187, 189, 191, 193, 195]] #[{ accessFlags := 2, nameIndex := 5, descriptorIndex := 6, attributes := #[] }] 32 2 #[] #[{ accessFlags := 26, nameIndex := 95, descriptorIndex := 96, attributes := #[] }, { accessFlags := 26, nameIndex := 99, descriptorIndex := 17, attributes := #[] }, { accessFlags := 10, nameIndex := 106, descriptorIndex := 56, attributes := #[] }, { accessFlags := 26, nameIndex := 109, descriptorIndex := 110, attributes := #[] }, { accessFlags := 24, nameIndex := 62, descriptorIndex := 63, attributes := #[] }, { accessFlags := 24, nameIndex := 72, descriptorIndex := 63, attributes := #[] }, { accessFlags := 24, nameIndex := 118, descriptorIndex := 119, attributes := #[] }, { accessFlags := 24, nameIndex := 125, descriptorIndex := 126, attributes := #[] }, { accessFlags := 24, nameIndex := 131, descriptorIndex := 132, attributes := #[] }, { accessFlags := 4120, nameIndex := 50, descriptorIndex := 17, attributes := #[] }])
  fields := #[{ name := "SALT32L", type := .long, accessFlags := 26, slot := 0, constantValue := 0 }, { name := "REVERSE", type := .boolean, accessFlags := 26, slot := 1, constantValue := 0 }, { name := "archivedObjects", type := (.array (.object "java/lang/Object")), accessFlags := 10, slot := 2, constantValue := 0 }, { name := "EMPTY", type := (.object "java/lang/Object"), accessFlags := 26, slot := 3, constantValue := 0 }, { name := "EMPTY_LIST", type := (.object "java/util/ImmutableCollections$ListN"), accessFlags := 24, slot := 4, constantValue := 0 }, { name := "EMPTY_LIST_NULLS", type := (.object "java/util/ImmutableCollections$ListN"), accessFlags := 24, slot := 5, constantValue := 0 }, { name := "EMPTY_SET", type := (.object "java/util/ImmutableCollections$SetN"), accessFlags := 24, slot := 6, constantValue := 0 }, { name := "EMPTY_MAP", type := (.object "java/util/ImmutableCollections$MapN"), accessFlags := 24, slot := 7, constantValue := 0 }, { name := "EXPAND_FACTOR", type := .int, accessFlags := 24, slot := 8, constantValue := 0 }, { name := "$assertionsDisabled", type := .boolean, accessFlags := 4120, slot := 9, constantValue := 0 }]
  methods := #[k26m0]
  instanceTypes := #[]
  staticTypes := #[.long, .boolean, (.array (.object "java/lang/Object")), (.object "java/lang/Object"), (.object "java/util/ImmutableCollections$ListN"), (.object "java/util/ImmutableCollections$ListN"), (.object "java/util/ImmutableCollections$SetN"), (.object "java/util/ImmutableCollections$MapN"), .int, .boolean]
  resolved := Array.replicate 213 none
  statics := some 3 }

def pool27 : Array CpInfo := pool [(2, .class_ 4), (1, u "java/util/ImmutableCollections$AbstractImmutableList"), (2, .fieldref 8 9), (0, .class_ 10), (0, .nameAndType 11 12), (0, u "java/util/ImmutableCollections$ListN"), (0, u "elements"), (0, u "[Ljava/lang/Object;"), (2, u "allowNulls"), (0, u "Z"), (42, .class_ 60), (0, u "java/io/Serializable"), (16, u "size"), (0, u "()I"), (35, .class_ 115), (0, u "java/util/ImmutableCollections")] 3

def k27c0 : Code := { maxStack := 1, maxLocals := 1, code := jdk_45_method_3_code, exceptionTable := #[], attributes := #[] }
def k27m0 : Method := { name := "size", desc := "()I", sig := { parameters := [], returnType := some .int }, accessFlags := 1, code := some k27c0 }
/-- java/util/ImmutableCollections$ListN -/
def k27 : Class := { plain "java/util/ImmutableCollections$ListN" (some 24) with
  accessFlags := 48
  interfaces := #[2]
  cf := some (fileOf pool27 8 #[.nestHost 114] #[{ accessFlags := 1, nameIndex := 77, descriptorIndex := 78, attributes := #[] }] 48 2 #[59] #[{ accessFlags := 18, nameIndex := 11, descriptorIndex := 12, attributes := #[] }, { accessFlags := 18, nameIndex := 15, descriptorIndex := 16, attributes := #[] }])
  fields := #[{ name := "elements", type := (.array (.object "java/lang/Object")), accessFlags := 18, slot := 0, constantValue := 0 }, { name := "allowNulls", type := .boolean, accessFlags := 18, slot := 1, constantValue := 0 }]
  methods := #[k27m0]
  instanceTypes := #[(.array (.object "java/lang/Object")), .boolean]
  staticTypes := #[]
  resolved := Array.replicate 119 none
  statics := none }

def pool28 : Array CpInfo := pool [(4, .class_ 6), (1, u "java/lang/Object"), (0, u "<init>"), (0, u "()V"), (5, .class_ 16), (1, u "java/lang/StringLatin1"), (104, u "$assertionsDisabled"), (0, u "Z"), (98, .class_ 223), (1, u "java/lang/StringLatin1$LinesSpliterator"), (166, .class_ 391), (0, u "java/lang/StringLatin1$CharsSpliterator")] 3

def k28m0 : Method := { name := "<init>", desc := "()V", sig := { parameters := [], returnType := none }, accessFlags := 0, code := none }
/-- java/lang/StringLatin1 -/
def k28 : Class := { plain "java/lang/StringLatin1" (some 0) with
  accessFlags := 48
  interfaces := #[]
  cf := some (fileOf pool28 14 #[.nestMembers #[390, 221]] #[{ accessFlags := 0, nameIndex := 7, descriptorIndex := 8, attributes := #[] }] 48 4 #[] #[{ accessFlags := 4120, nameIndex := 121, descriptorIndex := 122, attributes := #[] }])
  fields := #[{ name := "$assertionsDisabled", type := .boolean, accessFlags := 4120, slot := 0, constantValue := 0 }]
  methods := #[k28m0]
  instanceTypes := #[]
  staticTypes := #[.boolean]
  resolved := Array.replicate 395 none
  statics := none }

def pool29 : Array CpInfo := pool [(9, u "<init>"), (6, .class_ 18), (1, u "java/lang/Object"), (0, u "()V"), (1, .class_ 23), (1, u "jdk/internal/util/ArraysSupport"), (0, u "LOG2_ARRAY_LONG_INDEX_SCALE"), (0, u "I"), (2, u "U"), (0, u "Ljdk/internal/misc/Unsafe;"), (8, u "BIG_ENDIAN"), (0, u "Z"), (8, u "LOG2_BYTE_BIT_SIZE"), (4, u "LOG2_ARRAY_INT_INDEX_SCALE"), (54, u "JLA"), (0, u "Ljdk/internal/access/JavaLangAccess;"), (11, u "LOG2_ARRAY_BOOLEAN_INDEX_SCALE"), (9, u "LOG2_ARRAY_BYTE_INDEX_SCALE"), (5, u "LOG2_ARRAY_CHAR_INDEX_SCALE"), (5, u "LOG2_ARRAY_SHORT_INDEX_SCALE"), (18, u "LOG2_ARRAY_FLOAT_INDEX_SCALE"), (24, u "LOG2_ARRAY_DOUBLE_INDEX_SCALE"), (89, u "T_BOOLEAN"), (2, u "T_CHAR"), (1, u "T_FLOAT"), (1, u "T_DOUBLE"), (1, u "T_BYTE"), (1, u "T_SHORT"), (1, u "T_INT"), (1, u "T_LONG"), (1, u "SOFT_MAX_ARRAY_LENGTH")] 83

def k29m0 : Method := { name := "<init>", desc := "()V", sig := { parameters := [], returnType := none }, accessFlags := 2, code := none }
/-- jdk/internal/util/ArraysSupport -/
def k29 : Class := { plain "jdk/internal/util/ArraysSupport" (some 0) with
  accessFlags := 33
  interfaces := #[]
  cf := some (fileOf pool29 21 #[] #[{ accessFlags := 2, nameIndex := 9, descriptorIndex := 19, attributes := #[] }] 33 16 #[] #[{ accessFlags := 24, nameIndex := 28, descriptorIndex := 29, attributes := #[] }, { accessFlags := 26, nameIndex := 38, descriptorIndex := 39, attributes := #[] }, { accessFlags := 25, nameIndex := 121, descriptorIndex := 25, attributes := #[] }, { accessFlags := 25, nameIndex := 131, descriptorIndex := 25, attributes := #[] }, { accessFlags := 25, nameIndex := 137, descriptorIndex := 25, attributes := #[] }, { accessFlags := 25, nameIndex := 143, descriptorIndex := 25, attributes := #[] }, { accessFlags := 25, nameIndex := 53, descriptorIndex := 25, attributes := #[] }, { accessFlags := 25, nameIndex := 24, descriptorIndex := 25, attributes := #[] }, { accessFlags := 25, nameIndex := 162, descriptorIndex := 25, attributes := #[] }, { accessFlags := 25, nameIndex := 187, descriptorIndex := 25, attributes := #[] }, { accessFlags := 26, nameIndex := 48, descriptorIndex := 25, attributes := #[] }, { accessFlags := 25, nameIndex := 277, descriptorIndex := 25, attributes := #[] }, { accessFlags := 25, nameIndex := 280, descriptorIndex := 25, attributes := #[] }, { accessFlags := 25, nameIndex := 282, descriptorIndex := 25, attributes := #[] }, { accessFlags := 25, nameIndex := 284, descriptorIndex := 25, attributes := #[] }, { accessFlags := 25, nameIndex := 286, descriptorIndex := 25, attributes := #[] }, { accessFlags := 25, nameIndex := 288, descriptorIndex := 25, attributes := #[] }, { accessFlags := 25, nameIndex := 290, descriptorIndex := 25, attributes := #[] }, { accessFlags := 25, nameIndex := 292, descriptorIndex := 25, attributes := #[] }, { accessFlags := 26, nameIndex := 108, descriptorIndex := 109, attributes := #[] }, { accessFlags := 25, nameIndex := 294, descriptorIndex := 25, attributes := #[] }])
  fields := #[{ name := "U", type := (.object "jdk/internal/misc/Unsafe"), accessFlags := 24, slot := 0, constantValue := 0 }, { name := "BIG_ENDIAN", type := .boolean, accessFlags := 26, slot := 1, constantValue := 0 }, { name := "LOG2_ARRAY_BOOLEAN_INDEX_SCALE", type := .int, accessFlags := 25, slot := 2, constantValue := 0 }, { name := "LOG2_ARRAY_BYTE_INDEX_SCALE", type := .int, accessFlags := 25, slot := 3, constantValue := 0 }, { name := "LOG2_ARRAY_CHAR_INDEX_SCALE", type := .int, accessFlags := 25, slot := 4, constantValue := 0 }, { name := "LOG2_ARRAY_SHORT_INDEX_SCALE", type := .int, accessFlags := 25, slot := 5, constantValue := 0 }, { name := "LOG2_ARRAY_INT_INDEX_SCALE", type := .int, accessFlags := 25, slot := 6, constantValue := 0 }, { name := "LOG2_ARRAY_LONG_INDEX_SCALE", type := .int, accessFlags := 25, slot := 7, constantValue := 0 }, { name := "LOG2_ARRAY_FLOAT_INDEX_SCALE", type := .int, accessFlags := 25, slot := 8, constantValue := 0 }, { name := "LOG2_ARRAY_DOUBLE_INDEX_SCALE", type := .int, accessFlags := 25, slot := 9, constantValue := 0 }, { name := "LOG2_BYTE_BIT_SIZE", type := .int, accessFlags := 26, slot := 10, constantValue := 0 }, { name := "T_BOOLEAN", type := .int, accessFlags := 25, slot := 11, constantValue := 0 }, { name := "T_CHAR", type := .int, accessFlags := 25, slot := 12, constantValue := 0 }, { name := "T_FLOAT", type := .int, accessFlags := 25, slot := 13, constantValue := 0 }, { name := "T_DOUBLE", type := .int, accessFlags := 25, slot := 14, constantValue := 0 }, { name := "T_BYTE", type := .int, accessFlags := 25, slot := 15, constantValue := 0 }, { name := "T_SHORT", type := .int, accessFlags := 25, slot := 16, constantValue := 0 }, { name := "T_INT", type := .int, accessFlags := 25, slot := 17, constantValue := 0 }, { name := "T_LONG", type := .int, accessFlags := 25, slot := 18, constantValue := 0 }, { name := "JLA", type := (.object "jdk/internal/access/JavaLangAccess"), accessFlags := 26, slot := 19, constantValue := 0 }, { name := "SOFT_MAX_ARRAY_LENGTH", type := .int, accessFlags := 25, slot := 20, constantValue := 0 }]
  methods := #[k29m0]
  instanceTypes := #[]
  staticTypes := #[(.object "jdk/internal/misc/Unsafe"), .boolean, .int, .int, .int, .int, .int, .int, .int, .int, .int, .int, .int, .int, .int, .int, .int, .int, .int, (.object "jdk/internal/access/JavaLangAccess"), .int]
  resolved := Array.replicate 378 none
  statics := none }

/-- the primitive byte -/
def k30 : Class := { plain "byte" none with kind := .primitive 'B', accessFlags := 0x411 }
/-- [B -/
def k31 : Class := { plain "[B" (some 0) with kind := .array 30 .byte, interfaces := #[16, 2], accessFlags := 1041 }

/-- the primitive char -/
def k32 : Class := { plain "char" none with kind := .primitive 'C', accessFlags := 0x411 }
/-- [C -/
def k33 : Class := { plain "[C" (some 0) with kind := .array 32 .char, interfaces := #[16, 2], accessFlags := 1041 }

/-- the primitive int -/
def k34 : Class := { plain "int" none with kind := .primitive 'I', accessFlags := 0x411 }
/-- [I -/
def k35 : Class := { plain "[I" (some 0) with kind := .array 34 .int, interfaces := #[16, 2], accessFlags := 1041 }

/-- [Ljava/lang/Object; -/
def k36 : Class := { plain "[Ljava/lang/Object;" (some 0) with kind := .array 0 (.object "java/lang/Object"), interfaces := #[16, 2], accessFlags := 1041 }

def heap : Heap := #[{ cls := 7, slots := #[.long 0, .int 1, .null, .int 0, .null, .int 0, .int 0], vm := .statics 7 },
  { cls := 17, slots := #[.long 0, .int 0, .ref 4, .ref 5], vm := .statics 17 },
  { cls := 22, slots := #[.null, .null, .null], vm := .statics 22 },
  { cls := 26, slots := #[.long 0, .int 0, .null, .ref 6, .ref 7, .null, .null, .null, .int 0, .int 1], vm := .statics 26 },
  { cls := 36, slots := #[], vm := .none },
  { cls := 36, slots := #[], vm := .none },
  { cls := 0, slots := #[], vm := .none },
  { cls := 27, slots := #[.ref 8, .int 0], vm := .none },
  { cls := 36, slots := #[], vm := .none }]
def classes : Array Class := #[k0, k1, k2, k3, k4, k5, k6, k7, k8, k9, k10, k11, k12, k13, k14, k15, k16, k17, k18, k19, k20, k21, k22, k23, k24, k25, k26, k27, k28, k29, k30, k31, k32, k33, k34, k35, k36]
def interned : List (Array UInt16 × Addr) := []
def slotsUsed : Nat := 26
def theMethod : MethodId := ⟨1, 1⟩
def args0 : Array Value := #[.int 9, .int 4]
def aboutOver (below : List Frame) : State where
  vm := { classes := classes, interned := interned.toArray }
  heap := heap
  slotsUsed := slotsUsed
  threads := #[{ frames := .invoking theMethod args0 :: below }]
def below0 : List Frame := [.native { method := ⟨0, 0⟩, args := #[] }]
def about1 : State := aboutOver below0
def p0 : Program := .bare "" "" ""
def e0 : Env := launch0.env 0 0 0
theorem w_frames : about1.frames = Frame.invoking theMethod args0 :: below0 := rfl
set_option maxRecDepth 65536 in
theorem w_args : argsFit about1.vm theMethod args0 = true := by decide +kernel
set_option maxRecDepth 65536 in
theorem w_heap : heapFits about1 = true := by decide +kernel
set_option maxRecDepth 65536 in
theorem w_runnable : about1.curStatus? = some .runnable := by decide +kernel
set_option maxRecDepth 65536 in
theorem w_alone : about1.alone = true := by decide +kernel
set_option maxRecDepth 65536 in
theorem w_named : about1.methodNamed? x = some theMethod := by decide +kernel
set_option maxRecDepth 65536 in
theorem w_hears : about1.hears theMethod below0 = true := by decide +kernel
set_option maxRecDepth 65536 in
theorem w_ripe : about1.ripe theMethod args0 below0 = true := by decide +kernel
theorem w_running : about1.status = .running := rfl
set_option maxRecDepth 65536 in
theorem w_room : about1.hasRoom e0.platform room_1 = true :=
  launch0.hasRoom_least _ room_1 (by decide +kernel) (by decide +kernel) (by decide +kernel) (by decide +kernel) (by decide +kernel) (by decide +kernel)
theorem allAtoms_all (ts : List Jvm.Cond) (a : Array Jvm.Value) (st : Jvm.State) : (allAtoms ts).before a st = ts.all (fun c => c.before a st) := by
  induction ts with
  | nil => rfl
  | cons c t ih =>
    show (Jvm.Cond.and c (allAtoms t)).before a st = _
    rw [Jvm.Cond.before_and, ih, List.all_cons]
def words1 : List Jvm.Cond := Jvm.Cond.code x code maxLocals ret :: tables_1
/-- a 'code' word, met by the world's own term for the bytes: nothing is compared byte by byte -/
theorem code_word {y : MethodName} {bytes : ByteArray} {mx : Nat} {rt : Option FieldType} {a : Array Value} {s : State} {m : MethodId} {meth : Method} {c : Code} (h1 : s.methodNamed? y = some m) (h2 : s.vm.method? m = some meth) (h3 : meth.code = some c) (h4 : c.code = bytes)
    (h5 : (c.maxLocals == mx && c.exceptionTable.isEmpty && decide (c.maxStack ≤ mostOperands) && decide (meth.sig.returnType = rt) && !meth.locks && decide (parseMethodDescriptor y.desc = some meth.sig)) = true) : (Jvm.Cond.code y bytes mx rt).before a s = true := by
  simp only [Bool.and_eq_true, beq_iff_eq, Bool.not_eq_true', decide_eq_true_eq] at h5
  obtain ⟨⟨⟨⟨⟨g1, g2⟩, g3⟩, g4⟩, g5⟩, g6⟩ := h5
  simp [Cond.before, Cond.holds, Cond.value, h1, h2, h3, h4, g1, g2, g3, g4, g5, g6]
def isCode : Jvm.Cond → Bool
  | .code _ _ _ _ => true
  | _ => false
theorem all_split {L : List Jvm.Cond} {P : Jvm.Cond → Bool} (h1 : L.all (fun c => isCode c || P c) = true) (h2 : ∀ c ∈ L.filter isCode, P c = true) : L.all P = true := by
  refine List.all_eq_true.mpr fun c hc => ?_
  have h := List.all_eq_true.mp h1 c hc
  rcases Bool.eq_false_or_eq_true (isCode c) with hi | hi
  · exact h2 c (List.mem_filter.mpr ⟨hc, hi⟩)
  · simpa [hi] using h
set_option maxRecDepth 65536 in
theorem w_c0 : (Jvm.Cond.code x code maxLocals ret).before args0 about1 = true := code_word (m := ⟨1, 1⟩) (meth := k1m1) (c := k1c1) (by decide +kernel) rfl rfl rfl (by decide +kernel)
set_option maxRecDepth 65536 in
theorem w_c1 : (Jvm.Cond.code ({ cls := "java/lang/String", name := "<init>", desc := "([C)V" } : Jvm.MethodName) jdk_42_method_3_code (2 : Nat) (Option.none : Option Jvm.ClassFile.FieldType)).before args0 about1 = true := code_word (m := ⟨7, 1⟩) (meth := k7m1) (c := k7c1) (by decide +kernel) rfl rfl rfl (by decide +kernel)
set_option maxRecDepth 65536 in
theorem w_c2 : (Jvm.Cond.code ({ cls := "java/lang/String", name := "<init>", desc := "([CIILjava/lang/Void;)V" } : Jvm.MethodName) jdk_42_method_149_code (6 : Nat) (Option.none : Option Jvm.ClassFile.FieldType)).before args0 about1 = true := code_word (m := ⟨7, 3⟩) (meth := k7m3) (c := k7c3) (by decide +kernel) rfl rfl rfl (by decide +kernel)
set_option maxRecDepth 65536 in
theorem w_c3 : (Jvm.Cond.code ({ cls := "java/lang/Object", name := "<init>", desc := "()V" } : Jvm.MethodName) object_method_1_code (1 : Nat) (Option.none : Option Jvm.ClassFile.FieldType)).before args0 about1 = true := code_word (m := ⟨0, 0⟩) (meth := k0m0) (c := k0c0) (by decide +kernel) rfl rfl rfl (by decide +kernel)
set_option maxRecDepth 65536 in
theorem w_c4 : (Jvm.Cond.code ({ cls := "java/lang/StringUTF16", name := "compress", desc := "([CII)[B" } : Jvm.MethodName) jdk_52_method_16_code (6 : Nat) (Option.some (Jvm.ClassFile.FieldType.array Jvm.ClassFile.FieldType.byte))).before args0 about1 = true := code_word (m := ⟨8, 2⟩) (meth := k8m2) (c := k8c2) (by decide +kernel) rfl rfl rfl (by decide +kernel)
set_option maxRecDepth 65536 in
theorem w_c5 : (Jvm.Cond.code ({ cls := "java/lang/StringUTF16", name := "compress", desc := "([CI[BII)I" } : Jvm.MethodName) jdk_52_method_21_code (7 : Nat) (Option.some Jvm.ClassFile.FieldType.int)).before args0 about1 = true := code_word (m := ⟨8, 3⟩) (meth := k8m3) (c := k8c3) (by decide +kernel) rfl rfl rfl (by decide +kernel)
set_option maxRecDepth 65536 in
theorem w_c6 : (Jvm.Cond.code ({ cls := "java/lang/StringUTF16", name := "coderFromArrayLen", desc := "([BI)B" } : Jvm.MethodName) jdk_52_method_15_code (2 : Nat) (Option.some Jvm.ClassFile.FieldType.byte)).before args0 about1 = true := code_word (m := ⟨8, 1⟩) (meth := k8m1) (c := k8c1) (by decide +kernel) rfl rfl rfl (by decide +kernel)
set_option maxRecDepth 65536 in
theorem w_c7 : (Jvm.Cond.code ({ cls := "java/util/ArrayList", name := "<init>", desc := "()V" } : Jvm.MethodName) jdk_38_method_2_code (1 : Nat) (Option.none : Option Jvm.ClassFile.FieldType)).before args0 about1 = true := code_word (m := ⟨17, 0⟩) (meth := k17m0) (c := k17c0) (by decide +kernel) rfl rfl rfl (by decide +kernel)
set_option maxRecDepth 65536 in
theorem w_c8 : (Jvm.Cond.code ({ cls := "java/util/AbstractList", name := "<init>", desc := "()V" } : Jvm.MethodName) jdk_39_method_1_code (1 : Nat) (Option.none : Option Jvm.ClassFile.FieldType)).before args0 about1 = true := code_word (m := ⟨14, 0⟩) (meth := k14m0) (c := k14c0) (by decide +kernel) rfl rfl rfl (by decide +kernel)
set_option maxRecDepth 65536 in
theorem w_c9 : (Jvm.Cond.code ({ cls := "java/util/AbstractCollection", name := "<init>", desc := "()V" } : Jvm.MethodName) jdk_22_method_1_code (1 : Nat) (Option.none : Option Jvm.ClassFile.FieldType)).before args0 about1 = true := code_word (m := ⟨11, 0⟩) (meth := k11m0) (c := k11c0) (by decide +kernel) rfl rfl rfl (by decide +kernel)
set_option maxRecDepth 65536 in
theorem w_c10 : (Jvm.Cond.code ({ cls := "java/util/ArrayList", name := "add", desc := "(Ljava/lang/Object;)Z" } : Jvm.MethodName) jdk_38_method_25_code (2 : Nat) (Option.some Jvm.ClassFile.FieldType.boolean)).before args0 about1 = true := code_word (m := ⟨17, 6⟩) (meth := k17m6) (c := k17c6) (by decide +kernel) rfl rfl rfl (by decide +kernel)
set_option maxRecDepth 65536 in
theorem w_c11 : (Jvm.Cond.code ({ cls := "java/util/ArrayList", name := "add", desc := "(Ljava/lang/Object;[Ljava/lang/Object;I)V" } : Jvm.MethodName) jdk_38_method_24_code (4 : Nat) (Option.none : Option Jvm.ClassFile.FieldType)).before args0 about1 = true := code_word (m := ⟨17, 5⟩) (meth := k17m5) (c := k17c5) (by decide +kernel) rfl rfl rfl (by decide +kernel)
set_option maxRecDepth 65536 in
theorem w_c12 : (Jvm.Cond.code ({ cls := "java/util/ArrayList", name := "grow", desc := "()[Ljava/lang/Object;" } : Jvm.MethodName) jdk_38_method_7_code (1 : Nat) (Option.some (Jvm.ClassFile.FieldType.array (Jvm.ClassFile.FieldType.object "java/lang/Object")))).before args0 about1 = true := code_word (m := ⟨17, 2⟩) (meth := k17m2) (c := k17c2) (by decide +kernel) rfl rfl rfl (by decide +kernel)
set_option maxRecDepth 65536 in
theorem w_c13 : (Jvm.Cond.code ({ cls := "java/util/ArrayList", name := "grow", desc := "(I)[Ljava/lang/Object;" } : Jvm.MethodName) jdk_38_method_6_code (4 : Nat) (Option.some (Jvm.ClassFile.FieldType.array (Jvm.ClassFile.FieldType.object "java/lang/Object")))).before args0 about1 = true := code_word (m := ⟨17, 1⟩) (meth := k17m1) (c := k17c1) (by decide +kernel) rfl rfl rfl (by decide +kernel)
set_option maxRecDepth 65536 in
theorem w_c14 : (Jvm.Cond.code ({ cls := "java/lang/Math", name := "max", desc := "(II)I" } : Jvm.MethodName) jdk_29_method_65_code (2 : Nat) (Option.some Jvm.ClassFile.FieldType.int)).before args0 about1 = true := code_word (m := ⟨18, 1⟩) (meth := k18m1) (c := k18c1) (by decide +kernel) rfl rfl rfl (by decide +kernel)
set_option maxRecDepth 65536 in
theorem w_c15 : (Jvm.Cond.code ({ cls := "com/example/dvarapala/dvarapala/lock/ExclusiveRule", name := "<init>", desc := "(Ljava/lang/String;)V" } : Jvm.MethodName) prog_5_method_1_code (2 : Nat) (Option.none : Option Jvm.ClassFile.FieldType)).before args0 about1 = true := code_word (m := ⟨20, 0⟩) (meth := k20m0) (c := k20c0) (by decide +kernel) rfl rfl rfl (by decide +kernel)
set_option maxRecDepth 65536 in
theorem w_c16 : (Jvm.Cond.code ({ cls := "com/example/dvarapala/dvarapala/lock/ExclusiveRule", name := "blockers", desc := "(Ljava/util/List;I)Ljava/util/List;" } : Jvm.MethodName) prog_5_method_3_code (4 : Nat) (Option.some (Jvm.ClassFile.FieldType.object "java/util/List"))).before args0 about1 = true := code_word (m := ⟨20, 1⟩) (meth := k20m1) (c := k20c1) (by decide +kernel) rfl rfl rfl (by decide +kernel)
set_option maxRecDepth 65536 in
theorem w_c17 : (Jvm.Cond.code ({ cls := "java/util/ArrayList", name := "get", desc := "(I)Ljava/lang/Object;" } : Jvm.MethodName) jdk_38_method_20_code (2 : Nat) (Option.some (Jvm.ClassFile.FieldType.object "java/lang/Object"))).before args0 about1 = true := code_word (m := ⟨17, 4⟩) (meth := k17m4) (c := k17c4) (by decide +kernel) rfl rfl rfl (by decide +kernel)
set_option maxRecDepth 65536 in
theorem w_c18 : (Jvm.Cond.code ({ cls := "java/util/Objects", name := "checkIndex", desc := "(II)I" } : Jvm.MethodName) jdk_31_method_17_code (2 : Nat) (Option.some Jvm.ClassFile.FieldType.int)).before args0 about1 = true := code_word (m := ⟨21, 2⟩) (meth := k21m2) (c := k21c2) (by decide +kernel) rfl rfl rfl (by decide +kernel)
set_option maxRecDepth 65536 in
theorem w_c19 : (Jvm.Cond.code ({ cls := "jdk/internal/util/Preconditions", name := "checkIndex", desc := "(IILjava/util/function/BiFunction;)I" } : Jvm.MethodName) jdk_41_method_11_code (3 : Nat) (Option.some Jvm.ClassFile.FieldType.int)).before args0 about1 = true := code_word (m := ⟨22, 1⟩) (meth := k22m1) (c := k22c1) (by decide +kernel) rfl rfl rfl (by decide +kernel)
set_option maxRecDepth 65536 in
theorem w_c20 : (Jvm.Cond.code ({ cls := "java/util/ArrayList", name := "elementData", desc := "(I)Ljava/lang/Object;" } : Jvm.MethodName) jdk_38_method_18_code (2 : Nat) (Option.some (Jvm.ClassFile.FieldType.object "java/lang/Object"))).before args0 about1 = true := code_word (m := ⟨17, 3⟩) (meth := k17m3) (c := k17c3) (by decide +kernel) rfl rfl rfl (by decide +kernel)
set_option maxRecDepth 65536 in
theorem w_c21 : (Jvm.Cond.code ({ cls := "java/util/List", name := "of", desc := "(Ljava/lang/Object;)Ljava/util/List;" } : Jvm.MethodName) jdk_40_method_37_code (1 : Nat) (Option.some (Jvm.ClassFile.FieldType.object "java/util/List"))).before args0 about1 = true := code_word (m := ⟨13, 3⟩) (meth := k13m3) (c := k13c3) (by decide +kernel) rfl rfl rfl (by decide +kernel)
set_option maxRecDepth 65536 in
theorem w_c22 : (Jvm.Cond.code ({ cls := "java/util/ImmutableCollections$List12", name := "<init>", desc := "(Ljava/lang/Object;)V" } : Jvm.MethodName) jdk_44_method_1_code (2 : Nat) (Option.none : Option Jvm.ClassFile.FieldType)).before args0 about1 = true := code_word (m := ⟨25, 0⟩) (meth := k25m0) (c := k25c0) (by decide +kernel) rfl rfl rfl (by decide +kernel)
set_option maxRecDepth 65536 in
theorem w_c23 : (Jvm.Cond.code ({ cls := "java/util/ImmutableCollections$AbstractImmutableList", name := "<init>", desc := "()V" } : Jvm.MethodName) jdk_46_method_1_code (1 : Nat) (Option.none : Option Jvm.ClassFile.FieldType)).before args0 about1 = true := code_word (m := ⟨24, 0⟩) (meth := k24m0) (c := k24c0) (by decide +kernel) rfl rfl rfl (by decide +kernel)
set_option maxRecDepth 65536 in
theorem w_c24 : (Jvm.Cond.code ({ cls := "java/util/ImmutableCollections$AbstractImmutableCollection", name := "<init>", desc := "()V" } : Jvm.MethodName) jdk_47_method_1_code (1 : Nat) (Option.none : Option Jvm.ClassFile.FieldType)).before args0 about1 = true := code_word (m := ⟨23, 0⟩) (meth := k23m0) (c := k23c0) (by decide +kernel) rfl rfl rfl (by decide +kernel)
set_option maxRecDepth 65536 in
theorem w_c25 : (Jvm.Cond.code ({ cls := "java/util/Objects", name := "requireNonNull", desc := "(Ljava/lang/Object;)Ljava/lang/Object;" } : Jvm.MethodName) jdk_31_method_10_code (1 : Nat) (Option.some (Jvm.ClassFile.FieldType.object "java/lang/Object"))).before args0 about1 = true := code_word (m := ⟨21, 1⟩) (meth := k21m1) (c := k21c1) (by decide +kernel) rfl rfl rfl (by decide +kernel)
set_option maxRecDepth 65536 in
theorem w_c26 : (Jvm.Cond.code ({ cls := "java/util/ImmutableCollections$List12", name := "size", desc := "()I" } : Jvm.MethodName) jdk_44_method_3_code (1 : Nat) (Option.some Jvm.ClassFile.FieldType.int)).before args0 about1 = true := code_word (m := ⟨25, 1⟩) (meth := k25m1) (c := k25c1) (by decide +kernel) rfl rfl rfl (by decide +kernel)
set_option maxRecDepth 65536 in
theorem w_c27 : (Jvm.Cond.code ({ cls := "java/util/ImmutableCollections$List12", name := "get", desc := "(I)Ljava/lang/Object;" } : Jvm.MethodName) jdk_44_method_5_code (2 : Nat) (Option.some (Jvm.ClassFile.FieldType.object "java/lang/Object"))).before args0 about1 = true := code_word (m := ⟨25, 2⟩) (meth := k25m2) (c := k25c2) (by decide +kernel) rfl rfl rfl (by decide +kernel)
set_option maxRecDepth 65536 in
theorem w_c28 : (Jvm.Cond.code ({ cls := "java/lang/String", name := "equals", desc := "(Ljava/lang/Object;)Z" } : Jvm.MethodName) jdk_42_method_66_code (3 : Nat) (Option.some Jvm.ClassFile.FieldType.boolean)).before args0 about1 = true := code_word (m := ⟨7, 2⟩) (meth := k7m2) (c := k7c2) (by decide +kernel) rfl rfl rfl (by decide +kernel)
set_option maxRecDepth 65536 in
theorem w_c29 : (Jvm.Cond.code ({ cls := "java/util/List", name := "of", desc := "()Ljava/util/List;" } : Jvm.MethodName) jdk_40_method_36_code (0 : Nat) (Option.some (Jvm.ClassFile.FieldType.object "java/util/List"))).before args0 about1 = true := code_word (m := ⟨13, 2⟩) (meth := k13m2) (c := k13c2) (by decide +kernel) rfl rfl rfl (by decide +kernel)
set_option maxRecDepth 65536 in
theorem w_c30 : (Jvm.Cond.code ({ cls := "java/util/ImmutableCollections$ListN", name := "size", desc := "()I" } : Jvm.MethodName) jdk_45_method_3_code (1 : Nat) (Option.some Jvm.ClassFile.FieldType.int)).before args0 about1 = true := code_word (m := ⟨27, 0⟩) (meth := k27m0) (c := k27c0) (by decide +kernel) rfl rfl rfl (by decide +kernel)
def codes1 : List Jvm.Cond := [Jvm.Cond.code x code maxLocals ret, Jvm.Cond.code ({ cls := "java/lang/String", name := "<init>", desc := "([C)V" } : Jvm.MethodName) jdk_42_method_3_code (2 : Nat) (Option.none : Option Jvm.ClassFile.FieldType), Jvm.Cond.code ({ cls := "java/lang/String", name := "<init>", desc := "([CIILjava/lang/Void;)V" } : Jvm.MethodName) jdk_42_method_149_code (6 : Nat) (Option.none : Option Jvm.ClassFile.FieldType), Jvm.Cond.code ({ cls := "java/lang/Object", name := "<init>", desc := "()V" } : Jvm.MethodName) object_method_1_code (1 : Nat) (Option.none : Option Jvm.ClassFile.FieldType), Jvm.Cond.code ({ cls := "java/lang/StringUTF16", name := "compress", desc := "([CII)[B" } : Jvm.MethodName) jdk_52_method_16_code (6 : Nat) (Option.some (Jvm.ClassFile.FieldType.array Jvm.ClassFile.FieldType.byte)), Jvm.Cond.code ({ cls := "java/lang/StringUTF16", name := "compress", desc := "([CI[BII)I" } : Jvm.MethodName) jdk_52_method_21_code (7 : Nat) (Option.some Jvm.ClassFile.FieldType.int), Jvm.Cond.code ({ cls := "java/lang/StringUTF16", name := "coderFromArrayLen", desc := "([BI)B" } : Jvm.MethodName) jdk_52_method_15_code (2 : Nat) (Option.some Jvm.ClassFile.FieldType.byte), Jvm.Cond.code ({ cls := "java/util/ArrayList", name := "<init>", desc := "()V" } : Jvm.MethodName) jdk_38_method_2_code (1 : Nat) (Option.none : Option Jvm.ClassFile.FieldType), Jvm.Cond.code ({ cls := "java/util/AbstractList", name := "<init>", desc := "()V" } : Jvm.MethodName) jdk_39_method_1_code (1 : Nat) (Option.none : Option Jvm.ClassFile.FieldType), Jvm.Cond.code ({ cls := "java/util/AbstractCollection", name := "<init>", desc := "()V" } : Jvm.MethodName) jdk_22_method_1_code (1 : Nat) (Option.none : Option Jvm.ClassFile.FieldType), Jvm.Cond.code ({ cls := "java/util/ArrayList", name := "add", desc := "(Ljava/lang/Object;)Z" } : Jvm.MethodName) jdk_38_method_25_code (2 : Nat) (Option.some Jvm.ClassFile.FieldType.boolean), Jvm.Cond.code ({ cls := "java/util/ArrayList", name := "add", desc := "(Ljava/lang/Object;[Ljava/lang/Object;I)V" } : Jvm.MethodName) jdk_38_method_24_code (4 : Nat) (Option.none : Option Jvm.ClassFile.FieldType), Jvm.Cond.code ({ cls := "java/util/ArrayList", name := "grow", desc := "()[Ljava/lang/Object;" } : Jvm.MethodName) jdk_38_method_7_code (1 : Nat) (Option.some (Jvm.ClassFile.FieldType.array (Jvm.ClassFile.FieldType.object "java/lang/Object"))), Jvm.Cond.code ({ cls := "java/util/ArrayList", name := "grow", desc := "(I)[Ljava/lang/Object;" } : Jvm.MethodName) jdk_38_method_6_code (4 : Nat) (Option.some (Jvm.ClassFile.FieldType.array (Jvm.ClassFile.FieldType.object "java/lang/Object"))), Jvm.Cond.code ({ cls := "java/lang/Math", name := "max", desc := "(II)I" } : Jvm.MethodName) jdk_29_method_65_code (2 : Nat) (Option.some Jvm.ClassFile.FieldType.int), Jvm.Cond.code ({ cls := "com/example/dvarapala/dvarapala/lock/ExclusiveRule", name := "<init>", desc := "(Ljava/lang/String;)V" } : Jvm.MethodName) prog_5_method_1_code (2 : Nat) (Option.none : Option Jvm.ClassFile.FieldType), Jvm.Cond.code ({ cls := "com/example/dvarapala/dvarapala/lock/ExclusiveRule", name := "blockers", desc := "(Ljava/util/List;I)Ljava/util/List;" } : Jvm.MethodName) prog_5_method_3_code (4 : Nat) (Option.some (Jvm.ClassFile.FieldType.object "java/util/List")), Jvm.Cond.code ({ cls := "java/util/ArrayList", name := "get", desc := "(I)Ljava/lang/Object;" } : Jvm.MethodName) jdk_38_method_20_code (2 : Nat) (Option.some (Jvm.ClassFile.FieldType.object "java/lang/Object")), Jvm.Cond.code ({ cls := "java/util/Objects", name := "checkIndex", desc := "(II)I" } : Jvm.MethodName) jdk_31_method_17_code (2 : Nat) (Option.some Jvm.ClassFile.FieldType.int), Jvm.Cond.code ({ cls := "jdk/internal/util/Preconditions", name := "checkIndex", desc := "(IILjava/util/function/BiFunction;)I" } : Jvm.MethodName) jdk_41_method_11_code (3 : Nat) (Option.some Jvm.ClassFile.FieldType.int), Jvm.Cond.code ({ cls := "java/util/ArrayList", name := "elementData", desc := "(I)Ljava/lang/Object;" } : Jvm.MethodName) jdk_38_method_18_code (2 : Nat) (Option.some (Jvm.ClassFile.FieldType.object "java/lang/Object")), Jvm.Cond.code ({ cls := "java/util/List", name := "of", desc := "(Ljava/lang/Object;)Ljava/util/List;" } : Jvm.MethodName) jdk_40_method_37_code (1 : Nat) (Option.some (Jvm.ClassFile.FieldType.object "java/util/List")), Jvm.Cond.code ({ cls := "java/util/ImmutableCollections$List12", name := "<init>", desc := "(Ljava/lang/Object;)V" } : Jvm.MethodName) jdk_44_method_1_code (2 : Nat) (Option.none : Option Jvm.ClassFile.FieldType), Jvm.Cond.code ({ cls := "java/util/ImmutableCollections$AbstractImmutableList", name := "<init>", desc := "()V" } : Jvm.MethodName) jdk_46_method_1_code (1 : Nat) (Option.none : Option Jvm.ClassFile.FieldType), Jvm.Cond.code ({ cls := "java/util/ImmutableCollections$AbstractImmutableCollection", name := "<init>", desc := "()V" } : Jvm.MethodName) jdk_47_method_1_code (1 : Nat) (Option.none : Option Jvm.ClassFile.FieldType), Jvm.Cond.code ({ cls := "java/util/Objects", name := "requireNonNull", desc := "(Ljava/lang/Object;)Ljava/lang/Object;" } : Jvm.MethodName) jdk_31_method_10_code (1 : Nat) (Option.some (Jvm.ClassFile.FieldType.object "java/lang/Object")), Jvm.Cond.code ({ cls := "java/util/ImmutableCollections$List12", name := "size", desc := "()I" } : Jvm.MethodName) jdk_44_method_3_code (1 : Nat) (Option.some Jvm.ClassFile.FieldType.int), Jvm.Cond.code ({ cls := "java/util/ImmutableCollections$List12", name := "get", desc := "(I)Ljava/lang/Object;" } : Jvm.MethodName) jdk_44_method_5_code (2 : Nat) (Option.some (Jvm.ClassFile.FieldType.object "java/lang/Object")), Jvm.Cond.code ({ cls := "java/lang/String", name := "equals", desc := "(Ljava/lang/Object;)Z" } : Jvm.MethodName) jdk_42_method_66_code (3 : Nat) (Option.some Jvm.ClassFile.FieldType.boolean), Jvm.Cond.code ({ cls := "java/util/List", name := "of", desc := "()Ljava/util/List;" } : Jvm.MethodName) jdk_40_method_36_code (0 : Nat) (Option.some (Jvm.ClassFile.FieldType.object "java/util/List")), Jvm.Cond.code ({ cls := "java/util/ImmutableCollections$ListN", name := "size", desc := "()I" } : Jvm.MethodName) jdk_45_method_3_code (1 : Nat) (Option.some Jvm.ClassFile.FieldType.int)]
set_option maxRecDepth 65536 in
theorem codes_eq : words1.filter isCode = codes1 := rfl
theorem w_codes : ∀ c ∈ words1.filter isCode, c.before args0 about1 = true := by
  rw [codes_eq]
  intro c hc
  simp only [codes1, List.mem_cons, List.not_mem_nil, or_false] at hc
  rcases hc with rfl | rfl | rfl | rfl | rfl | rfl | rfl | rfl | rfl | rfl | rfl | rfl | rfl | rfl | rfl | rfl | rfl | rfl | rfl | rfl | rfl | rfl | rfl | rfl | rfl | rfl | rfl | rfl | rfl | rfl | rfl
  · exact w_c0
  · exact w_c1
  · exact w_c2
  · exact w_c3
  · exact w_c4
  · exact w_c5
  · exact w_c6
  · exact w_c7
  · exact w_c8
  · exact w_c9
  · exact w_c10
  · exact w_c11
  · exact w_c12
  · exact w_c13
  · exact w_c14
  · exact w_c15
  · exact w_c16
  · exact w_c17
  · exact w_c18
  · exact w_c19
  · exact w_c20
  · exact w_c21
  · exact w_c22
  · exact w_c23
  · exact w_c24
  · exact w_c25
  · exact w_c26
  · exact w_c27
  · exact w_c28
  · exact w_c29
  · exact w_c30
set_option maxRecDepth 65536 in
theorem w_t1 : (words1.take 24).all (fun c => isCode c || c.before args0 about1) = true := by decide +kernel
set_option maxRecDepth 65536 in
theorem w_t2 : ((words1.drop 24).take 24).all (fun c => isCode c || c.before args0 about1) = true := by decide +kernel
set_option maxRecDepth 65536 in
theorem w_t3 : (((words1.drop 24).drop 24).take 24).all (fun c => isCode c || c.before args0 about1) = true := by decide +kernel
set_option maxRecDepth 65536 in
theorem w_t4 : ((((words1.drop 24).drop 24).drop 24).take 24).all (fun c => isCode c || c.before args0 about1) = true := by decide +kernel
set_option maxRecDepth 65536 in
theorem w_t5 : (((((words1.drop 24).drop 24).drop 24).drop 24).take 24).all (fun c => isCode c || c.before args0 about1) = true := by decide +kernel
set_option maxRecDepth 65536 in
theorem w_t6 : ((((((words1.drop 24).drop 24).drop 24).drop 24).drop 24).take 24).all (fun c => isCode c || c.before args0 about1) = true := by decide +kernel
set_option maxRecDepth 65536 in
theorem w_t7 : (((((((words1.drop 24).drop 24).drop 24).drop 24).drop 24).drop 24).take 24).all (fun c => isCode c || c.before args0 about1) = true := by decide +kernel
set_option maxRecDepth 65536 in
theorem w_t8 : ((((((((words1.drop 24).drop 24).drop 24).drop 24).drop 24).drop 24).drop 24).take 24).all (fun c => isCode c || c.before args0 about1) = true := by decide +kernel
set_option maxRecDepth 65536 in
theorem w_t9 : ((((((((words1.drop 24).drop 24).drop 24).drop 24).drop 24).drop 24).drop 24).drop 24).all (fun c => isCode c || c.before args0 about1) = true := by decide +kernel
theorem w_tables : (allAtoms (Jvm.Cond.code x code maxLocals ret :: tables_1)).before args0 about1 = true := by
  rw [allAtoms_all]
  show words1.all (fun c => c.before args0 about1) = true
  refine all_split ?_ w_codes
  rw [← List.take_append_drop 24 words1, List.all_append, w_t1, ← List.take_append_drop 24 (words1.drop 24), List.all_append, w_t2, ← List.take_append_drop 24 ((words1.drop 24).drop 24), List.all_append, w_t3, ← List.take_append_drop 24 (((words1.drop 24).drop 24).drop 24), List.all_append, w_t4, ← List.take_append_drop 24 ((((words1.drop 24).drop 24).drop 24).drop 24), List.all_append, w_t5, ← List.take_append_drop 24 (((((words1.drop 24).drop 24).drop 24).drop 24).drop 24), List.all_append, w_t6, ← List.take_append_drop 24 ((((((words1.drop 24).drop 24).drop 24).drop 24).drop 24).drop 24), List.all_append, w_t7, ← List.take_append_drop 24 (((((((words1.drop 24).drop 24).drop 24).drop 24).drop 24).drop 24).drop 24), List.all_append, w_t8, w_t9]
  rfl
set_option maxRecDepth 65536 in
theorem w_rest : rest_1_c.before args0 about1 = true := by decide +kernel
set_option maxRecDepth 65536 in
theorem w_case : (Jvm.Cond.and given_1 narrow_1).before args0 about1 = true := by decide +kernel
theorem w_applies : (headSpec (Jvm.Cond.code x code maxLocals ret :: tables_1) room_1).applies x e0.platform about1 = true :=
  (Spec.applies_iff w_frames).mpr ⟨w_running, w_runnable, w_alone, w_named, w_hears, w_ripe, w_room, w_tables⟩
theorem atStart : AtStart classFile x code maxLocals ret World_1 tables_1 room_1 Calls_1 rest_1 Pre_1 launch0 p0 e0 about1 theMethod args0 below0 :=
  ⟨lists_1, trivial, launch0.admits_env _ _ _, launch0.least_env, fairChoices_fair.cas, fairChoices_fair.clock, w_frames, w_args, w_heap, w_applies, trivial, w_rest, w_case⟩
end start1
theorem witness_1 : WitnessClaimed_1 := ⟨start1.p0, start1.e0, start1.about1, start1.theMethod, start1.args0, start1.below0, start1.atStart⟩
end Jvm.Pilot.@@N@@
