import JvmDerived
import JvmDerived.Pilot.@@N@@Statement
import JvmDerived.Pilot.@@N@@Code
set_option linter.unusedVariables false
set_option linter.unusedSimpArgs false
namespace Jvm.RoadKit
open Sem ClassFile Op Lib Jvm.Stand Jvm.Free Jvm.LawKit
section New
variable {p : Program} {l : Launch} {e : Env} {R : Room} {s : State} {m : MethodId} {args : Array Value} {below : List Frame} {meth : Method} {c : Code} {T : State} {locs : List Loc} {cells slots : Nat}
theorem retI (X : Stand p l e R s m args below meth c T locs cells slots) (hx : p.tables.exec = Jvm.exec) {pc : Nat} {Ls : Array Slot} {z : Int32} {rest : List Value} (hret : meth.sig.returnType = some .int) (hd : decode c.code pc = .ok (.ireturn, 1)) {fs : List Frame}
    (hl : ∀ (f : JFrame) (acts : List Action), f.method = m → f.locked = none → f.entered = [] → (doReturn e (T.setTop f) acts (some (.int z))).1 = T.setFrames fs) : Steps p.tables e below (T.setTop (mkF m pc Ls (.int z :: rest))) (T.setFrames fs) :=
  retOut X hx hret rfl (Or.inl ⟨rfl, Or.inl rfl, _, rfl⟩) hd hl
theorem own_sta_keep {Z : State} {h h' : Heap} {C n d : String} {w : Value} {ws : List Addr} (F : Sta Z h C n d w) (K : Keep h h' ws) (ns : ∀ x ∈ ws, ∀ cell : Cell, h[x]? = some cell → cell.vm.isStatics = false) : Sta Z h' C n d w := by
  obtain ⟨cf, i, k, f, st, cell, h1, h2, h3, h4, h5, h6, h7⟩ := F
  refine ⟨cf, i, k, f, st, cell, h1, h2, h3, h4, K.2.1 st cell h5 (fun hm => ?_), h6, h7⟩
  rw [ns st hm cell h5] at h6
  cases h6
theorem own_selp {s : State} {args : Array Value} {w y : MethodName} (hs : (Cond.selects w.cls w w).before args s = true) (e : w.cls = y.cls) (hp : s.PrivateAt y) (hi : (Cond.instanceMethod y).before args s = true) (hy : y.cls ≠ "java/lang/invoke/MethodHandle" ∧ y.cls ≠ "java/lang/invoke/VarHandle") : (Cond.selects y.cls y y).before args s = true := by
  obtain ⟨c2, r2, m2, q1, q2, q3, q4, kP, hkP, hkPi⟩ := Cond.selects_spec hs
  exact selects_self_of_private (c := m2.cls) (by rw [← e]; exact findClass_of_methodNamed q3) hkP hkPi hp hi hy
end New
end Jvm.RoadKit
namespace Jvm.Pilot.@@N@@
open Jvm Jvm.ClassFile Sem Op Lib Jvm.Free Jvm.Stand Jvm.LawKit Jvm.RoadKit Bundle Jvm.Pilot.@@N@@.Jvm.D
theorem d1_0 : decode method_2_code 0 = .ok (.iload_n 0, 1) := by decide +kernel
theorem d1_1 : decode method_2_code 1 = .ok (.iconst 3, 1) := by decide +kernel
theorem d1_2 : decode method_2_code 2 = .ok (.iand, 1) := by decide +kernel
theorem d1_3 : decode method_2_code 3 = .ok (.istore_n 1, 1) := by decide +kernel
theorem d1_4 : decode method_2_code 4 = .ok (.iload_n 0, 1) := by decide +kernel
theorem d1_5 : decode method_2_code 5 = .ok (.iconst 2, 1) := by decide +kernel
theorem d1_6 : decode method_2_code 6 = .ok (.iushr, 1) := by decide +kernel
theorem d1_7 : decode method_2_code 7 = .ok (.istore_n 2, 1) := by decide +kernel
theorem d1_8 : decode method_2_code 8 = .ok (.iload_n 1, 1) := by decide +kernel
theorem d1_9 : decode method_2_code 9 = .ok (.ifCond .ne 12, 3) := by decide +kernel
theorem d1_12 : decode method_2_code 12 = .ok (.bipush 48, 2) := by decide +kernel
theorem d1_14 : decode method_2_code 14 = .ok (.iload_n 2, 1) := by decide +kernel
theorem d1_15 : decode method_2_code 15 = .ok (.bipush 10, 2) := by decide +kernel
theorem d1_17 : decode method_2_code 17 = .ok (.irem, 1) := by decide +kernel
theorem d1_18 : decode method_2_code 18 = .ok (.iadd, 1) := by decide +kernel
theorem d1_19 : decode method_2_code 19 = .ok (.i2c, 1) := by decide +kernel
theorem d1_20 : decode method_2_code 20 = .ok (.ireturn, 1) := by decide +kernel
theorem d1_21 : decode method_2_code 21 = .ok (.iload_n 1, 1) := by decide +kernel
theorem d1_22 : decode method_2_code 22 = .ok (.iconst 1, 1) := by decide +kernel
theorem d1_23 : decode method_2_code 23 = .ok (.if_icmp .ne 17, 3) := by decide +kernel
theorem d1_26 : decode method_2_code 26 = .ok (.iload_n 2, 1) := by decide +kernel
theorem d1_27 : decode method_2_code 27 = .ok (.iconst 1, 1) := by decide +kernel
theorem d1_28 : decode method_2_code 28 = .ok (.iand, 1) := by decide +kernel
theorem d1_29 : decode method_2_code 29 = .ok (.ifCond .ne 8, 3) := by decide +kernel
theorem d1_32 : decode method_2_code 32 = .ok (.bipush 43, 2) := by decide +kernel
theorem d1_34 : decode method_2_code 34 = .ok (.goto 5, 3) := by decide +kernel
theorem d1_37 : decode method_2_code 37 = .ok (.bipush 45, 2) := by decide +kernel
theorem d1_39 : decode method_2_code 39 = .ok (.ireturn, 1) := by decide +kernel
theorem d1_40 : decode method_2_code 40 = .ok (.iload_n 1, 1) := by decide +kernel
theorem d1_41 : decode method_2_code 41 = .ok (.iconst 2, 1) := by decide +kernel
theorem d1_42 : decode method_2_code 42 = .ok (.if_icmp .ne 6, 3) := by decide +kernel
theorem d1_45 : decode method_2_code 45 = .ok (.bipush 46, 2) := by decide +kernel
theorem d1_47 : decode method_2_code 47 = .ok (.ireturn, 1) := by decide +kernel
theorem d1_48 : decode method_2_code 48 = .ok (.iload_n 2, 1) := by decide +kernel
theorem d1_49 : decode method_2_code 49 = .ok (.i2c, 1) := by decide +kernel
theorem d1_50 : decode method_2_code 50 = .ok (.ireturn, 1) := by decide +kernel
theorem d2_0 : decode prog_10_method_1_code 0 = .ok (.aload_n 0, 1) := by decide +kernel
theorem d2_1 : decode prog_10_method_1_code 1 = .ok (.invokespecial 1, 3) := by decide +kernel
theorem d2_4 : decode prog_10_method_1_code 4 = .ok (.return_, 1) := by decide +kernel
theorem d4_0 : decode prog_10_method_2_code 0 = .ok (.aload_n 0, 1) := by decide +kernel
theorem d4_1 : decode prog_10_method_2_code 1 = .ok (.aload_n 1, 1) := by decide +kernel
theorem d4_2 : decode prog_10_method_2_code 2 = .ok (.getstatic 7, 3) := by decide +kernel
theorem d4_5 : decode prog_10_method_2_code 5 = .ok (.if_acmp .ne 7, 3) := by decide +kernel
theorem d4_8 : decode prog_10_method_2_code 8 = .ok (.iconst 1, 1) := by decide +kernel
theorem d4_9 : decode prog_10_method_2_code 9 = .ok (.goto 4, 3) := by decide +kernel
theorem d4_12 : decode prog_10_method_2_code 12 = .ok (.iconst 0, 1) := by decide +kernel
theorem d4_13 : decode prog_10_method_2_code 13 = .ok (.putfield 13, 3) := by decide +kernel
theorem d4_16 : decode prog_10_method_2_code 16 = .ok (.aload_n 0, 1) := by decide +kernel
theorem d4_17 : decode prog_10_method_2_code 17 = .ok (.getstatic 19, 3) := by decide +kernel
theorem d4_20 : decode prog_10_method_2_code 20 = .ok (.putfield 25, 3) := by decide +kernel
theorem d4_23 : decode prog_10_method_2_code 23 = .ok (.aload_n 0, 1) := by decide +kernel
theorem d4_24 : decode prog_10_method_2_code 24 = .ok (.iconst 0, 1) := by decide +kernel
theorem d4_25 : decode prog_10_method_2_code 25 = .ok (.putfield 28, 3) := by decide +kernel
theorem d4_28 : decode prog_10_method_2_code 28 = .ok (.aload_n 0, 1) := by decide +kernel
theorem d4_29 : decode prog_10_method_2_code 29 = .ok (.iconst 0, 1) := by decide +kernel
theorem d4_30 : decode prog_10_method_2_code 30 = .ok (.putfield 31, 3) := by decide +kernel
theorem d4_33 : decode prog_10_method_2_code 33 = .ok (.aload_n 0, 1) := by decide +kernel
theorem d4_34 : decode prog_10_method_2_code 34 = .ok (.lconst 0, 1) := by decide +kernel
theorem d4_35 : decode prog_10_method_2_code 35 = .ok (.putfield 34, 3) := by decide +kernel
theorem d4_38 : decode prog_10_method_2_code 38 = .ok (.aload_n 0, 1) := by decide +kernel
theorem d4_39 : decode prog_10_method_2_code 39 = .ok (.lconst 0, 1) := by decide +kernel
theorem d4_40 : decode prog_10_method_2_code 40 = .ok (.putfield 38, 3) := by decide +kernel
theorem d4_43 : decode prog_10_method_2_code 43 = .ok (.aload_n 0, 1) := by decide +kernel
theorem d4_44 : decode prog_10_method_2_code 44 = .ok (.lconst 0, 1) := by decide +kernel
theorem d4_45 : decode prog_10_method_2_code 45 = .ok (.putfield 41, 3) := by decide +kernel
theorem d4_48 : decode prog_10_method_2_code 48 = .ok (.aload_n 0, 1) := by decide +kernel
theorem d4_49 : decode prog_10_method_2_code 49 = .ok (.lconst 0, 1) := by decide +kernel
theorem d4_50 : decode prog_10_method_2_code 50 = .ok (.putfield 44, 3) := by decide +kernel
theorem d4_53 : decode prog_10_method_2_code 53 = .ok (.return_, 1) := by decide +kernel
theorem d5_0 : decode prog_10_method_6_code 0 = .ok (.aload_n 0, 1) := by decide +kernel
theorem d5_1 : decode prog_10_method_6_code 1 = .ok (.getfield 25, 3) := by decide +kernel
theorem d5_4 : decode prog_10_method_6_code 4 = .ok (.getstatic 47, 3) := by decide +kernel
theorem d5_7 : decode prog_10_method_6_code 7 = .ok (.if_acmp .eq 14, 3) := by decide +kernel
theorem d5_10 : decode prog_10_method_6_code 10 = .ok (.aload_n 0, 1) := by decide +kernel
theorem d5_11 : decode prog_10_method_6_code 11 = .ok (.getfield 31, 3) := by decide +kernel
theorem d5_14 : decode prog_10_method_6_code 14 = .ok (.ifCond .eq 7, 3) := by decide +kernel
theorem d5_17 : decode prog_10_method_6_code 17 = .ok (.iconst 1, 1) := by decide +kernel
theorem d5_18 : decode prog_10_method_6_code 18 = .ok (.goto 4, 3) := by decide +kernel
theorem d5_21 : decode prog_10_method_6_code 21 = .ok (.iconst 0, 1) := by decide +kernel
theorem d5_22 : decode prog_10_method_6_code 22 = .ok (.ireturn, 1) := by decide +kernel
theorem d6_0 : decode prog_10_method_3_code 0 = .ok (.aload_n 0, 1) := by decide +kernel
theorem d6_1 : decode prog_10_method_3_code 1 = .ok (.getfield 25, 3) := by decide +kernel
theorem d6_4 : decode prog_10_method_3_code 4 = .ok (.getstatic 47, 3) := by decide +kernel
theorem d6_7 : decode prog_10_method_3_code 7 = .ok (.if_acmp .ne 4, 3) := by decide +kernel
theorem d6_10 : decode prog_10_method_3_code 10 = .ok (.return_, 1) := by decide +kernel
theorem d6_11 : decode prog_10_method_3_code 11 = .ok (.aload_n 0, 1) := by decide +kernel
theorem d6_12 : decode prog_10_method_3_code 12 = .ok (.getfield 25, 3) := by decide +kernel
theorem d6_15 : decode prog_10_method_3_code 15 = .ok (.getstatic 19, 3) := by decide +kernel
theorem d6_18 : decode prog_10_method_3_code 18 = .ok (.if_acmp .ne 38, 3) := by decide +kernel
theorem d6_21 : decode prog_10_method_3_code 21 = .ok (.aload_n 0, 1) := by decide +kernel
theorem d6_22 : decode prog_10_method_3_code 22 = .ok (.getstatic 50, 3) := by decide +kernel
theorem d6_25 : decode prog_10_method_3_code 25 = .ok (.putfield 25, 3) := by decide +kernel
theorem d6_28 : decode prog_10_method_3_code 28 = .ok (.iload_n 1, 1) := by decide +kernel
theorem d6_29 : decode prog_10_method_3_code 29 = .ok (.bipush 45, 2) := by decide +kernel
theorem d6_31 : decode prog_10_method_3_code 31 = .ok (.if_icmp .eq 9, 3) := by decide +kernel
theorem d6_34 : decode prog_10_method_3_code 34 = .ok (.iload_n 1, 1) := by decide +kernel
theorem d6_35 : decode prog_10_method_3_code 35 = .ok (.bipush 43, 2) := by decide +kernel
theorem d6_37 : decode prog_10_method_3_code 37 = .ok (.if_icmp .ne 19, 3) := by decide +kernel
theorem d6_40 : decode prog_10_method_3_code 40 = .ok (.aload_n 0, 1) := by decide +kernel
theorem d6_41 : decode prog_10_method_3_code 41 = .ok (.iload_n 1, 1) := by decide +kernel
theorem d6_42 : decode prog_10_method_3_code 42 = .ok (.bipush 45, 2) := by decide +kernel
theorem d6_44 : decode prog_10_method_3_code 44 = .ok (.if_icmp .ne 7, 3) := by decide +kernel
theorem d6_47 : decode prog_10_method_3_code 47 = .ok (.iconst 1, 1) := by decide +kernel
theorem d6_48 : decode prog_10_method_3_code 48 = .ok (.goto 4, 3) := by decide +kernel
theorem d6_51 : decode prog_10_method_3_code 51 = .ok (.iconst 0, 1) := by decide +kernel
theorem d6_52 : decode prog_10_method_3_code 52 = .ok (.putfield 28, 3) := by decide +kernel
theorem d6_55 : decode prog_10_method_3_code 55 = .ok (.return_, 1) := by decide +kernel
theorem d6_56 : decode prog_10_method_3_code 56 = .ok (.iload_n 1, 1) := by decide +kernel
theorem d6_57 : decode prog_10_method_3_code 57 = .ok (.bipush 48, 2) := by decide +kernel
theorem d6_59 : decode prog_10_method_3_code 59 = .ok (.if_icmp .lt 25, 3) := by decide +kernel
theorem d6_62 : decode prog_10_method_3_code 62 = .ok (.iload_n 1, 1) := by decide +kernel
theorem d6_63 : decode prog_10_method_3_code 63 = .ok (.bipush 57, 2) := by decide +kernel
theorem d6_65 : decode prog_10_method_3_code 65 = .ok (.if_icmp .gt 19, 3) := by decide +kernel
theorem d6_68 : decode prog_10_method_3_code 68 = .ok (.aload_n 0, 1) := by decide +kernel
theorem d6_69 : decode prog_10_method_3_code 69 = .ok (.iconst 1, 1) := by decide +kernel
theorem d6_70 : decode prog_10_method_3_code 70 = .ok (.putfield 31, 3) := by decide +kernel
theorem d6_73 : decode prog_10_method_3_code 73 = .ok (.aload_n 0, 1) := by decide +kernel
theorem d6_74 : decode prog_10_method_3_code 74 = .ok (.iload_n 1, 1) := by decide +kernel
theorem d6_75 : decode prog_10_method_3_code 75 = .ok (.bipush 48, 2) := by decide +kernel
theorem d6_77 : decode prog_10_method_3_code 77 = .ok (.isub, 1) := by decide +kernel
theorem d6_78 : decode prog_10_method_3_code 78 = .ok (.invokevirtual 52, 3) := by decide +kernel
theorem d6_81 : decode prog_10_method_3_code 81 = .ok (.goto 43, 3) := by decide +kernel
theorem d6_84 : decode prog_10_method_3_code 84 = .ok (.iload_n 1, 1) := by decide +kernel
theorem d6_85 : decode prog_10_method_3_code 85 = .ok (.bipush 46, 2) := by decide +kernel
theorem d6_87 : decode prog_10_method_3_code 87 = .ok (.if_icmp .ne 30, 3) := by decide +kernel
theorem d6_90 : decode prog_10_method_3_code 90 = .ok (.aload_n 0, 1) := by decide +kernel
theorem d6_91 : decode prog_10_method_3_code 91 = .ok (.getfield 25, 3) := by decide +kernel
theorem d6_94 : decode prog_10_method_3_code 94 = .ok (.getstatic 50, 3) := by decide +kernel
theorem d6_97 : decode prog_10_method_3_code 97 = .ok (.if_acmp .ne 20, 3) := by decide +kernel
theorem d6_100 : decode prog_10_method_3_code 100 = .ok (.aload_n 0, 1) := by decide +kernel
theorem d6_101 : decode prog_10_method_3_code 101 = .ok (.getfield 13, 3) := by decide +kernel
theorem d6_104 : decode prog_10_method_3_code 104 = .ok (.ifCond .ne 13, 3) := by decide +kernel
theorem d6_107 : decode prog_10_method_3_code 107 = .ok (.aload_n 0, 1) := by decide +kernel
theorem d6_108 : decode prog_10_method_3_code 108 = .ok (.getstatic 56, 3) := by decide +kernel
theorem d6_111 : decode prog_10_method_3_code 111 = .ok (.putfield 25, 3) := by decide +kernel
theorem d6_114 : decode prog_10_method_3_code 114 = .ok (.goto 10, 3) := by decide +kernel
theorem d6_117 : decode prog_10_method_3_code 117 = .ok (.aload_n 0, 1) := by decide +kernel
theorem d6_118 : decode prog_10_method_3_code 118 = .ok (.getstatic 47, 3) := by decide +kernel
theorem d6_121 : decode prog_10_method_3_code 121 = .ok (.putfield 25, 3) := by decide +kernel
theorem d6_124 : decode prog_10_method_3_code 124 = .ok (.return_, 1) := by decide +kernel
theorem d7_0 : decode prog_10_method_4_code 0 = .ok (.aload_n 0, 1) := by decide +kernel
theorem d7_1 : decode prog_10_method_4_code 1 = .ok (.getfield 25, 3) := by decide +kernel
theorem d7_4 : decode prog_10_method_4_code 4 = .ok (.getstatic 50, 3) := by decide +kernel
theorem d7_7 : decode prog_10_method_4_code 7 = .ok (.if_acmp .ne 35, 3) := by decide +kernel
theorem d7_10 : decode prog_10_method_4_code 10 = .ok (.aload_n 0, 1) := by decide +kernel
theorem d7_11 : decode prog_10_method_4_code 11 = .ok (.getfield 34, 3) := by decide +kernel
theorem d7_14 : decode prog_10_method_4_code 14 = .ok (.lconst 0, 1) := by decide +kernel
theorem d7_15 : decode prog_10_method_4_code 15 = .ok (.lcmp, 1) := by decide +kernel
theorem d7_16 : decode prog_10_method_4_code 16 = .ok (.ifCond .gt 7, 3) := by decide +kernel
theorem d7_19 : decode prog_10_method_4_code 19 = .ok (.iload_n 1, 1) := by decide +kernel
theorem d7_20 : decode prog_10_method_4_code 20 = .ok (.ifCond .eq 68, 3) := by decide +kernel
theorem d7_23 : decode prog_10_method_4_code 23 = .ok (.aload_n 0, 1) := by decide +kernel
theorem d7_24 : decode prog_10_method_4_code 24 = .ok (.dup, 1) := by decide +kernel
theorem d7_25 : decode prog_10_method_4_code 25 = .ok (.getfield 34, 3) := by decide +kernel
theorem d7_28 : decode prog_10_method_4_code 28 = .ok (.lconst 1, 1) := by decide +kernel
theorem d7_29 : decode prog_10_method_4_code 29 = .ok (.ladd, 1) := by decide +kernel
theorem d7_30 : decode prog_10_method_4_code 30 = .ok (.putfield 34, 3) := by decide +kernel
theorem d7_33 : decode prog_10_method_4_code 33 = .ok (.aload_n 0, 1) := by decide +kernel
theorem d7_34 : decode prog_10_method_4_code 34 = .ok (.lconst 0, 1) := by decide +kernel
theorem d7_35 : decode prog_10_method_4_code 35 = .ok (.iload_n 1, 1) := by decide +kernel
theorem d7_36 : decode prog_10_method_4_code 36 = .ok (.invokevirtual 59, 3) := by decide +kernel
theorem d7_39 : decode prog_10_method_4_code 39 = .ok (.goto 49, 3) := by decide +kernel
theorem d7_42 : decode prog_10_method_4_code 42 = .ok (.iload_n 1, 1) := by decide +kernel
theorem d7_43 : decode prog_10_method_4_code 43 = .ok (.ifCond .ne 16, 3) := by decide +kernel
theorem d7_46 : decode prog_10_method_4_code 46 = .ok (.aload_n 0, 1) := by decide +kernel
theorem d7_47 : decode prog_10_method_4_code 47 = .ok (.dup, 1) := by decide +kernel
theorem d7_48 : decode prog_10_method_4_code 48 = .ok (.getfield 41, 3) := by decide +kernel
theorem d7_51 : decode prog_10_method_4_code 51 = .ok (.lconst 1, 1) := by decide +kernel
theorem d7_52 : decode prog_10_method_4_code 52 = .ok (.ladd, 1) := by decide +kernel
theorem d7_53 : decode prog_10_method_4_code 53 = .ok (.putfield 41, 3) := by decide +kernel
theorem d7_56 : decode prog_10_method_4_code 56 = .ok (.goto 32, 3) := by decide +kernel
theorem d7_59 : decode prog_10_method_4_code 59 = .ok (.aload_n 0, 1) := by decide +kernel
theorem d7_60 : decode prog_10_method_4_code 60 = .ok (.dup, 1) := by decide +kernel
theorem d7_61 : decode prog_10_method_4_code 61 = .ok (.getfield 38, 3) := by decide +kernel
theorem d7_64 : decode prog_10_method_4_code 64 = .ok (.aload_n 0, 1) := by decide +kernel
theorem d7_65 : decode prog_10_method_4_code 65 = .ok (.getfield 41, 3) := by decide +kernel
theorem d7_68 : decode prog_10_method_4_code 68 = .ok (.lconst 1, 1) := by decide +kernel
theorem d7_69 : decode prog_10_method_4_code 69 = .ok (.ladd, 1) := by decide +kernel
theorem d7_70 : decode prog_10_method_4_code 70 = .ok (.ladd, 1) := by decide +kernel
theorem d7_71 : decode prog_10_method_4_code 71 = .ok (.putfield 38, 3) := by decide +kernel
theorem d7_74 : decode prog_10_method_4_code 74 = .ok (.aload_n 0, 1) := by decide +kernel
theorem d7_75 : decode prog_10_method_4_code 75 = .ok (.aload_n 0, 1) := by decide +kernel
theorem d7_76 : decode prog_10_method_4_code 76 = .ok (.getfield 41, 3) := by decide +kernel
theorem d7_79 : decode prog_10_method_4_code 79 = .ok (.iload_n 1, 1) := by decide +kernel
theorem d7_80 : decode prog_10_method_4_code 80 = .ok (.invokevirtual 59, 3) := by decide +kernel
theorem d7_83 : decode prog_10_method_4_code 83 = .ok (.aload_n 0, 1) := by decide +kernel
theorem d7_84 : decode prog_10_method_4_code 84 = .ok (.lconst 0, 1) := by decide +kernel
theorem d7_85 : decode prog_10_method_4_code 85 = .ok (.putfield 41, 3) := by decide +kernel
theorem d7_88 : decode prog_10_method_4_code 88 = .ok (.return_, 1) := by decide +kernel
theorem d8_0 : decode prog_10_method_5_code 0 = .ok (.aload_n 0, 1) := by decide +kernel
theorem d8_1 : decode prog_10_method_5_code 1 = .ok (.invokevirtual 63, 3) := by decide +kernel
theorem d8_4 : decode prog_10_method_5_code 4 = .ok (.ldc2_w 69, 3) := by decide +kernel
theorem d8_7 : decode prog_10_method_5_code 7 = .ok (.lcmp, 1) := by decide +kernel
theorem d8_8 : decode prog_10_method_5_code 8 = .ok (.ifCond .gt 49, 3) := by decide +kernel
theorem d8_11 : decode prog_10_method_5_code 11 = .ok (.lconst 0, 1) := by decide +kernel
theorem d8_12 : decode prog_10_method_5_code 12 = .ok (.lstore 4, 2) := by decide +kernel
theorem d8_14 : decode prog_10_method_5_code 14 = .ok (.lload 4, 2) := by decide +kernel
theorem d8_16 : decode prog_10_method_5_code 16 = .ok (.lload_n 1, 1) := by decide +kernel
theorem d8_17 : decode prog_10_method_5_code 17 = .ok (.lcmp, 1) := by decide +kernel
theorem d8_18 : decode prog_10_method_5_code 18 = .ok (.ifCond .ge 24, 3) := by decide +kernel
theorem d8_21 : decode prog_10_method_5_code 21 = .ok (.aload_n 0, 1) := by decide +kernel
theorem d8_22 : decode prog_10_method_5_code 22 = .ok (.dup, 1) := by decide +kernel
theorem d8_23 : decode prog_10_method_5_code 23 = .ok (.getfield 44, 3) := by decide +kernel
theorem d8_26 : decode prog_10_method_5_code 26 = .ok (.ldc2_w 71, 3) := by decide +kernel
theorem d8_29 : decode prog_10_method_5_code 29 = .ok (.lmul, 1) := by decide +kernel
theorem d8_30 : decode prog_10_method_5_code 30 = .ok (.putfield 44, 3) := by decide +kernel
theorem d8_33 : decode prog_10_method_5_code 33 = .ok (.lload 4, 2) := by decide +kernel
theorem d8_35 : decode prog_10_method_5_code 35 = .ok (.lconst 1, 1) := by decide +kernel
theorem d8_36 : decode prog_10_method_5_code 36 = .ok (.ladd, 1) := by decide +kernel
theorem d8_37 : decode prog_10_method_5_code 37 = .ok (.lstore 4, 2) := by decide +kernel
theorem d8_39 : decode prog_10_method_5_code 39 = .ok (.goto (-25), 3) := by decide +kernel
theorem d8_42 : decode prog_10_method_5_code 42 = .ok (.aload_n 0, 1) := by decide +kernel
theorem d8_43 : decode prog_10_method_5_code 43 = .ok (.aload_n 0, 1) := by decide +kernel
theorem d8_44 : decode prog_10_method_5_code 44 = .ok (.getfield 44, 3) := by decide +kernel
theorem d8_47 : decode prog_10_method_5_code 47 = .ok (.ldc2_w 71, 3) := by decide +kernel
theorem d8_50 : decode prog_10_method_5_code 50 = .ok (.lmul, 1) := by decide +kernel
theorem d8_51 : decode prog_10_method_5_code 51 = .ok (.iload_n 3, 1) := by decide +kernel
theorem d8_52 : decode prog_10_method_5_code 52 = .ok (.i2l, 1) := by decide +kernel
theorem d8_53 : decode prog_10_method_5_code 53 = .ok (.ladd, 1) := by decide +kernel
theorem d8_54 : decode prog_10_method_5_code 54 = .ok (.putfield 44, 3) := by decide +kernel
theorem d8_57 : decode prog_10_method_5_code 57 = .ok (.return_, 1) := by decide +kernel
theorem d9_0 : decode prog_10_method_9_code 0 = .ok (.aload_n 0, 1) := by decide +kernel
theorem d9_1 : decode prog_10_method_9_code 1 = .ok (.getfield 34, 3) := by decide +kernel
theorem d9_4 : decode prog_10_method_9_code 4 = .ok (.aload_n 0, 1) := by decide +kernel
theorem d9_5 : decode prog_10_method_9_code 5 = .ok (.getfield 38, 3) := by decide +kernel
theorem d9_8 : decode prog_10_method_9_code 8 = .ok (.ladd, 1) := by decide +kernel
theorem d9_9 : decode prog_10_method_9_code 9 = .ok (.lreturn, 1) := by decide +kernel
theorem d10_0 : decode method_4_code 0 = .ok (.iload_n 0, 1) := by decide +kernel
theorem d10_1 : decode method_4_code 1 = .ok (.invokestatic 7, 3) := by decide +kernel
theorem d10_4 : decode method_4_code 4 = .ok (.ifCond .ne 25, 3) := by decide +kernel
theorem d10_7 : decode method_4_code 7 = .ok (.iload_n 0, 1) := by decide +kernel
theorem d10_8 : decode method_4_code 8 = .ok (.bipush 46, 2) := by decide +kernel
theorem d10_10 : decode method_4_code 10 = .ok (.if_icmp .eq 19, 3) := by decide +kernel
theorem d10_13 : decode method_4_code 13 = .ok (.iload_n 1, 1) := by decide +kernel
theorem d10_14 : decode method_4_code 14 = .ok (.ifCond .ne 19, 3) := by decide +kernel
theorem d10_17 : decode method_4_code 17 = .ok (.iload_n 0, 1) := by decide +kernel
theorem d10_18 : decode method_4_code 18 = .ok (.bipush 43, 2) := by decide +kernel
theorem d10_20 : decode method_4_code 20 = .ok (.if_icmp .eq 9, 3) := by decide +kernel
theorem d10_23 : decode method_4_code 23 = .ok (.iload_n 0, 1) := by decide +kernel
theorem d10_24 : decode method_4_code 24 = .ok (.bipush 45, 2) := by decide +kernel
theorem d10_26 : decode method_4_code 26 = .ok (.if_icmp .ne 7, 3) := by decide +kernel
theorem d10_29 : decode method_4_code 29 = .ok (.iconst 1, 1) := by decide +kernel
theorem d10_30 : decode method_4_code 30 = .ok (.goto 4, 3) := by decide +kernel
theorem d10_33 : decode method_4_code 33 = .ok (.iconst 0, 1) := by decide +kernel
theorem d10_34 : decode method_4_code 34 = .ok (.ireturn, 1) := by decide +kernel
theorem d11_0 : decode method_3_code 0 = .ok (.iload_n 0, 1) := by decide +kernel
theorem d11_1 : decode method_3_code 1 = .ok (.bipush 48, 2) := by decide +kernel
theorem d11_3 : decode method_3_code 3 = .ok (.if_icmp .lt 13, 3) := by decide +kernel
theorem d11_6 : decode method_3_code 6 = .ok (.iload_n 0, 1) := by decide +kernel
theorem d11_7 : decode method_3_code 7 = .ok (.bipush 57, 2) := by decide +kernel
theorem d11_9 : decode method_3_code 9 = .ok (.if_icmp .gt 7, 3) := by decide +kernel
theorem d11_12 : decode method_3_code 12 = .ok (.iconst 1, 1) := by decide +kernel
theorem d11_13 : decode method_3_code 13 = .ok (.goto 4, 3) := by decide +kernel
theorem d11_16 : decode method_3_code 16 = .ok (.iconst 0, 1) := by decide +kernel
theorem d11_17 : decode method_3_code 17 = .ok (.ireturn, 1) := by decide +kernel
theorem pn_0 : plainName "com/example/strumyk/strumyk/check/NumberText" = true := by first | (simp [plainName, overriddenIn]; done) | decide +kernel
theorem pd_1 : parseMethodDescriptor "()J" = some ⟨[], some .long⟩ := by decide +kernel
theorem pd_2 : parseMethodDescriptor "(JI)V" = some ⟨[.long, .int], none⟩ := by decide +kernel
theorem pd_3 : parseMethodDescriptor "(I)V" = some ⟨[.int], none⟩ := by decide +kernel
theorem pn_4 : plainName "com/example/strumyk/strumyk/check/NumberTextWellFormedPinLaw" = true := by first | (simp [plainName, overriddenIn]; done) | decide +kernel
theorem pd_5 : parseMethodDescriptor "(C)Z" = some ⟨[.char], some .boolean⟩ := by decide +kernel
theorem pd_6 : parseMethodDescriptor "(I)C" = some ⟨[.int], some .char⟩ := by decide +kernel
theorem pd_7 : parseMethodDescriptor "()V" = some ⟨[], none⟩ := by decide +kernel
theorem pd_8 : parseMethodDescriptor "(Lcom/example/strumyk/strumyk/message/SimpleType$Form;)V" = some ⟨[(.object "com/example/strumyk/strumyk/message/SimpleType$Form")], none⟩ := by decide +kernel
theorem pd_9 : parseMethodDescriptor "()Z" = some ⟨[], some .boolean⟩ := by decide +kernel
theorem pd_10 : parseMethodDescriptor "(C)V" = some ⟨[.char], none⟩ := by decide +kernel
theorem pd_11 : parseMethodDescriptor "(CI)Z" = some ⟨[.char, .int], some .boolean⟩ := by decide +kernel
def own_i (b : Bool) : Int32 := if b then 1 else 0
theorem own_i_eq0 {b : Bool} : own_i b = 0 ↔ b = false := by cases b <;> decide
theorem own_i01 {b : Bool} {z : Int32} (e : z = own_i b) : z = 0 ∨ z = 1 := by
  subst e
  cases b
  · exact Or.inl rfl
  · exact Or.inr rfl
def own_ad (sS sI sF sB : Addr) : Nat → Addr
  | 0 => sS
  | 1 => sI
  | 2 => sF
  | _ => sB
def own_sel (b : Bool) (x y : Addr) : Addr := if b then x else y
def own_limB (b : Bool) : Int32 := if b then 1 else 0
def own_lim (ii : Int32) : Int32 := own_limB (decide (ii = 0))
theorem own_io {b : Bool} {z : Int32} {fD fI : Addr} (e : z = own_i b) (h : fD ≠ fI) : z = own_i (decide (own_sel (decide (z = 0)) fD fI = fI)) := by
  subst e
  cases b
  · simp [own_i, own_sel, h]
  · simp [own_i, own_sel]
def own_D (c : Int32) : Bool := ! decide (c < 48) && ! decide (57 < c)
def own_P (c : Int32) : Bool := decide (c = 46)
def own_G (c : Int32) : Bool := decide (c = 45) || decide (c = 43)
def own_nxB (s : Nat) (D P G i : Bool) : Nat := if s = 3 then 3 else if s = 0 ∧ G = true then 1 else if D then (if s = 0 then 1 else if s < 4 then s else 3) else if P = true ∧ s ≤ 1 ∧ i = true then 2 else 3
def own_nx (s : Nat) (c io : Int32) : Nat := own_nxB s (own_D c) (own_P c) (own_G c) (decide (io = 0))
def own_drB (s : Nat) (D G : Bool) (dr : Int32) : Int32 := if s = 3 then dr else if s = 0 ∧ G = true then dr else if D then 1 else dr
def own_dr (s : Nat) (c dr : Int32) : Int32 := own_drB s (own_D c) (own_G c) dr
def own_wf (s : Nat) (dr : Int32) : Bool := ! decide (s = 3) && ! decide (dr = 0)
def own_al (c pos : Int32) : Bool := own_D c || own_P c || (decide (pos = 0) && own_G c)
theorem own_nx4 (s : Nat) (c io : Int32) : own_nx s c io < 4 := by
  unfold own_nx own_nxB
  repeat' split
  all_goals omega
theorem own_s4 {s : Nat} (h : s < 4) : s = 0 ∨ s = 1 ∨ s = 2 ∨ s = 3 := by omega
theorem own_q4 {B : Int} {z : Int64} (hB : B ≤ 3) (h : 0 ≤ z.toInt ∧ z.toInt ≤ B) : z = 0 ∨ z = 1 ∨ z = 2 ∨ z = 3 := by
  simp only [← Int64.toInt_inj]
  have z0 : (0 : Int64).toInt = 0 := rfl
  have z1 : (1 : Int64).toInt = 1 := rfl
  have z2 : (2 : Int64).toInt = 2 := rfl
  have z3 : (3 : Int64).toInt = 3 := rfl
  omega
theorem own_pz0 {B : Int} {z : Int64} (h : 0 ≤ z.toInt ∧ z.toInt ≤ B) : 0 ≤ (0 : Int64).toInt ∧ (0 : Int64).toInt ≤ B + 1 := by
  have z0 : (0 : Int64).toInt = 0 := rfl
  omega
theorem own_pz1 {B : Int} {z : Int64} (hB : B ≤ 3) (h : 0 ≤ z.toInt ∧ z.toInt ≤ B) : 0 ≤ (z + (1 : Int64)).toInt ∧ (z + (1 : Int64)).toInt ≤ B + 1 := by
  have a := c_ladd z 1
  have r := rng64 (z + 1)
  have z1 : (1 : Int64).toInt = 1 := rfl
  omega
theorem own_n5 {p a : Int32} (e : a = (((p.toUInt32 >>> ((1 : Int32) &&& 31).toUInt32).toInt32) % (5 : Int32))) : a = 0 ∨ a = 1 ∨ a = 2 ∨ a = 3 ∨ a = 4 := by
  have h1 := c_iushr p 1 1 (by decide) (by decide)
  have h3 := (c_irem ((p.toUInt32 >>> ((1 : Int32) &&& 31).toUInt32).toInt32) 5 5 rfl).1 (by omega)
  rw [← e] at h3
  simp only [← Int32.toInt_inj]
  have z0 : (0 : Int32).toInt = 0 := rfl
  have z1 : (1 : Int32).toInt = 1 := rfl
  have z2 : (2 : Int32).toInt = 2 := rfl
  have z3 : (3 : Int32).toInt = 3 := rfl
  have z4 : (4 : Int32).toInt = 4 := rfl
  omega
theorem own_ex (c : Int32) : (own_D c && own_P c) = false ∧ (own_D c && own_G c) = false ∧ (own_P c && own_G c) = false := by
  by_cases h1 : c = 46
  · subst h1; decide
  · by_cases h2 : c = 45
    · subst h2; decide
    · by_cases h3 : c = 43
      · subst h3; decide
      · simp [own_P, own_G, h1, h2, h3]
theorem own_fin_0 : own_i (own_wf 0 (0 : Int32)) = (0 : Int32) := by decide
theorem own_finB_1 : ∀ (b d0 q0 g0 : Bool), ((d0 && q0) = false ∧ (d0 && g0) = false ∧ (q0 && g0) = false) → own_i (own_wf (own_nxB 0 d0 q0 g0 b) (own_drB 0 d0 g0 (0 : Int32))) = own_i ((d0 || q0 || (decide ((0 : Int32) = 0) && g0)) && ! decide (((0 : Int32) + (own_i d0)) < (1 : Int32)) && ! decide ((own_limB b) < ((0 : Int32) + (own_i q0)))) := by decide +kernel
theorem own_fin_1 (c0 ii : Int32) : own_i (own_wf (own_nx 0 c0 ii) (own_dr 0 c0 (0 : Int32))) = own_i ((own_al c0 (0 : Int32)) && ! decide (((0 : Int32) + (own_i (own_D c0))) < (1 : Int32)) && ! decide ((own_lim ii) < ((0 : Int32) + (own_i (own_P c0))))) := own_finB_1 _ (own_D c0) (own_P c0) (own_G c0) (own_ex c0)
theorem own_finB_2 : ∀ (b d0 q0 g0 d1 q1 g1 : Bool), ((d0 && q0) = false ∧ (d0 && g0) = false ∧ (q0 && g0) = false) → ((d1 && q1) = false ∧ (d1 && g1) = false ∧ (q1 && g1) = false) → own_i (own_wf (own_nxB (own_nxB 0 d0 q0 g0 b) d1 q1 g1 b) (own_drB (own_nxB 0 d0 q0 g0 b) d1 g1 (own_drB 0 d0 g0 (0 : Int32)))) = own_i (((d0 || q0 || (decide ((0 : Int32) = 0) && g0)) && (d1 || q1 || (decide ((1 : Int32) = 0) && g1))) && ! decide ((((0 : Int32) + (own_i d0)) + (own_i d1)) < (1 : Int32)) && ! decide ((own_limB b) < (((0 : Int32) + (own_i q0)) + (own_i q1)))) := by decide +kernel
theorem own_fin_2 (c0 c1 ii : Int32) : own_i (own_wf (own_nx (own_nx 0 c0 ii) c1 ii) (own_dr (own_nx 0 c0 ii) c1 (own_dr 0 c0 (0 : Int32)))) = own_i (((own_al c0 (0 : Int32)) && own_al c1 (1 : Int32)) && ! decide ((((0 : Int32) + (own_i (own_D c0))) + (own_i (own_D c1))) < (1 : Int32)) && ! decide ((own_lim ii) < (((0 : Int32) + (own_i (own_P c0))) + (own_i (own_P c1))))) := own_finB_2 _ (own_D c0) (own_P c0) (own_G c0) (own_D c1) (own_P c1) (own_G c1) (own_ex c0) (own_ex c1)
theorem own_finB_3 : ∀ (b d0 q0 g0 d1 q1 g1 d2 q2 g2 : Bool), ((d0 && q0) = false ∧ (d0 && g0) = false ∧ (q0 && g0) = false) → ((d1 && q1) = false ∧ (d1 && g1) = false ∧ (q1 && g1) = false) → ((d2 && q2) = false ∧ (d2 && g2) = false ∧ (q2 && g2) = false) → own_i (own_wf (own_nxB (own_nxB (own_nxB 0 d0 q0 g0 b) d1 q1 g1 b) d2 q2 g2 b) (own_drB (own_nxB (own_nxB 0 d0 q0 g0 b) d1 q1 g1 b) d2 g2 (own_drB (own_nxB 0 d0 q0 g0 b) d1 g1 (own_drB 0 d0 g0 (0 : Int32))))) = own_i ((((d0 || q0 || (decide ((0 : Int32) = 0) && g0)) && (d1 || q1 || (decide ((1 : Int32) = 0) && g1))) && (d2 || q2 || (decide ((2 : Int32) = 0) && g2))) && ! decide (((((0 : Int32) + (own_i d0)) + (own_i d1)) + (own_i d2)) < (1 : Int32)) && ! decide ((own_limB b) < ((((0 : Int32) + (own_i q0)) + (own_i q1)) + (own_i q2)))) := by decide +kernel
theorem own_fin_3 (c0 c1 c2 ii : Int32) : own_i (own_wf (own_nx (own_nx (own_nx 0 c0 ii) c1 ii) c2 ii) (own_dr (own_nx (own_nx 0 c0 ii) c1 ii) c2 (own_dr (own_nx 0 c0 ii) c1 (own_dr 0 c0 (0 : Int32))))) = own_i ((((own_al c0 (0 : Int32)) && own_al c1 (1 : Int32)) && own_al c2 (2 : Int32)) && ! decide (((((0 : Int32) + (own_i (own_D c0))) + (own_i (own_D c1))) + (own_i (own_D c2))) < (1 : Int32)) && ! decide ((own_lim ii) < ((((0 : Int32) + (own_i (own_P c0))) + (own_i (own_P c1))) + (own_i (own_P c2))))) := own_finB_3 _ (own_D c0) (own_P c0) (own_G c0) (own_D c1) (own_P c1) (own_G c1) (own_D c2) (own_P c2) (own_G c2) (own_ex c0) (own_ex c1) (own_ex c2)
theorem own_finB_4 : ∀ (b d0 q0 g0 d1 q1 g1 d2 q2 g2 d3 q3 g3 : Bool), ((d0 && q0) = false ∧ (d0 && g0) = false ∧ (q0 && g0) = false) → ((d1 && q1) = false ∧ (d1 && g1) = false ∧ (q1 && g1) = false) → ((d2 && q2) = false ∧ (d2 && g2) = false ∧ (q2 && g2) = false) → ((d3 && q3) = false ∧ (d3 && g3) = false ∧ (q3 && g3) = false) → own_i (own_wf (own_nxB (own_nxB (own_nxB (own_nxB 0 d0 q0 g0 b) d1 q1 g1 b) d2 q2 g2 b) d3 q3 g3 b) (own_drB (own_nxB (own_nxB (own_nxB 0 d0 q0 g0 b) d1 q1 g1 b) d2 q2 g2 b) d3 g3 (own_drB (own_nxB (own_nxB 0 d0 q0 g0 b) d1 q1 g1 b) d2 g2 (own_drB (own_nxB 0 d0 q0 g0 b) d1 g1 (own_drB 0 d0 g0 (0 : Int32)))))) = own_i (((((d0 || q0 || (decide ((0 : Int32) = 0) && g0)) && (d1 || q1 || (decide ((1 : Int32) = 0) && g1))) && (d2 || q2 || (decide ((2 : Int32) = 0) && g2))) && (d3 || q3 || (decide ((3 : Int32) = 0) && g3))) && ! decide ((((((0 : Int32) + (own_i d0)) + (own_i d1)) + (own_i d2)) + (own_i d3)) < (1 : Int32)) && ! decide ((own_limB b) < (((((0 : Int32) + (own_i q0)) + (own_i q1)) + (own_i q2)) + (own_i q3)))) := by
  intro b d0 q0 g0
  cases b <;> cases d0 <;> cases q0 <;> cases g0 <;> decide +kernel
theorem own_fin_4 (c0 c1 c2 c3 ii : Int32) : own_i (own_wf (own_nx (own_nx (own_nx (own_nx 0 c0 ii) c1 ii) c2 ii) c3 ii) (own_dr (own_nx (own_nx (own_nx 0 c0 ii) c1 ii) c2 ii) c3 (own_dr (own_nx (own_nx 0 c0 ii) c1 ii) c2 (own_dr (own_nx 0 c0 ii) c1 (own_dr 0 c0 (0 : Int32)))))) = own_i (((((own_al c0 (0 : Int32)) && own_al c1 (1 : Int32)) && own_al c2 (2 : Int32)) && own_al c3 (3 : Int32)) && ! decide ((((((0 : Int32) + (own_i (own_D c0))) + (own_i (own_D c1))) + (own_i (own_D c2))) + (own_i (own_D c3))) < (1 : Int32)) && ! decide ((own_lim ii) < (((((0 : Int32) + (own_i (own_P c0))) + (own_i (own_P c1))) + (own_i (own_P c2))) + (own_i (own_P c3))))) := own_finB_4 _ (own_D c0) (own_P c0) (own_G c0) (own_D c1) (own_P c1) (own_G c1) (own_D c2) (own_P c2) (own_G c2) (own_D c3) (own_P c3) (own_G c3) (own_ex c0) (own_ex c1) (own_ex c2) (own_ex c3)
abbrev sN0 : String := "com/example/strumyk/strumyk/check/NumberText"
abbrev sN1 : String := "com/example/strumyk/strumyk/check/NumberText$Part"
abbrev sN2 : String := "Lcom/example/strumyk/strumyk/check/NumberText$Part;"
abbrev sN3 : String := "Lcom/example/strumyk/strumyk/message/SimpleType$Form;"
abbrev sN4 : String := "com/example/strumyk/strumyk/message/SimpleType$Form"
abbrev sN5 : String := "com/example/strumyk/strumyk/check/NumberTextWellFormedPinLaw"
abbrev sN6 : String := "(Lcom/example/strumyk/strumyk/message/SimpleType$Form;)V"
theorem ef_rmInit (m : MethodId) (x0 : Addr) : entryFrame m #[(.ref x0)] 1 = mkF m 0 #[rv x0] [] := by first | (simp [entryFrame, mkF, argsToLocals, Value.category]; done) | rfl
def Q_rmInit (Z : State) (a1 : Addr) (h0 : Heap) (n0 : Nat) (v : Option Value) (h : Heap) (L : List Loc) : Prop := v = none ∧ Fr n0 L ∧ h = h0
set_option maxRecDepth 65536 in
set_option maxHeartbeats 40000000 in
theorem rmInit (l : Launch) (Z : State) (a0 : Array Value) (hw : ∀ d ∈ tables_1, d.before a0 Z = true) (ws : List Jvm.Cond) (a1 : Addr) (h0 : Heap) (n0 : Nat) (Z0 : n0 ≤ h0.size) :
    MetFree l (⟨sN0, "<init>", "()V"⟩ : MethodName) (head1 (Jvm.Cond.code (⟨sN0, "<init>", "()V"⟩ : MethodName) prog_10_method_1_code 1 none :: ws) ({ frames := 1, cells := 0, slots := 0, locals := 12 } : Room)) (fun a U => a = #[(.ref a1)] ∧ Z.Warmed39 U.vm ∧ U.heap = h0) (fun _ _ _ _ _ => True) (fun _ U o U' => ∃ v L, o = .returned v ∧ Q_rmInit Z a1 h0 n0 v U'.heap L ∧ FrameEnd U o U' L ({ frames := 1, cells := 0, slots := 0, locals := 12 } : Room).cells ({ frames := 1, cells := 0, slots := 0, locals := 12 } : Room).slots) := by
  refine MetFree.of_bodySF (plainFor_of_name pn_0) hisR ?_
  intro p e s m args below meth c s₁ Bd hml0 hP hK
  obtain ⟨rfl, hZ, hh⟩ := hP
  have hx := Bd.exec
  have hby := Bd.bytes
  have hml : c.maxLocals = 1 := hml0
  have hown : s.vm.findClass sN0 = some m.cls := findClass_of_methodNamed Bd.named
  have hnm := (name_of_methodNamed Bd.named Bd.method).1
  have X0 : Stand p l e ({ frames := 1, cells := 0, slots := 0, locals := 12 } : Room) s m #[(.ref a1)] below meth c s₁ [] 0 0 := Stand.of_body Bd
  have e0 : s₁.heap = h0 := by rw [← hh, Bd.state]; rfl
  have N0 := Fr.nil n0
  obtain ⟨f0, hf0⟩ : ∃ f : JFrame, f = mkF m 0 #[rv a1] [] := ⟨_, rfl⟩
  have pre0 : ∀ t, Steps p.tables e below (s₁.setTop f0) t → Steps p.tables e below (s₁.setTop (entryFrame m #[(.ref a1)] 1)) t := fun t k => castTop ((ef_rmInit m a1).trans hf0.symm) k
  have R0 : ∀ t, Steps p.tables e below (s₁.setTop (mkF m 0 #[rv a1] [])) t → Steps p.tables e below (s₁.setTop f0) t := by rw [hf0]; exact fun t k => k
  have R1 : ∀ t, Steps p.tables e below (s₁.setTop (mkF m 1 #[rv a1] [(.ref a1)])) t → Steps p.tables e below (s₁.setTop f0) t := fun t k => R0 t (by
    show Steps p.tables e below (s₁.setTop (mkF m 0 #[rv a1] [])) _
    refine XS.aloadN X0.here hx rfl (hb hby d2_0) rfl rfl ?_
    exact k)
  obtain ⟨T2, X2, e2, st2⟩ := initO X0 hx hZ hown (hw _ (List.mem_of_getElem? (i := 11) rfl)) (hw _ (List.mem_of_getElem? (i := 12) rfl)) (hw _ (List.mem_of_getElem? (i := 13) rfl)) e0 (g := (mkF m 1 #[rv a1] [(.ref a1)])) rfl (by rw [hml]; rfl) rfl (hb hby d2_1) (by decide) (W := 0) (by show 2 * 0 + _ ≤ _; exact Nat.le_of_eq rfl) (by decide)
  have R3 : ∀ t, Steps p.tables e below (T2.setTop (mkF m 4 #[rv a1] [])) t → Steps p.tables e below (s₁.setTop f0) t := fun t k => R1 t (st2 t k)
  obtain ⟨fs, hr, hrun, hended, hW, hsame⟩ := X2.leave (v := none) (fun _ => rfl)
  refine ⟨_, _, pre0 _ (R3 _ ?_), hrun, hended, _, _, rfl, ?_, ⟨_, rfl⟩, hW, hsame.mono (by decide) (by decide)⟩
  · show Steps p.tables e below (T2.setTop (mkF m 4 #[rv a1] [])) _
    exact X2.returnOut hx Bd.returns (hb hby d2_4) hr
  · show Q_rmInit Z a1 h0 n0 _ T2.heap _
    rw [e2]
    exact ⟨rfl, N0, rfl⟩
theorem ef_rmStart (m : MethodId) (x0 : Addr) (x1 : Addr) : entryFrame m #[(.ref x0), (.ref x1)] 2 = mkF m 0 #[rv x0, rv x1] [] := by first | (simp [entryFrame, mkF, argsToLocals, Value.category]; done) | rfl
def Q_rmStart (Z : State) (a1 : Addr) (f2 : Addr) (fI : Addr) (sS : Addr) (u0 : Value) (u1 : Value) (u2 : Value) (u3 : Value) (u4 : Value) (u5 : Value) (u6 : Value) (u7 : Value) (h0 : Heap) (n0 : Nat) (v : Option Value) (h : Heap) (L : List Loc) : Prop := v = none ∧ Fr n0 L ∧ Keep h0 h [a1] ∧ (Fld Z h a1 sN0 "integerOnly" "Z" (.int (own_i (decide (f2 = fI))))) ∧ (Fld Z h a1 sN0 "part" sN2 (.ref sS)) ∧ (Fld Z h a1 sN0 "negative" "Z" (.int (0 : Int32))) ∧ (Fld Z h a1 sN0 "digitRead" "Z" (.int (0 : Int32))) ∧ (Fld Z h a1 sN0 "integerDigits" "J" (.long (0 : Int64))) ∧ (Fld Z h a1 sN0 "fractionDigits" "J" (.long (0 : Int64))) ∧ (Fld Z h a1 sN0 "pendingZeros" "J" (.long (0 : Int64))) ∧ (Fld Z h a1 sN0 "unscaled" "J" (.long (0 : Int64)))
set_option maxRecDepth 65536 in
set_option maxHeartbeats 40000000 in
theorem rmStart (l : Launch) (Z : State) (a0 : Array Value) (hw : ∀ d ∈ tables_1, d.before a0 Z = true) (ws : List Jvm.Cond) (a1 : Addr) (f2 : Addr) (fI : Addr) (sS : Addr) (u0 : Value) (u1 : Value) (u2 : Value) (u3 : Value) (u4 : Value) (u5 : Value) (u6 : Value) (u7 : Value) (h0 : Heap) (n0 : Nat) (Z0 : n0 ≤ h0.size) (E_a1 : Exa Z h0 a1 sN0) (g_a1 : n0 ≤ a1) (S_SimpleType_Form_INTEGER : Sta Z h0 sN4 "INTEGER" sN3 (.ref fI)) (S_NumberText_Part_SIGN : Sta Z h0 sN1 "SIGN" sN2 (.ref sS)) (F_integerOnly_a1 : Fld Z h0 a1 sN0 "integerOnly" "Z" u0) (F_part_a1 : Fld Z h0 a1 sN0 "part" sN2 u1) (F_negative_a1 : Fld Z h0 a1 sN0 "negative" "Z" u2) (F_digitRead_a1 : Fld Z h0 a1 sN0 "digitRead" "Z" u3) (F_integerDigits_a1 : Fld Z h0 a1 sN0 "integerDigits" "J" u4) (F_fractionDigits_a1 : Fld Z h0 a1 sN0 "fractionDigits" "J" u5) (F_pendingZeros_a1 : Fld Z h0 a1 sN0 "pendingZeros" "J" u6) (F_unscaled_a1 : Fld Z h0 a1 sN0 "unscaled" "J" u7) :
    MetFree l (⟨sN0, "start", sN6⟩ : MethodName) (head1 (Jvm.Cond.code (⟨sN0, "start", sN6⟩ : MethodName) prog_10_method_2_code 2 none :: ws) ({ frames := 0, cells := 0, slots := 0, locals := 0 } : Room)) (fun a U => a = #[(.ref a1), (.ref f2)] ∧ Z.Warmed39 U.vm ∧ U.heap = h0) (fun _ _ _ _ _ => True) (fun _ U o U' => ∃ v L, o = .returned v ∧ Q_rmStart Z a1 f2 fI sS u0 u1 u2 u3 u4 u5 u6 u7 h0 n0 v U'.heap L ∧ FrameEnd U o U' L ({ frames := 0, cells := 0, slots := 0, locals := 0 } : Room).cells ({ frames := 0, cells := 0, slots := 0, locals := 0 } : Room).slots) := by
  refine MetFree.of_bodySF (plainFor_of_name pn_0) hisR ?_
  intro p e s m args below meth c s₁ Bd hml0 hP hK
  obtain ⟨rfl, hZ, hh⟩ := hP
  have hx := Bd.exec
  have hby := Bd.bytes
  have hml : c.maxLocals = 2 := hml0
  have hown : s.vm.findClass sN0 = some m.cls := findClass_of_methodNamed Bd.named
  have hnm := (name_of_methodNamed Bd.named Bd.method).1
  have X0 : Stand p l e ({ frames := 0, cells := 0, slots := 0, locals := 0 } : Room) s m #[(.ref a1), (.ref f2)] below meth c s₁ [] 0 0 := Stand.of_body Bd
  have e0 : s₁.heap = h0 := by rw [← hh, Bd.state]; rfl
  have N0 := Fr.nil n0
  obtain ⟨f0, hf0⟩ : ∃ f : JFrame, f = mkF m 0 #[rv a1, rv f2] [] := ⟨_, rfl⟩
  have pre0 : ∀ t, Steps p.tables e below (s₁.setTop f0) t → Steps p.tables e below (s₁.setTop (entryFrame m #[(.ref a1), (.ref f2)] 2)) t := fun t k => castTop ((ef_rmStart m a1 f2).trans hf0.symm) k
  have R0 : ∀ t, Steps p.tables e below (s₁.setTop (mkF m 0 #[rv a1, rv f2] [])) t → Steps p.tables e below (s₁.setTop f0) t := by rw [hf0]; exact fun t k => k
  have R1 : ∀ t, Steps p.tables e below (s₁.setTop (mkF m 2 #[rv a1, rv f2] [(.ref f2), (.ref a1)])) t → Steps p.tables e below (s₁.setTop f0) t := fun t k => R0 t (by
    show Steps p.tables e below (s₁.setTop (mkF m 0 #[rv a1, rv f2] [])) _
    refine XS.aloadN X0.here hx rfl (hb hby d4_0) rfl rfl ?_
    refine XS.aloadN X0.here hx rfl (hb hby d4_1) rfl rfl ?_
    exact k)
  obtain ⟨T2, X2, e2, st2⟩ := getS2 X0 hx hZ hown (host := "") (Or.inl (hw _ (List.mem_of_getElem? (i := 22) rfl))) Via.refl e0 S_SimpleType_Form_INTEGER (g := (mkF m 2 #[rv a1, rv f2] [(.ref f2), (.ref a1)])) rfl (hb hby d4_2)
  have R3 : ∀ t, Steps p.tables e below (T2.setTop (mkF m 5 #[rv a1, rv f2] [(.ref fI), (.ref f2), (.ref a1)])) t → Steps p.tables e below (s₁.setTop f0) t := fun t k => R1 t (st2 t k)
  by_cases hs1 : f2 = fI
  · skip
    have R4 : ∀ t, Steps p.tables e below (T2.setTop (mkF m 13 #[rv a1, rv f2] [(.int (1 : Int32)), (.ref a1)])) t → Steps p.tables e below (s₁.setTop f0) t := fun t k => R3 t (by
      show Steps p.tables e below (T2.setTop (mkF m 5 #[rv a1, rv f2] [(.ref fI), (.ref f2), (.ref a1)])) _
      refine Jvm.RoadKit.acmp (g := (mkF m 5 #[rv a1, rv f2] [(.ref fI), (.ref f2), (.ref a1)])) X2 hx rfl rfl rfl (pc0 := 5) (pc' := 8) (same := true) rfl (hb hby d4_5) rfl (decide_eq_true (congrArg Value.ref hs1)) (by decide) (by decide) ?_
      refine XS.iconst X2.here hx rfl (hb hby d4_8) ?_
      show Steps p.tables e below (T2.setTop (mkF m 9 #[rv a1, rv f2] [(.int (1 : Int32)), (.ref a1)])) _
      refine XS.goto X2.here hx rfl (pc0 := 9) (pc' := 13) rfl (hb hby d4_9) (by decide) (by decide) ?_
      exact k)
    obtain ⟨T5, h5, X5, e5, W5, st5⟩ := putFN X2 hx hZ hown (hw _ (List.mem_of_getElem? (i := 24) rfl)) Via.refl e2 F_integerOnly_a1 E_a1 (Or.inl (hw _ (List.mem_of_getElem? (i := 25) rfl))) (hw _ (List.mem_of_getElem? (i := 6) rfl)) (ty := .boolean) (v' := (.int (1 : Int32))) (by decide) rfl rfl (g := (mkF m 13 #[rv a1, rv f2] [(.int (1 : Int32)), (.ref a1)])) rfl rfl (hb hby d4_13)
    have fw5 : Fld Z h5 a1 sN0 "integerOnly" "Z" (.int (1 : Int32)) := F_integerOnly_a1.same W5
    have f5_E_a1 : Exa Z h5 a1 sN0 := E_a1.wr W5
    have f5_S_SimpleType_Form_INTEGER : Sta Z h5 sN4 "INTEGER" sN3 (.ref fI) := S_SimpleType_Form_INTEGER.wr W5
    have f5_S_NumberText_Part_SIGN : Sta Z h5 sN1 "SIGN" sN2 (.ref sS) := S_NumberText_Part_SIGN.wr W5
    have f5_F_part_a1 : Fld Z h5 a1 sN0 "part" sN2 u1 := F_part_a1.other W5 (Or.inr (slot_ne (Or.inl (hw _ (List.mem_of_getElem? (i := 30) rfl))) (Or.inl (hw _ (List.mem_of_getElem? (i := 25) rfl))) (by decide) (t := (.object sN1)) (t' := .boolean) (by decide) (by decide)))
    have f5_F_negative_a1 : Fld Z h5 a1 sN0 "negative" "Z" u2 := F_negative_a1.other W5 (Or.inr (slot_ne (Or.inl (hw _ (List.mem_of_getElem? (i := 32) rfl))) (Or.inl (hw _ (List.mem_of_getElem? (i := 25) rfl))) (by decide) (t := .boolean) (t' := .boolean) (by decide) (by decide)))
    have f5_F_digitRead_a1 : Fld Z h5 a1 sN0 "digitRead" "Z" u3 := F_digitRead_a1.other W5 (Or.inr (slot_ne (Or.inl (hw _ (List.mem_of_getElem? (i := 34) rfl))) (Or.inl (hw _ (List.mem_of_getElem? (i := 25) rfl))) (by decide) (t := .boolean) (t' := .boolean) (by decide) (by decide)))
    have f5_F_integerDigits_a1 : Fld Z h5 a1 sN0 "integerDigits" "J" u4 := F_integerDigits_a1.other W5 (Or.inr (slot_ne (Or.inl (hw _ (List.mem_of_getElem? (i := 36) rfl))) (Or.inl (hw _ (List.mem_of_getElem? (i := 25) rfl))) (by decide) (t := .long) (t' := .boolean) (by decide) (by decide)))
    have f5_F_fractionDigits_a1 : Fld Z h5 a1 sN0 "fractionDigits" "J" u5 := F_fractionDigits_a1.other W5 (Or.inr (slot_ne (Or.inl (hw _ (List.mem_of_getElem? (i := 38) rfl))) (Or.inl (hw _ (List.mem_of_getElem? (i := 25) rfl))) (by decide) (t := .long) (t' := .boolean) (by decide) (by decide)))
    have f5_F_pendingZeros_a1 : Fld Z h5 a1 sN0 "pendingZeros" "J" u6 := F_pendingZeros_a1.other W5 (Or.inr (slot_ne (Or.inl (hw _ (List.mem_of_getElem? (i := 40) rfl))) (Or.inl (hw _ (List.mem_of_getElem? (i := 25) rfl))) (by decide) (t := .long) (t' := .boolean) (by decide) (by decide)))
    have f5_F_unscaled_a1 : Fld Z h5 a1 sN0 "unscaled" "J" u7 := F_unscaled_a1.other W5 (Or.inr (slot_ne (Or.inl (hw _ (List.mem_of_getElem? (i := 42) rfl))) (Or.inl (hw _ (List.mem_of_getElem? (i := 25) rfl))) (by decide) (t := .long) (t' := .boolean) (by decide) (by decide)))
    have z5 : n0 ≤ h5.size := by rw [W5.size]; exact Z0
    have K5 : Keep h0 h5 [a1] := (Keep.refl h0 [a1]).wr W5 (Or.inl (List.mem_of_getElem? (i := 0) rfl))
    have N5 := Fr.snoc X5 N0 g_a1
    have R6 : ∀ t, Steps p.tables e below (T5.setTop (mkF m 16 #[rv a1, rv f2] [])) t → Steps p.tables e below (s₁.setTop f0) t := fun t k => R4 t (st5 t k)
    have R7 : ∀ t, Steps p.tables e below (T5.setTop (mkF m 17 #[rv a1, rv f2] [(.ref a1)])) t → Steps p.tables e below (s₁.setTop f0) t := fun t k => R6 t (by
      show Steps p.tables e below (T5.setTop (mkF m 16 #[rv a1, rv f2] [])) _
      refine XS.aloadN X5.here hx rfl (hb hby d4_16) rfl rfl ?_
      exact k)
    obtain ⟨T8, X8, e8, st8⟩ := getS2 X5 hx hZ hown (host := "") (Or.inl (hw _ (List.mem_of_getElem? (i := 26) rfl))) Via.refl e5 f5_S_NumberText_Part_SIGN (g := (mkF m 17 #[rv a1, rv f2] [(.ref a1)])) rfl (hb hby d4_17)
    have R9 : ∀ t, Steps p.tables e below (T8.setTop (mkF m 20 #[rv a1, rv f2] [(.ref sS), (.ref a1)])) t → Steps p.tables e below (s₁.setTop f0) t := fun t k => R7 t (st8 t k)
    obtain ⟨T10, h10, X10, e10, W10, st10⟩ := putF X8 hx hZ hown (host := "") (Or.inl (hw _ (List.mem_of_getElem? (i := 29) rfl))) Via.refl e8 f5_F_part_a1 f5_E_a1 (Or.inl (hw _ (List.mem_of_getElem? (i := 30) rfl))) (hw _ (List.mem_of_getElem? (i := 6) rfl)) (ty := (.object sN1)) (by decide) rfl rfl (g := (mkF m 20 #[rv a1, rv f2] [(.ref sS), (.ref a1)])) rfl rfl (hb hby d4_20)
    have fw10 : Fld Z h10 a1 sN0 "part" sN2 (.ref sS) := f5_F_part_a1.same W10
    have f10_E_a1 : Exa Z h10 a1 sN0 := f5_E_a1.wr W10
    have f10_S_SimpleType_Form_INTEGER : Sta Z h10 sN4 "INTEGER" sN3 (.ref fI) := f5_S_SimpleType_Form_INTEGER.wr W10
    have f10_S_NumberText_Part_SIGN : Sta Z h10 sN1 "SIGN" sN2 (.ref sS) := f5_S_NumberText_Part_SIGN.wr W10
    have f10_F_integerOnly_a1 : Fld Z h10 a1 sN0 "integerOnly" "Z" (.int (1 : Int32)) := fw5.other W10 (Or.inr (slot_ne (Or.inl (hw _ (List.mem_of_getElem? (i := 25) rfl))) (Or.inl (hw _ (List.mem_of_getElem? (i := 30) rfl))) (by decide) (t := .boolean) (t' := (.object sN1)) (by decide) (by decide)))
    have f10_F_negative_a1 : Fld Z h10 a1 sN0 "negative" "Z" u2 := f5_F_negative_a1.other W10 (Or.inr (slot_ne (Or.inl (hw _ (List.mem_of_getElem? (i := 32) rfl))) (Or.inl (hw _ (List.mem_of_getElem? (i := 30) rfl))) (by decide) (t := .boolean) (t' := (.object sN1)) (by decide) (by decide)))
    have f10_F_digitRead_a1 : Fld Z h10 a1 sN0 "digitRead" "Z" u3 := f5_F_digitRead_a1.other W10 (Or.inr (slot_ne (Or.inl (hw _ (List.mem_of_getElem? (i := 34) rfl))) (Or.inl (hw _ (List.mem_of_getElem? (i := 30) rfl))) (by decide) (t := .boolean) (t' := (.object sN1)) (by decide) (by decide)))
    have f10_F_integerDigits_a1 : Fld Z h10 a1 sN0 "integerDigits" "J" u4 := f5_F_integerDigits_a1.other W10 (Or.inr (slot_ne (Or.inl (hw _ (List.mem_of_getElem? (i := 36) rfl))) (Or.inl (hw _ (List.mem_of_getElem? (i := 30) rfl))) (by decide) (t := .long) (t' := (.object sN1)) (by decide) (by decide)))
    have f10_F_fractionDigits_a1 : Fld Z h10 a1 sN0 "fractionDigits" "J" u5 := f5_F_fractionDigits_a1.other W10 (Or.inr (slot_ne (Or.inl (hw _ (List.mem_of_getElem? (i := 38) rfl))) (Or.inl (hw _ (List.mem_of_getElem? (i := 30) rfl))) (by decide) (t := .long) (t' := (.object sN1)) (by decide) (by decide)))
    have f10_F_pendingZeros_a1 : Fld Z h10 a1 sN0 "pendingZeros" "J" u6 := f5_F_pendingZeros_a1.other W10 (Or.inr (slot_ne (Or.inl (hw _ (List.mem_of_getElem? (i := 40) rfl))) (Or.inl (hw _ (List.mem_of_getElem? (i := 30) rfl))) (by decide) (t := .long) (t' := (.object sN1)) (by decide) (by decide)))
    have f10_F_unscaled_a1 : Fld Z h10 a1 sN0 "unscaled" "J" u7 := f5_F_unscaled_a1.other W10 (Or.inr (slot_ne (Or.inl (hw _ (List.mem_of_getElem? (i := 42) rfl))) (Or.inl (hw _ (List.mem_of_getElem? (i := 30) rfl))) (by decide) (t := .long) (t' := (.object sN1)) (by decide) (by decide)))
    have z10 : n0 ≤ h10.size := by rw [W10.size]; exact z5
    have K10 : Keep h0 h10 [a1] := K5.wr W10 (Or.inl (List.mem_of_getElem? (i := 0) rfl))
    have N10 := Fr.snoc X10 N5 g_a1
    have R11 : ∀ t, Steps p.tables e below (T10.setTop (mkF m 23 #[rv a1, rv f2] [])) t → Steps p.tables e below (s₁.setTop f0) t := fun t k => R9 t (st10 t k)
    have R12 : ∀ t, Steps p.tables e below (T10.setTop (mkF m 25 #[rv a1, rv f2] [(.int (0 : Int32)), (.ref a1)])) t → Steps p.tables e below (s₁.setTop f0) t := fun t k => R11 t (by
      show Steps p.tables e below (T10.setTop (mkF m 23 #[rv a1, rv f2] [])) _
      refine XS.aloadN X10.here hx rfl (hb hby d4_23) rfl rfl ?_
      refine XS.iconst X10.here hx rfl (hb hby d4_24) ?_
      exact k)
    obtain ⟨T13, h13, X13, e13, W13, st13⟩ := putFN X10 hx hZ hown (hw _ (List.mem_of_getElem? (i := 31) rfl)) Via.refl e10 f10_F_negative_a1 f10_E_a1 (Or.inl (hw _ (List.mem_of_getElem? (i := 32) rfl))) (hw _ (List.mem_of_getElem? (i := 6) rfl)) (ty := .boolean) (v' := (.int (0 : Int32))) (by decide) rfl rfl (g := (mkF m 25 #[rv a1, rv f2] [(.int (0 : Int32)), (.ref a1)])) rfl rfl (hb hby d4_25)
    have fw13 : Fld Z h13 a1 sN0 "negative" "Z" (.int (0 : Int32)) := f10_F_negative_a1.same W13
    have f13_E_a1 : Exa Z h13 a1 sN0 := f10_E_a1.wr W13
    have f13_S_SimpleType_Form_INTEGER : Sta Z h13 sN4 "INTEGER" sN3 (.ref fI) := f10_S_SimpleType_Form_INTEGER.wr W13
    have f13_S_NumberText_Part_SIGN : Sta Z h13 sN1 "SIGN" sN2 (.ref sS) := f10_S_NumberText_Part_SIGN.wr W13
    have f13_F_integerOnly_a1 : Fld Z h13 a1 sN0 "integerOnly" "Z" (.int (1 : Int32)) := f10_F_integerOnly_a1.other W13 (Or.inr (slot_ne (Or.inl (hw _ (List.mem_of_getElem? (i := 25) rfl))) (Or.inl (hw _ (List.mem_of_getElem? (i := 32) rfl))) (by decide) (t := .boolean) (t' := .boolean) (by decide) (by decide)))
    have f13_F_part_a1 : Fld Z h13 a1 sN0 "part" sN2 (.ref sS) := fw10.other W13 (Or.inr (slot_ne (Or.inl (hw _ (List.mem_of_getElem? (i := 30) rfl))) (Or.inl (hw _ (List.mem_of_getElem? (i := 32) rfl))) (by decide) (t := (.object sN1)) (t' := .boolean) (by decide) (by decide)))
    have f13_F_digitRead_a1 : Fld Z h13 a1 sN0 "digitRead" "Z" u3 := f10_F_digitRead_a1.other W13 (Or.inr (slot_ne (Or.inl (hw _ (List.mem_of_getElem? (i := 34) rfl))) (Or.inl (hw _ (List.mem_of_getElem? (i := 32) rfl))) (by decide) (t := .boolean) (t' := .boolean) (by decide) (by decide)))
    have f13_F_integerDigits_a1 : Fld Z h13 a1 sN0 "integerDigits" "J" u4 := f10_F_integerDigits_a1.other W13 (Or.inr (slot_ne (Or.inl (hw _ (List.mem_of_getElem? (i := 36) rfl))) (Or.inl (hw _ (List.mem_of_getElem? (i := 32) rfl))) (by decide) (t := .long) (t' := .boolean) (by decide) (by decide)))
    have f13_F_fractionDigits_a1 : Fld Z h13 a1 sN0 "fractionDigits" "J" u5 := f10_F_fractionDigits_a1.other W13 (Or.inr (slot_ne (Or.inl (hw _ (List.mem_of_getElem? (i := 38) rfl))) (Or.inl (hw _ (List.mem_of_getElem? (i := 32) rfl))) (by decide) (t := .long) (t' := .boolean) (by decide) (by decide)))
    have f13_F_pendingZeros_a1 : Fld Z h13 a1 sN0 "pendingZeros" "J" u6 := f10_F_pendingZeros_a1.other W13 (Or.inr (slot_ne (Or.inl (hw _ (List.mem_of_getElem? (i := 40) rfl))) (Or.inl (hw _ (List.mem_of_getElem? (i := 32) rfl))) (by decide) (t := .long) (t' := .boolean) (by decide) (by decide)))
    have f13_F_unscaled_a1 : Fld Z h13 a1 sN0 "unscaled" "J" u7 := f10_F_unscaled_a1.other W13 (Or.inr (slot_ne (Or.inl (hw _ (List.mem_of_getElem? (i := 42) rfl))) (Or.inl (hw _ (List.mem_of_getElem? (i := 32) rfl))) (by decide) (t := .long) (t' := .boolean) (by decide) (by decide)))
    have z13 : n0 ≤ h13.size := by rw [W13.size]; exact z10
    have K13 : Keep h0 h13 [a1] := K10.wr W13 (Or.inl (List.mem_of_getElem? (i := 0) rfl))
    have N13 := Fr.snoc X13 N10 g_a1
    have R14 : ∀ t, Steps p.tables e below (T13.setTop (mkF m 28 #[rv a1, rv f2] [])) t → Steps p.tables e below (s₁.setTop f0) t := fun t k => R12 t (st13 t k)
    have R15 : ∀ t, Steps p.tables e below (T13.setTop (mkF m 30 #[rv a1, rv f2] [(.int (0 : Int32)), (.ref a1)])) t → Steps p.tables e below (s₁.setTop f0) t := fun t k => R14 t (by
      show Steps p.tables e below (T13.setTop (mkF m 28 #[rv a1, rv f2] [])) _
      refine XS.aloadN X13.here hx rfl (hb hby d4_28) rfl rfl ?_
      refine XS.iconst X13.here hx rfl (hb hby d4_29) ?_
      exact k)
    obtain ⟨T16, h16, X16, e16, W16, st16⟩ := putFN X13 hx hZ hown (hw _ (List.mem_of_getElem? (i := 33) rfl)) Via.refl e13 f13_F_digitRead_a1 f13_E_a1 (Or.inl (hw _ (List.mem_of_getElem? (i := 34) rfl))) (hw _ (List.mem_of_getElem? (i := 6) rfl)) (ty := .boolean) (v' := (.int (0 : Int32))) (by decide) rfl rfl (g := (mkF m 30 #[rv a1, rv f2] [(.int (0 : Int32)), (.ref a1)])) rfl rfl (hb hby d4_30)
    have fw16 : Fld Z h16 a1 sN0 "digitRead" "Z" (.int (0 : Int32)) := f13_F_digitRead_a1.same W16
    have f16_E_a1 : Exa Z h16 a1 sN0 := f13_E_a1.wr W16
    have f16_S_SimpleType_Form_INTEGER : Sta Z h16 sN4 "INTEGER" sN3 (.ref fI) := f13_S_SimpleType_Form_INTEGER.wr W16
    have f16_S_NumberText_Part_SIGN : Sta Z h16 sN1 "SIGN" sN2 (.ref sS) := f13_S_NumberText_Part_SIGN.wr W16
    have f16_F_integerOnly_a1 : Fld Z h16 a1 sN0 "integerOnly" "Z" (.int (1 : Int32)) := f13_F_integerOnly_a1.other W16 (Or.inr (slot_ne (Or.inl (hw _ (List.mem_of_getElem? (i := 25) rfl))) (Or.inl (hw _ (List.mem_of_getElem? (i := 34) rfl))) (by decide) (t := .boolean) (t' := .boolean) (by decide) (by decide)))
    have f16_F_part_a1 : Fld Z h16 a1 sN0 "part" sN2 (.ref sS) := f13_F_part_a1.other W16 (Or.inr (slot_ne (Or.inl (hw _ (List.mem_of_getElem? (i := 30) rfl))) (Or.inl (hw _ (List.mem_of_getElem? (i := 34) rfl))) (by decide) (t := (.object sN1)) (t' := .boolean) (by decide) (by decide)))
    have f16_F_negative_a1 : Fld Z h16 a1 sN0 "negative" "Z" (.int (0 : Int32)) := fw13.other W16 (Or.inr (slot_ne (Or.inl (hw _ (List.mem_of_getElem? (i := 32) rfl))) (Or.inl (hw _ (List.mem_of_getElem? (i := 34) rfl))) (by decide) (t := .boolean) (t' := .boolean) (by decide) (by decide)))
    have f16_F_integerDigits_a1 : Fld Z h16 a1 sN0 "integerDigits" "J" u4 := f13_F_integerDigits_a1.other W16 (Or.inr (slot_ne (Or.inl (hw _ (List.mem_of_getElem? (i := 36) rfl))) (Or.inl (hw _ (List.mem_of_getElem? (i := 34) rfl))) (by decide) (t := .long) (t' := .boolean) (by decide) (by decide)))
    have f16_F_fractionDigits_a1 : Fld Z h16 a1 sN0 "fractionDigits" "J" u5 := f13_F_fractionDigits_a1.other W16 (Or.inr (slot_ne (Or.inl (hw _ (List.mem_of_getElem? (i := 38) rfl))) (Or.inl (hw _ (List.mem_of_getElem? (i := 34) rfl))) (by decide) (t := .long) (t' := .boolean) (by decide) (by decide)))
    have f16_F_pendingZeros_a1 : Fld Z h16 a1 sN0 "pendingZeros" "J" u6 := f13_F_pendingZeros_a1.other W16 (Or.inr (slot_ne (Or.inl (hw _ (List.mem_of_getElem? (i := 40) rfl))) (Or.inl (hw _ (List.mem_of_getElem? (i := 34) rfl))) (by decide) (t := .long) (t' := .boolean) (by decide) (by decide)))
    have f16_F_unscaled_a1 : Fld Z h16 a1 sN0 "unscaled" "J" u7 := f13_F_unscaled_a1.other W16 (Or.inr (slot_ne (Or.inl (hw _ (List.mem_of_getElem? (i := 42) rfl))) (Or.inl (hw _ (List.mem_of_getElem? (i := 34) rfl))) (by decide) (t := .long) (t' := .boolean) (by decide) (by decide)))
    have z16 : n0 ≤ h16.size := by rw [W16.size]; exact z13
    have K16 : Keep h0 h16 [a1] := K13.wr W16 (Or.inl (List.mem_of_getElem? (i := 0) rfl))
    have N16 := Fr.snoc X16 N13 g_a1
    have R17 : ∀ t, Steps p.tables e below (T16.setTop (mkF m 33 #[rv a1, rv f2] [])) t → Steps p.tables e below (s₁.setTop f0) t := fun t k => R15 t (st16 t k)
    have R18 : ∀ t, Steps p.tables e below (T16.setTop (mkF m 35 #[rv a1, rv f2] [(.long (0 : Int64)), (.ref a1)])) t → Steps p.tables e below (s₁.setTop f0) t := fun t k => R17 t (by
      show Steps p.tables e below (T16.setTop (mkF m 33 #[rv a1, rv f2] [])) _
      refine XS.aloadN X16.here hx rfl (hb hby d4_33) rfl rfl ?_
      refine XS.lconst X16.here hx rfl (hb hby d4_34) ?_
      exact k)
    obtain ⟨T19, h19, X19, e19, W19, st19⟩ := putF X16 hx hZ hown (host := "") (Or.inl (hw _ (List.mem_of_getElem? (i := 35) rfl))) Via.refl e16 f16_F_integerDigits_a1 f16_E_a1 (Or.inl (hw _ (List.mem_of_getElem? (i := 36) rfl))) (hw _ (List.mem_of_getElem? (i := 6) rfl)) (ty := .long) (by decide) rfl rfl (g := (mkF m 35 #[rv a1, rv f2] [(.long (0 : Int64)), (.ref a1)])) rfl rfl (hb hby d4_35)
    have fw19 : Fld Z h19 a1 sN0 "integerDigits" "J" (.long (0 : Int64)) := f16_F_integerDigits_a1.same W19
    have f19_E_a1 : Exa Z h19 a1 sN0 := f16_E_a1.wr W19
    have f19_S_SimpleType_Form_INTEGER : Sta Z h19 sN4 "INTEGER" sN3 (.ref fI) := f16_S_SimpleType_Form_INTEGER.wr W19
    have f19_S_NumberText_Part_SIGN : Sta Z h19 sN1 "SIGN" sN2 (.ref sS) := f16_S_NumberText_Part_SIGN.wr W19
    have f19_F_integerOnly_a1 : Fld Z h19 a1 sN0 "integerOnly" "Z" (.int (1 : Int32)) := f16_F_integerOnly_a1.other W19 (Or.inr (slot_ne (Or.inl (hw _ (List.mem_of_getElem? (i := 25) rfl))) (Or.inl (hw _ (List.mem_of_getElem? (i := 36) rfl))) (by decide) (t := .boolean) (t' := .long) (by decide) (by decide)))
    have f19_F_part_a1 : Fld Z h19 a1 sN0 "part" sN2 (.ref sS) := f16_F_part_a1.other W19 (Or.inr (slot_ne (Or.inl (hw _ (List.mem_of_getElem? (i := 30) rfl))) (Or.inl (hw _ (List.mem_of_getElem? (i := 36) rfl))) (by decide) (t := (.object sN1)) (t' := .long) (by decide) (by decide)))
    have f19_F_negative_a1 : Fld Z h19 a1 sN0 "negative" "Z" (.int (0 : Int32)) := f16_F_negative_a1.other W19 (Or.inr (slot_ne (Or.inl (hw _ (List.mem_of_getElem? (i := 32) rfl))) (Or.inl (hw _ (List.mem_of_getElem? (i := 36) rfl))) (by decide) (t := .boolean) (t' := .long) (by decide) (by decide)))
    have f19_F_digitRead_a1 : Fld Z h19 a1 sN0 "digitRead" "Z" (.int (0 : Int32)) := fw16.other W19 (Or.inr (slot_ne (Or.inl (hw _ (List.mem_of_getElem? (i := 34) rfl))) (Or.inl (hw _ (List.mem_of_getElem? (i := 36) rfl))) (by decide) (t := .boolean) (t' := .long) (by decide) (by decide)))
    have f19_F_fractionDigits_a1 : Fld Z h19 a1 sN0 "fractionDigits" "J" u5 := f16_F_fractionDigits_a1.other W19 (Or.inr (slot_ne (Or.inl (hw _ (List.mem_of_getElem? (i := 38) rfl))) (Or.inl (hw _ (List.mem_of_getElem? (i := 36) rfl))) (by decide) (t := .long) (t' := .long) (by decide) (by decide)))
    have f19_F_pendingZeros_a1 : Fld Z h19 a1 sN0 "pendingZeros" "J" u6 := f16_F_pendingZeros_a1.other W19 (Or.inr (slot_ne (Or.inl (hw _ (List.mem_of_getElem? (i := 40) rfl))) (Or.inl (hw _ (List.mem_of_getElem? (i := 36) rfl))) (by decide) (t := .long) (t' := .long) (by decide) (by decide)))
    have f19_F_unscaled_a1 : Fld Z h19 a1 sN0 "unscaled" "J" u7 := f16_F_unscaled_a1.other W19 (Or.inr (slot_ne (Or.inl (hw _ (List.mem_of_getElem? (i := 42) rfl))) (Or.inl (hw _ (List.mem_of_getElem? (i := 36) rfl))) (by decide) (t := .long) (t' := .long) (by decide) (by decide)))
    have z19 : n0 ≤ h19.size := by rw [W19.size]; exact z16
    have K19 : Keep h0 h19 [a1] := K16.wr W19 (Or.inl (List.mem_of_getElem? (i := 0) rfl))
    have N19 := Fr.snoc X19 N16 g_a1
    have R20 : ∀ t, Steps p.tables e below (T19.setTop (mkF m 38 #[rv a1, rv f2] [])) t → Steps p.tables e below (s₁.setTop f0) t := fun t k => R18 t (st19 t k)
    have R21 : ∀ t, Steps p.tables e below (T19.setTop (mkF m 40 #[rv a1, rv f2] [(.long (0 : Int64)), (.ref a1)])) t → Steps p.tables e below (s₁.setTop f0) t := fun t k => R20 t (by
      show Steps p.tables e below (T19.setTop (mkF m 38 #[rv a1, rv f2] [])) _
      refine XS.aloadN X19.here hx rfl (hb hby d4_38) rfl rfl ?_
      refine XS.lconst X19.here hx rfl (hb hby d4_39) ?_
      exact k)
    obtain ⟨T22, h22, X22, e22, W22, st22⟩ := putF X19 hx hZ hown (host := "") (Or.inl (hw _ (List.mem_of_getElem? (i := 37) rfl))) Via.refl e19 f19_F_fractionDigits_a1 f19_E_a1 (Or.inl (hw _ (List.mem_of_getElem? (i := 38) rfl))) (hw _ (List.mem_of_getElem? (i := 6) rfl)) (ty := .long) (by decide) rfl rfl (g := (mkF m 40 #[rv a1, rv f2] [(.long (0 : Int64)), (.ref a1)])) rfl rfl (hb hby d4_40)
    have fw22 : Fld Z h22 a1 sN0 "fractionDigits" "J" (.long (0 : Int64)) := f19_F_fractionDigits_a1.same W22
    have f22_E_a1 : Exa Z h22 a1 sN0 := f19_E_a1.wr W22
    have f22_S_SimpleType_Form_INTEGER : Sta Z h22 sN4 "INTEGER" sN3 (.ref fI) := f19_S_SimpleType_Form_INTEGER.wr W22
    have f22_S_NumberText_Part_SIGN : Sta Z h22 sN1 "SIGN" sN2 (.ref sS) := f19_S_NumberText_Part_SIGN.wr W22
    have f22_F_integerOnly_a1 : Fld Z h22 a1 sN0 "integerOnly" "Z" (.int (1 : Int32)) := f19_F_integerOnly_a1.other W22 (Or.inr (slot_ne (Or.inl (hw _ (List.mem_of_getElem? (i := 25) rfl))) (Or.inl (hw _ (List.mem_of_getElem? (i := 38) rfl))) (by decide) (t := .boolean) (t' := .long) (by decide) (by decide)))
    have f22_F_part_a1 : Fld Z h22 a1 sN0 "part" sN2 (.ref sS) := f19_F_part_a1.other W22 (Or.inr (slot_ne (Or.inl (hw _ (List.mem_of_getElem? (i := 30) rfl))) (Or.inl (hw _ (List.mem_of_getElem? (i := 38) rfl))) (by decide) (t := (.object sN1)) (t' := .long) (by decide) (by decide)))
    have f22_F_negative_a1 : Fld Z h22 a1 sN0 "negative" "Z" (.int (0 : Int32)) := f19_F_negative_a1.other W22 (Or.inr (slot_ne (Or.inl (hw _ (List.mem_of_getElem? (i := 32) rfl))) (Or.inl (hw _ (List.mem_of_getElem? (i := 38) rfl))) (by decide) (t := .boolean) (t' := .long) (by decide) (by decide)))
    have f22_F_digitRead_a1 : Fld Z h22 a1 sN0 "digitRead" "Z" (.int (0 : Int32)) := f19_F_digitRead_a1.other W22 (Or.inr (slot_ne (Or.inl (hw _ (List.mem_of_getElem? (i := 34) rfl))) (Or.inl (hw _ (List.mem_of_getElem? (i := 38) rfl))) (by decide) (t := .boolean) (t' := .long) (by decide) (by decide)))
    have f22_F_integerDigits_a1 : Fld Z h22 a1 sN0 "integerDigits" "J" (.long (0 : Int64)) := fw19.other W22 (Or.inr (slot_ne (Or.inl (hw _ (List.mem_of_getElem? (i := 36) rfl))) (Or.inl (hw _ (List.mem_of_getElem? (i := 38) rfl))) (by decide) (t := .long) (t' := .long) (by decide) (by decide)))
    have f22_F_pendingZeros_a1 : Fld Z h22 a1 sN0 "pendingZeros" "J" u6 := f19_F_pendingZeros_a1.other W22 (Or.inr (slot_ne (Or.inl (hw _ (List.mem_of_getElem? (i := 40) rfl))) (Or.inl (hw _ (List.mem_of_getElem? (i := 38) rfl))) (by decide) (t := .long) (t' := .long) (by decide) (by decide)))
    have f22_F_unscaled_a1 : Fld Z h22 a1 sN0 "unscaled" "J" u7 := f19_F_unscaled_a1.other W22 (Or.inr (slot_ne (Or.inl (hw _ (List.mem_of_getElem? (i := 42) rfl))) (Or.inl (hw _ (List.mem_of_getElem? (i := 38) rfl))) (by decide) (t := .long) (t' := .long) (by decide) (by decide)))
    have z22 : n0 ≤ h22.size := by rw [W22.size]; exact z19
    have K22 : Keep h0 h22 [a1] := K19.wr W22 (Or.inl (List.mem_of_getElem? (i := 0) rfl))
    have N22 := Fr.snoc X22 N19 g_a1
    have R23 : ∀ t, Steps p.tables e below (T22.setTop (mkF m 43 #[rv a1, rv f2] [])) t → Steps p.tables e below (s₁.setTop f0) t := fun t k => R21 t (st22 t k)
    have R24 : ∀ t, Steps p.tables e below (T22.setTop (mkF m 45 #[rv a1, rv f2] [(.long (0 : Int64)), (.ref a1)])) t → Steps p.tables e below (s₁.setTop f0) t := fun t k => R23 t (by
      show Steps p.tables e below (T22.setTop (mkF m 43 #[rv a1, rv f2] [])) _
      refine XS.aloadN X22.here hx rfl (hb hby d4_43) rfl rfl ?_
      refine XS.lconst X22.here hx rfl (hb hby d4_44) ?_
      exact k)
    obtain ⟨T25, h25, X25, e25, W25, st25⟩ := putF X22 hx hZ hown (host := "") (Or.inl (hw _ (List.mem_of_getElem? (i := 39) rfl))) Via.refl e22 f22_F_pendingZeros_a1 f22_E_a1 (Or.inl (hw _ (List.mem_of_getElem? (i := 40) rfl))) (hw _ (List.mem_of_getElem? (i := 6) rfl)) (ty := .long) (by decide) rfl rfl (g := (mkF m 45 #[rv a1, rv f2] [(.long (0 : Int64)), (.ref a1)])) rfl rfl (hb hby d4_45)
    have fw25 : Fld Z h25 a1 sN0 "pendingZeros" "J" (.long (0 : Int64)) := f22_F_pendingZeros_a1.same W25
    have f25_E_a1 : Exa Z h25 a1 sN0 := f22_E_a1.wr W25
    have f25_S_SimpleType_Form_INTEGER : Sta Z h25 sN4 "INTEGER" sN3 (.ref fI) := f22_S_SimpleType_Form_INTEGER.wr W25
    have f25_S_NumberText_Part_SIGN : Sta Z h25 sN1 "SIGN" sN2 (.ref sS) := f22_S_NumberText_Part_SIGN.wr W25
    have f25_F_integerOnly_a1 : Fld Z h25 a1 sN0 "integerOnly" "Z" (.int (1 : Int32)) := f22_F_integerOnly_a1.other W25 (Or.inr (slot_ne (Or.inl (hw _ (List.mem_of_getElem? (i := 25) rfl))) (Or.inl (hw _ (List.mem_of_getElem? (i := 40) rfl))) (by decide) (t := .boolean) (t' := .long) (by decide) (by decide)))
    have f25_F_part_a1 : Fld Z h25 a1 sN0 "part" sN2 (.ref sS) := f22_F_part_a1.other W25 (Or.inr (slot_ne (Or.inl (hw _ (List.mem_of_getElem? (i := 30) rfl))) (Or.inl (hw _ (List.mem_of_getElem? (i := 40) rfl))) (by decide) (t := (.object sN1)) (t' := .long) (by decide) (by decide)))
    have f25_F_negative_a1 : Fld Z h25 a1 sN0 "negative" "Z" (.int (0 : Int32)) := f22_F_negative_a1.other W25 (Or.inr (slot_ne (Or.inl (hw _ (List.mem_of_getElem? (i := 32) rfl))) (Or.inl (hw _ (List.mem_of_getElem? (i := 40) rfl))) (by decide) (t := .boolean) (t' := .long) (by decide) (by decide)))
    have f25_F_digitRead_a1 : Fld Z h25 a1 sN0 "digitRead" "Z" (.int (0 : Int32)) := f22_F_digitRead_a1.other W25 (Or.inr (slot_ne (Or.inl (hw _ (List.mem_of_getElem? (i := 34) rfl))) (Or.inl (hw _ (List.mem_of_getElem? (i := 40) rfl))) (by decide) (t := .boolean) (t' := .long) (by decide) (by decide)))
    have f25_F_integerDigits_a1 : Fld Z h25 a1 sN0 "integerDigits" "J" (.long (0 : Int64)) := f22_F_integerDigits_a1.other W25 (Or.inr (slot_ne (Or.inl (hw _ (List.mem_of_getElem? (i := 36) rfl))) (Or.inl (hw _ (List.mem_of_getElem? (i := 40) rfl))) (by decide) (t := .long) (t' := .long) (by decide) (by decide)))
    have f25_F_fractionDigits_a1 : Fld Z h25 a1 sN0 "fractionDigits" "J" (.long (0 : Int64)) := fw22.other W25 (Or.inr (slot_ne (Or.inl (hw _ (List.mem_of_getElem? (i := 38) rfl))) (Or.inl (hw _ (List.mem_of_getElem? (i := 40) rfl))) (by decide) (t := .long) (t' := .long) (by decide) (by decide)))
    have f25_F_unscaled_a1 : Fld Z h25 a1 sN0 "unscaled" "J" u7 := f22_F_unscaled_a1.other W25 (Or.inr (slot_ne (Or.inl (hw _ (List.mem_of_getElem? (i := 42) rfl))) (Or.inl (hw _ (List.mem_of_getElem? (i := 40) rfl))) (by decide) (t := .long) (t' := .long) (by decide) (by decide)))
    have z25 : n0 ≤ h25.size := by rw [W25.size]; exact z22
    have K25 : Keep h0 h25 [a1] := K22.wr W25 (Or.inl (List.mem_of_getElem? (i := 0) rfl))
    have N25 := Fr.snoc X25 N22 g_a1
    have R26 : ∀ t, Steps p.tables e below (T25.setTop (mkF m 48 #[rv a1, rv f2] [])) t → Steps p.tables e below (s₁.setTop f0) t := fun t k => R24 t (st25 t k)
    have R27 : ∀ t, Steps p.tables e below (T25.setTop (mkF m 50 #[rv a1, rv f2] [(.long (0 : Int64)), (.ref a1)])) t → Steps p.tables e below (s₁.setTop f0) t := fun t k => R26 t (by
      show Steps p.tables e below (T25.setTop (mkF m 48 #[rv a1, rv f2] [])) _
      refine XS.aloadN X25.here hx rfl (hb hby d4_48) rfl rfl ?_
      refine XS.lconst X25.here hx rfl (hb hby d4_49) ?_
      exact k)
    obtain ⟨T28, h28, X28, e28, W28, st28⟩ := putF X25 hx hZ hown (host := "") (Or.inl (hw _ (List.mem_of_getElem? (i := 41) rfl))) Via.refl e25 f25_F_unscaled_a1 f25_E_a1 (Or.inl (hw _ (List.mem_of_getElem? (i := 42) rfl))) (hw _ (List.mem_of_getElem? (i := 6) rfl)) (ty := .long) (by decide) rfl rfl (g := (mkF m 50 #[rv a1, rv f2] [(.long (0 : Int64)), (.ref a1)])) rfl rfl (hb hby d4_50)
    have fw28 : Fld Z h28 a1 sN0 "unscaled" "J" (.long (0 : Int64)) := f25_F_unscaled_a1.same W28
    have f28_E_a1 : Exa Z h28 a1 sN0 := f25_E_a1.wr W28
    have f28_S_SimpleType_Form_INTEGER : Sta Z h28 sN4 "INTEGER" sN3 (.ref fI) := f25_S_SimpleType_Form_INTEGER.wr W28
    have f28_S_NumberText_Part_SIGN : Sta Z h28 sN1 "SIGN" sN2 (.ref sS) := f25_S_NumberText_Part_SIGN.wr W28
    have f28_F_integerOnly_a1 : Fld Z h28 a1 sN0 "integerOnly" "Z" (.int (1 : Int32)) := f25_F_integerOnly_a1.other W28 (Or.inr (slot_ne (Or.inl (hw _ (List.mem_of_getElem? (i := 25) rfl))) (Or.inl (hw _ (List.mem_of_getElem? (i := 42) rfl))) (by decide) (t := .boolean) (t' := .long) (by decide) (by decide)))
    have f28_F_part_a1 : Fld Z h28 a1 sN0 "part" sN2 (.ref sS) := f25_F_part_a1.other W28 (Or.inr (slot_ne (Or.inl (hw _ (List.mem_of_getElem? (i := 30) rfl))) (Or.inl (hw _ (List.mem_of_getElem? (i := 42) rfl))) (by decide) (t := (.object sN1)) (t' := .long) (by decide) (by decide)))
    have f28_F_negative_a1 : Fld Z h28 a1 sN0 "negative" "Z" (.int (0 : Int32)) := f25_F_negative_a1.other W28 (Or.inr (slot_ne (Or.inl (hw _ (List.mem_of_getElem? (i := 32) rfl))) (Or.inl (hw _ (List.mem_of_getElem? (i := 42) rfl))) (by decide) (t := .boolean) (t' := .long) (by decide) (by decide)))
    have f28_F_digitRead_a1 : Fld Z h28 a1 sN0 "digitRead" "Z" (.int (0 : Int32)) := f25_F_digitRead_a1.other W28 (Or.inr (slot_ne (Or.inl (hw _ (List.mem_of_getElem? (i := 34) rfl))) (Or.inl (hw _ (List.mem_of_getElem? (i := 42) rfl))) (by decide) (t := .boolean) (t' := .long) (by decide) (by decide)))
    have f28_F_integerDigits_a1 : Fld Z h28 a1 sN0 "integerDigits" "J" (.long (0 : Int64)) := f25_F_integerDigits_a1.other W28 (Or.inr (slot_ne (Or.inl (hw _ (List.mem_of_getElem? (i := 36) rfl))) (Or.inl (hw _ (List.mem_of_getElem? (i := 42) rfl))) (by decide) (t := .long) (t' := .long) (by decide) (by decide)))
    have f28_F_fractionDigits_a1 : Fld Z h28 a1 sN0 "fractionDigits" "J" (.long (0 : Int64)) := f25_F_fractionDigits_a1.other W28 (Or.inr (slot_ne (Or.inl (hw _ (List.mem_of_getElem? (i := 38) rfl))) (Or.inl (hw _ (List.mem_of_getElem? (i := 42) rfl))) (by decide) (t := .long) (t' := .long) (by decide) (by decide)))
    have f28_F_pendingZeros_a1 : Fld Z h28 a1 sN0 "pendingZeros" "J" (.long (0 : Int64)) := fw25.other W28 (Or.inr (slot_ne (Or.inl (hw _ (List.mem_of_getElem? (i := 40) rfl))) (Or.inl (hw _ (List.mem_of_getElem? (i := 42) rfl))) (by decide) (t := .long) (t' := .long) (by decide) (by decide)))
    have z28 : n0 ≤ h28.size := by rw [W28.size]; exact z25
    have K28 : Keep h0 h28 [a1] := K25.wr W28 (Or.inl (List.mem_of_getElem? (i := 0) rfl))
    have N28 := Fr.snoc X28 N25 g_a1
    have R29 : ∀ t, Steps p.tables e below (T28.setTop (mkF m 53 #[rv a1, rv f2] [])) t → Steps p.tables e below (s₁.setTop f0) t := fun t k => R27 t (st28 t k)
    obtain ⟨fs, hr, hrun, hended, hW, hsame⟩ := X28.leave (v := none) (fun _ => rfl)
    refine ⟨_, _, pre0 _ (R29 _ ?_), hrun, hended, _, _, rfl, ?_, ⟨_, rfl⟩, hW, hsame.mono (by decide) (by decide)⟩
    · show Steps p.tables e below (T28.setTop (mkF m 53 #[rv a1, rv f2] [])) _
      exact X28.returnOut hx Bd.returns (hb hby d4_53) hr
    · show Q_rmStart Z a1 f2 fI sS u0 u1 u2 u3 u4 u5 u6 u7 h0 n0 _ T28.heap _
      rw [e28]
      exact ⟨rfl, N28, K28, (by rw [show own_i (decide (f2 = fI)) = (1 : Int32) from by simp [own_i, hs1]]; exact f28_F_integerOnly_a1), f28_F_part_a1, f28_F_negative_a1, f28_F_digitRead_a1, f28_F_integerDigits_a1, f28_F_fractionDigits_a1, f28_F_pendingZeros_a1, fw28⟩
  · skip
    have R30 : ∀ t, Steps p.tables e below (T2.setTop (mkF m 13 #[rv a1, rv f2] [(.int (0 : Int32)), (.ref a1)])) t → Steps p.tables e below (s₁.setTop f0) t := fun t k => R3 t (by
      show Steps p.tables e below (T2.setTop (mkF m 5 #[rv a1, rv f2] [(.ref fI), (.ref f2), (.ref a1)])) _
      refine Jvm.RoadKit.acmp (g := (mkF m 5 #[rv a1, rv f2] [(.ref fI), (.ref f2), (.ref a1)])) X2 hx rfl rfl rfl (pc0 := 5) (pc' := 12) (same := false) rfl (hb hby d4_5) rfl (decide_eq_false fun q => hs1 (Value.ref.inj q)) (by decide) (by decide) ?_
      refine XS.iconst X2.here hx rfl (hb hby d4_12) ?_
      exact k)
    obtain ⟨T31, h31, X31, e31, W31, st31⟩ := putFN X2 hx hZ hown (hw _ (List.mem_of_getElem? (i := 24) rfl)) Via.refl e2 F_integerOnly_a1 E_a1 (Or.inl (hw _ (List.mem_of_getElem? (i := 25) rfl))) (hw _ (List.mem_of_getElem? (i := 6) rfl)) (ty := .boolean) (v' := (.int (0 : Int32))) (by decide) rfl rfl (g := (mkF m 13 #[rv a1, rv f2] [(.int (0 : Int32)), (.ref a1)])) rfl rfl (hb hby d4_13)
    have fw31 : Fld Z h31 a1 sN0 "integerOnly" "Z" (.int (0 : Int32)) := F_integerOnly_a1.same W31
    have f31_E_a1 : Exa Z h31 a1 sN0 := E_a1.wr W31
    have f31_S_SimpleType_Form_INTEGER : Sta Z h31 sN4 "INTEGER" sN3 (.ref fI) := S_SimpleType_Form_INTEGER.wr W31
    have f31_S_NumberText_Part_SIGN : Sta Z h31 sN1 "SIGN" sN2 (.ref sS) := S_NumberText_Part_SIGN.wr W31
    have f31_F_part_a1 : Fld Z h31 a1 sN0 "part" sN2 u1 := F_part_a1.other W31 (Or.inr (slot_ne (Or.inl (hw _ (List.mem_of_getElem? (i := 30) rfl))) (Or.inl (hw _ (List.mem_of_getElem? (i := 25) rfl))) (by decide) (t := (.object sN1)) (t' := .boolean) (by decide) (by decide)))
    have f31_F_negative_a1 : Fld Z h31 a1 sN0 "negative" "Z" u2 := F_negative_a1.other W31 (Or.inr (slot_ne (Or.inl (hw _ (List.mem_of_getElem? (i := 32) rfl))) (Or.inl (hw _ (List.mem_of_getElem? (i := 25) rfl))) (by decide) (t := .boolean) (t' := .boolean) (by decide) (by decide)))
    have f31_F_digitRead_a1 : Fld Z h31 a1 sN0 "digitRead" "Z" u3 := F_digitRead_a1.other W31 (Or.inr (slot_ne (Or.inl (hw _ (List.mem_of_getElem? (i := 34) rfl))) (Or.inl (hw _ (List.mem_of_getElem? (i := 25) rfl))) (by decide) (t := .boolean) (t' := .boolean) (by decide) (by decide)))
    have f31_F_integerDigits_a1 : Fld Z h31 a1 sN0 "integerDigits" "J" u4 := F_integerDigits_a1.other W31 (Or.inr (slot_ne (Or.inl (hw _ (List.mem_of_getElem? (i := 36) rfl))) (Or.inl (hw _ (List.mem_of_getElem? (i := 25) rfl))) (by decide) (t := .long) (t' := .boolean) (by decide) (by decide)))
    have f31_F_fractionDigits_a1 : Fld Z h31 a1 sN0 "fractionDigits" "J" u5 := F_fractionDigits_a1.other W31 (Or.inr (slot_ne (Or.inl (hw _ (List.mem_of_getElem? (i := 38) rfl))) (Or.inl (hw _ (List.mem_of_getElem? (i := 25) rfl))) (by decide) (t := .long) (t' := .boolean) (by decide) (by decide)))
    have f31_F_pendingZeros_a1 : Fld Z h31 a1 sN0 "pendingZeros" "J" u6 := F_pendingZeros_a1.other W31 (Or.inr (slot_ne (Or.inl (hw _ (List.mem_of_getElem? (i := 40) rfl))) (Or.inl (hw _ (List.mem_of_getElem? (i := 25) rfl))) (by decide) (t := .long) (t' := .boolean) (by decide) (by decide)))
    have f31_F_unscaled_a1 : Fld Z h31 a1 sN0 "unscaled" "J" u7 := F_unscaled_a1.other W31 (Or.inr (slot_ne (Or.inl (hw _ (List.mem_of_getElem? (i := 42) rfl))) (Or.inl (hw _ (List.mem_of_getElem? (i := 25) rfl))) (by decide) (t := .long) (t' := .boolean) (by decide) (by decide)))
    have z31 : n0 ≤ h31.size := by rw [W31.size]; exact Z0
    have K31 : Keep h0 h31 [a1] := (Keep.refl h0 [a1]).wr W31 (Or.inl (List.mem_of_getElem? (i := 0) rfl))
    have N31 := Fr.snoc X31 N0 g_a1
    have R32 : ∀ t, Steps p.tables e below (T31.setTop (mkF m 16 #[rv a1, rv f2] [])) t → Steps p.tables e below (s₁.setTop f0) t := fun t k => R30 t (st31 t k)
    have R33 : ∀ t, Steps p.tables e below (T31.setTop (mkF m 17 #[rv a1, rv f2] [(.ref a1)])) t → Steps p.tables e below (s₁.setTop f0) t := fun t k => R32 t (by
      show Steps p.tables e below (T31.setTop (mkF m 16 #[rv a1, rv f2] [])) _
      refine XS.aloadN X31.here hx rfl (hb hby d4_16) rfl rfl ?_
      exact k)
    obtain ⟨T34, X34, e34, st34⟩ := getS2 X31 hx hZ hown (host := "") (Or.inl (hw _ (List.mem_of_getElem? (i := 26) rfl))) Via.refl e31 f31_S_NumberText_Part_SIGN (g := (mkF m 17 #[rv a1, rv f2] [(.ref a1)])) rfl (hb hby d4_17)
    have R35 : ∀ t, Steps p.tables e below (T34.setTop (mkF m 20 #[rv a1, rv f2] [(.ref sS), (.ref a1)])) t → Steps p.tables e below (s₁.setTop f0) t := fun t k => R33 t (st34 t k)
    obtain ⟨T36, h36, X36, e36, W36, st36⟩ := putF X34 hx hZ hown (host := "") (Or.inl (hw _ (List.mem_of_getElem? (i := 29) rfl))) Via.refl e34 f31_F_part_a1 f31_E_a1 (Or.inl (hw _ (List.mem_of_getElem? (i := 30) rfl))) (hw _ (List.mem_of_getElem? (i := 6) rfl)) (ty := (.object sN1)) (by decide) rfl rfl (g := (mkF m 20 #[rv a1, rv f2] [(.ref sS), (.ref a1)])) rfl rfl (hb hby d4_20)
    have fw36 : Fld Z h36 a1 sN0 "part" sN2 (.ref sS) := f31_F_part_a1.same W36
    have f36_E_a1 : Exa Z h36 a1 sN0 := f31_E_a1.wr W36
    have f36_S_SimpleType_Form_INTEGER : Sta Z h36 sN4 "INTEGER" sN3 (.ref fI) := f31_S_SimpleType_Form_INTEGER.wr W36
    have f36_S_NumberText_Part_SIGN : Sta Z h36 sN1 "SIGN" sN2 (.ref sS) := f31_S_NumberText_Part_SIGN.wr W36
    have f36_F_integerOnly_a1 : Fld Z h36 a1 sN0 "integerOnly" "Z" (.int (0 : Int32)) := fw31.other W36 (Or.inr (slot_ne (Or.inl (hw _ (List.mem_of_getElem? (i := 25) rfl))) (Or.inl (hw _ (List.mem_of_getElem? (i := 30) rfl))) (by decide) (t := .boolean) (t' := (.object sN1)) (by decide) (by decide)))
    have f36_F_negative_a1 : Fld Z h36 a1 sN0 "negative" "Z" u2 := f31_F_negative_a1.other W36 (Or.inr (slot_ne (Or.inl (hw _ (List.mem_of_getElem? (i := 32) rfl))) (Or.inl (hw _ (List.mem_of_getElem? (i := 30) rfl))) (by decide) (t := .boolean) (t' := (.object sN1)) (by decide) (by decide)))
    have f36_F_digitRead_a1 : Fld Z h36 a1 sN0 "digitRead" "Z" u3 := f31_F_digitRead_a1.other W36 (Or.inr (slot_ne (Or.inl (hw _ (List.mem_of_getElem? (i := 34) rfl))) (Or.inl (hw _ (List.mem_of_getElem? (i := 30) rfl))) (by decide) (t := .boolean) (t' := (.object sN1)) (by decide) (by decide)))
    have f36_F_integerDigits_a1 : Fld Z h36 a1 sN0 "integerDigits" "J" u4 := f31_F_integerDigits_a1.other W36 (Or.inr (slot_ne (Or.inl (hw _ (List.mem_of_getElem? (i := 36) rfl))) (Or.inl (hw _ (List.mem_of_getElem? (i := 30) rfl))) (by decide) (t := .long) (t' := (.object sN1)) (by decide) (by decide)))
    have f36_F_fractionDigits_a1 : Fld Z h36 a1 sN0 "fractionDigits" "J" u5 := f31_F_fractionDigits_a1.other W36 (Or.inr (slot_ne (Or.inl (hw _ (List.mem_of_getElem? (i := 38) rfl))) (Or.inl (hw _ (List.mem_of_getElem? (i := 30) rfl))) (by decide) (t := .long) (t' := (.object sN1)) (by decide) (by decide)))
    have f36_F_pendingZeros_a1 : Fld Z h36 a1 sN0 "pendingZeros" "J" u6 := f31_F_pendingZeros_a1.other W36 (Or.inr (slot_ne (Or.inl (hw _ (List.mem_of_getElem? (i := 40) rfl))) (Or.inl (hw _ (List.mem_of_getElem? (i := 30) rfl))) (by decide) (t := .long) (t' := (.object sN1)) (by decide) (by decide)))
    have f36_F_unscaled_a1 : Fld Z h36 a1 sN0 "unscaled" "J" u7 := f31_F_unscaled_a1.other W36 (Or.inr (slot_ne (Or.inl (hw _ (List.mem_of_getElem? (i := 42) rfl))) (Or.inl (hw _ (List.mem_of_getElem? (i := 30) rfl))) (by decide) (t := .long) (t' := (.object sN1)) (by decide) (by decide)))
    have z36 : n0 ≤ h36.size := by rw [W36.size]; exact z31
    have K36 : Keep h0 h36 [a1] := K31.wr W36 (Or.inl (List.mem_of_getElem? (i := 0) rfl))
    have N36 := Fr.snoc X36 N31 g_a1
    have R37 : ∀ t, Steps p.tables e below (T36.setTop (mkF m 23 #[rv a1, rv f2] [])) t → Steps p.tables e below (s₁.setTop f0) t := fun t k => R35 t (st36 t k)
    have R38 : ∀ t, Steps p.tables e below (T36.setTop (mkF m 25 #[rv a1, rv f2] [(.int (0 : Int32)), (.ref a1)])) t → Steps p.tables e below (s₁.setTop f0) t := fun t k => R37 t (by
      show Steps p.tables e below (T36.setTop (mkF m 23 #[rv a1, rv f2] [])) _
      refine XS.aloadN X36.here hx rfl (hb hby d4_23) rfl rfl ?_
      refine XS.iconst X36.here hx rfl (hb hby d4_24) ?_
      exact k)
    obtain ⟨T39, h39, X39, e39, W39, st39⟩ := putFN X36 hx hZ hown (hw _ (List.mem_of_getElem? (i := 31) rfl)) Via.refl e36 f36_F_negative_a1 f36_E_a1 (Or.inl (hw _ (List.mem_of_getElem? (i := 32) rfl))) (hw _ (List.mem_of_getElem? (i := 6) rfl)) (ty := .boolean) (v' := (.int (0 : Int32))) (by decide) rfl rfl (g := (mkF m 25 #[rv a1, rv f2] [(.int (0 : Int32)), (.ref a1)])) rfl rfl (hb hby d4_25)
    have fw39 : Fld Z h39 a1 sN0 "negative" "Z" (.int (0 : Int32)) := f36_F_negative_a1.same W39
    have f39_E_a1 : Exa Z h39 a1 sN0 := f36_E_a1.wr W39
    have f39_S_SimpleType_Form_INTEGER : Sta Z h39 sN4 "INTEGER" sN3 (.ref fI) := f36_S_SimpleType_Form_INTEGER.wr W39
    have f39_S_NumberText_Part_SIGN : Sta Z h39 sN1 "SIGN" sN2 (.ref sS) := f36_S_NumberText_Part_SIGN.wr W39
    have f39_F_integerOnly_a1 : Fld Z h39 a1 sN0 "integerOnly" "Z" (.int (0 : Int32)) := f36_F_integerOnly_a1.other W39 (Or.inr (slot_ne (Or.inl (hw _ (List.mem_of_getElem? (i := 25) rfl))) (Or.inl (hw _ (List.mem_of_getElem? (i := 32) rfl))) (by decide) (t := .boolean) (t' := .boolean) (by decide) (by decide)))
    have f39_F_part_a1 : Fld Z h39 a1 sN0 "part" sN2 (.ref sS) := fw36.other W39 (Or.inr (slot_ne (Or.inl (hw _ (List.mem_of_getElem? (i := 30) rfl))) (Or.inl (hw _ (List.mem_of_getElem? (i := 32) rfl))) (by decide) (t := (.object sN1)) (t' := .boolean) (by decide) (by decide)))
    have f39_F_digitRead_a1 : Fld Z h39 a1 sN0 "digitRead" "Z" u3 := f36_F_digitRead_a1.other W39 (Or.inr (slot_ne (Or.inl (hw _ (List.mem_of_getElem? (i := 34) rfl))) (Or.inl (hw _ (List.mem_of_getElem? (i := 32) rfl))) (by decide) (t := .boolean) (t' := .boolean) (by decide) (by decide)))
    have f39_F_integerDigits_a1 : Fld Z h39 a1 sN0 "integerDigits" "J" u4 := f36_F_integerDigits_a1.other W39 (Or.inr (slot_ne (Or.inl (hw _ (List.mem_of_getElem? (i := 36) rfl))) (Or.inl (hw _ (List.mem_of_getElem? (i := 32) rfl))) (by decide) (t := .long) (t' := .boolean) (by decide) (by decide)))
    have f39_F_fractionDigits_a1 : Fld Z h39 a1 sN0 "fractionDigits" "J" u5 := f36_F_fractionDigits_a1.other W39 (Or.inr (slot_ne (Or.inl (hw _ (List.mem_of_getElem? (i := 38) rfl))) (Or.inl (hw _ (List.mem_of_getElem? (i := 32) rfl))) (by decide) (t := .long) (t' := .boolean) (by decide) (by decide)))
    have f39_F_pendingZeros_a1 : Fld Z h39 a1 sN0 "pendingZeros" "J" u6 := f36_F_pendingZeros_a1.other W39 (Or.inr (slot_ne (Or.inl (hw _ (List.mem_of_getElem? (i := 40) rfl))) (Or.inl (hw _ (List.mem_of_getElem? (i := 32) rfl))) (by decide) (t := .long) (t' := .boolean) (by decide) (by decide)))
    have f39_F_unscaled_a1 : Fld Z h39 a1 sN0 "unscaled" "J" u7 := f36_F_unscaled_a1.other W39 (Or.inr (slot_ne (Or.inl (hw _ (List.mem_of_getElem? (i := 42) rfl))) (Or.inl (hw _ (List.mem_of_getElem? (i := 32) rfl))) (by decide) (t := .long) (t' := .boolean) (by decide) (by decide)))
    have z39 : n0 ≤ h39.size := by rw [W39.size]; exact z36
    have K39 : Keep h0 h39 [a1] := K36.wr W39 (Or.inl (List.mem_of_getElem? (i := 0) rfl))
    have N39 := Fr.snoc X39 N36 g_a1
    have R40 : ∀ t, Steps p.tables e below (T39.setTop (mkF m 28 #[rv a1, rv f2] [])) t → Steps p.tables e below (s₁.setTop f0) t := fun t k => R38 t (st39 t k)
    have R41 : ∀ t, Steps p.tables e below (T39.setTop (mkF m 30 #[rv a1, rv f2] [(.int (0 : Int32)), (.ref a1)])) t → Steps p.tables e below (s₁.setTop f0) t := fun t k => R40 t (by
      show Steps p.tables e below (T39.setTop (mkF m 28 #[rv a1, rv f2] [])) _
      refine XS.aloadN X39.here hx rfl (hb hby d4_28) rfl rfl ?_
      refine XS.iconst X39.here hx rfl (hb hby d4_29) ?_
      exact k)
    obtain ⟨T42, h42, X42, e42, W42, st42⟩ := putFN X39 hx hZ hown (hw _ (List.mem_of_getElem? (i := 33) rfl)) Via.refl e39 f39_F_digitRead_a1 f39_E_a1 (Or.inl (hw _ (List.mem_of_getElem? (i := 34) rfl))) (hw _ (List.mem_of_getElem? (i := 6) rfl)) (ty := .boolean) (v' := (.int (0 : Int32))) (by decide) rfl rfl (g := (mkF m 30 #[rv a1, rv f2] [(.int (0 : Int32)), (.ref a1)])) rfl rfl (hb hby d4_30)
    have fw42 : Fld Z h42 a1 sN0 "digitRead" "Z" (.int (0 : Int32)) := f39_F_digitRead_a1.same W42
    have f42_E_a1 : Exa Z h42 a1 sN0 := f39_E_a1.wr W42
    have f42_S_SimpleType_Form_INTEGER : Sta Z h42 sN4 "INTEGER" sN3 (.ref fI) := f39_S_SimpleType_Form_INTEGER.wr W42
    have f42_S_NumberText_Part_SIGN : Sta Z h42 sN1 "SIGN" sN2 (.ref sS) := f39_S_NumberText_Part_SIGN.wr W42
    have f42_F_integerOnly_a1 : Fld Z h42 a1 sN0 "integerOnly" "Z" (.int (0 : Int32)) := f39_F_integerOnly_a1.other W42 (Or.inr (slot_ne (Or.inl (hw _ (List.mem_of_getElem? (i := 25) rfl))) (Or.inl (hw _ (List.mem_of_getElem? (i := 34) rfl))) (by decide) (t := .boolean) (t' := .boolean) (by decide) (by decide)))
    have f42_F_part_a1 : Fld Z h42 a1 sN0 "part" sN2 (.ref sS) := f39_F_part_a1.other W42 (Or.inr (slot_ne (Or.inl (hw _ (List.mem_of_getElem? (i := 30) rfl))) (Or.inl (hw _ (List.mem_of_getElem? (i := 34) rfl))) (by decide) (t := (.object sN1)) (t' := .boolean) (by decide) (by decide)))
    have f42_F_negative_a1 : Fld Z h42 a1 sN0 "negative" "Z" (.int (0 : Int32)) := fw39.other W42 (Or.inr (slot_ne (Or.inl (hw _ (List.mem_of_getElem? (i := 32) rfl))) (Or.inl (hw _ (List.mem_of_getElem? (i := 34) rfl))) (by decide) (t := .boolean) (t' := .boolean) (by decide) (by decide)))
    have f42_F_integerDigits_a1 : Fld Z h42 a1 sN0 "integerDigits" "J" u4 := f39_F_integerDigits_a1.other W42 (Or.inr (slot_ne (Or.inl (hw _ (List.mem_of_getElem? (i := 36) rfl))) (Or.inl (hw _ (List.mem_of_getElem? (i := 34) rfl))) (by decide) (t := .long) (t' := .boolean) (by decide) (by decide)))
    have f42_F_fractionDigits_a1 : Fld Z h42 a1 sN0 "fractionDigits" "J" u5 := f39_F_fractionDigits_a1.other W42 (Or.inr (slot_ne (Or.inl (hw _ (List.mem_of_getElem? (i := 38) rfl))) (Or.inl (hw _ (List.mem_of_getElem? (i := 34) rfl))) (by decide) (t := .long) (t' := .boolean) (by decide) (by decide)))
    have f42_F_pendingZeros_a1 : Fld Z h42 a1 sN0 "pendingZeros" "J" u6 := f39_F_pendingZeros_a1.other W42 (Or.inr (slot_ne (Or.inl (hw _ (List.mem_of_getElem? (i := 40) rfl))) (Or.inl (hw _ (List.mem_of_getElem? (i := 34) rfl))) (by decide) (t := .long) (t' := .boolean) (by decide) (by decide)))
    have f42_F_unscaled_a1 : Fld Z h42 a1 sN0 "unscaled" "J" u7 := f39_F_unscaled_a1.other W42 (Or.inr (slot_ne (Or.inl (hw _ (List.mem_of_getElem? (i := 42) rfl))) (Or.inl (hw _ (List.mem_of_getElem? (i := 34) rfl))) (by decide) (t := .long) (t' := .boolean) (by decide) (by decide)))
    have z42 : n0 ≤ h42.size := by rw [W42.size]; exact z39
    have K42 : Keep h0 h42 [a1] := K39.wr W42 (Or.inl (List.mem_of_getElem? (i := 0) rfl))
    have N42 := Fr.snoc X42 N39 g_a1
    have R43 : ∀ t, Steps p.tables e below (T42.setTop (mkF m 33 #[rv a1, rv f2] [])) t → Steps p.tables e below (s₁.setTop f0) t := fun t k => R41 t (st42 t k)
    have R44 : ∀ t, Steps p.tables e below (T42.setTop (mkF m 35 #[rv a1, rv f2] [(.long (0 : Int64)), (.ref a1)])) t → Steps p.tables e below (s₁.setTop f0) t := fun t k => R43 t (by
      show Steps p.tables e below (T42.setTop (mkF m 33 #[rv a1, rv f2] [])) _
      refine XS.aloadN X42.here hx rfl (hb hby d4_33) rfl rfl ?_
      refine XS.lconst X42.here hx rfl (hb hby d4_34) ?_
      exact k)
    obtain ⟨T45, h45, X45, e45, W45, st45⟩ := putF X42 hx hZ hown (host := "") (Or.inl (hw _ (List.mem_of_getElem? (i := 35) rfl))) Via.refl e42 f42_F_integerDigits_a1 f42_E_a1 (Or.inl (hw _ (List.mem_of_getElem? (i := 36) rfl))) (hw _ (List.mem_of_getElem? (i := 6) rfl)) (ty := .long) (by decide) rfl rfl (g := (mkF m 35 #[rv a1, rv f2] [(.long (0 : Int64)), (.ref a1)])) rfl rfl (hb hby d4_35)
    have fw45 : Fld Z h45 a1 sN0 "integerDigits" "J" (.long (0 : Int64)) := f42_F_integerDigits_a1.same W45
    have f45_E_a1 : Exa Z h45 a1 sN0 := f42_E_a1.wr W45
    have f45_S_SimpleType_Form_INTEGER : Sta Z h45 sN4 "INTEGER" sN3 (.ref fI) := f42_S_SimpleType_Form_INTEGER.wr W45
    have f45_S_NumberText_Part_SIGN : Sta Z h45 sN1 "SIGN" sN2 (.ref sS) := f42_S_NumberText_Part_SIGN.wr W45
    have f45_F_integerOnly_a1 : Fld Z h45 a1 sN0 "integerOnly" "Z" (.int (0 : Int32)) := f42_F_integerOnly_a1.other W45 (Or.inr (slot_ne (Or.inl (hw _ (List.mem_of_getElem? (i := 25) rfl))) (Or.inl (hw _ (List.mem_of_getElem? (i := 36) rfl))) (by decide) (t := .boolean) (t' := .long) (by decide) (by decide)))
    have f45_F_part_a1 : Fld Z h45 a1 sN0 "part" sN2 (.ref sS) := f42_F_part_a1.other W45 (Or.inr (slot_ne (Or.inl (hw _ (List.mem_of_getElem? (i := 30) rfl))) (Or.inl (hw _ (List.mem_of_getElem? (i := 36) rfl))) (by decide) (t := (.object sN1)) (t' := .long) (by decide) (by decide)))
    have f45_F_negative_a1 : Fld Z h45 a1 sN0 "negative" "Z" (.int (0 : Int32)) := f42_F_negative_a1.other W45 (Or.inr (slot_ne (Or.inl (hw _ (List.mem_of_getElem? (i := 32) rfl))) (Or.inl (hw _ (List.mem_of_getElem? (i := 36) rfl))) (by decide) (t := .boolean) (t' := .long) (by decide) (by decide)))
    have f45_F_digitRead_a1 : Fld Z h45 a1 sN0 "digitRead" "Z" (.int (0 : Int32)) := fw42.other W45 (Or.inr (slot_ne (Or.inl (hw _ (List.mem_of_getElem? (i := 34) rfl))) (Or.inl (hw _ (List.mem_of_getElem? (i := 36) rfl))) (by decide) (t := .boolean) (t' := .long) (by decide) (by decide)))
    have f45_F_fractionDigits_a1 : Fld Z h45 a1 sN0 "fractionDigits" "J" u5 := f42_F_fractionDigits_a1.other W45 (Or.inr (slot_ne (Or.inl (hw _ (List.mem_of_getElem? (i := 38) rfl))) (Or.inl (hw _ (List.mem_of_getElem? (i := 36) rfl))) (by decide) (t := .long) (t' := .long) (by decide) (by decide)))
    have f45_F_pendingZeros_a1 : Fld Z h45 a1 sN0 "pendingZeros" "J" u6 := f42_F_pendingZeros_a1.other W45 (Or.inr (slot_ne (Or.inl (hw _ (List.mem_of_getElem? (i := 40) rfl))) (Or.inl (hw _ (List.mem_of_getElem? (i := 36) rfl))) (by decide) (t := .long) (t' := .long) (by decide) (by decide)))
    have f45_F_unscaled_a1 : Fld Z h45 a1 sN0 "unscaled" "J" u7 := f42_F_unscaled_a1.other W45 (Or.inr (slot_ne (Or.inl (hw _ (List.mem_of_getElem? (i := 42) rfl))) (Or.inl (hw _ (List.mem_of_getElem? (i := 36) rfl))) (by decide) (t := .long) (t' := .long) (by decide) (by decide)))
    have z45 : n0 ≤ h45.size := by rw [W45.size]; exact z42
    have K45 : Keep h0 h45 [a1] := K42.wr W45 (Or.inl (List.mem_of_getElem? (i := 0) rfl))
    have N45 := Fr.snoc X45 N42 g_a1
    have R46 : ∀ t, Steps p.tables e below (T45.setTop (mkF m 38 #[rv a1, rv f2] [])) t → Steps p.tables e below (s₁.setTop f0) t := fun t k => R44 t (st45 t k)
    have R47 : ∀ t, Steps p.tables e below (T45.setTop (mkF m 40 #[rv a1, rv f2] [(.long (0 : Int64)), (.ref a1)])) t → Steps p.tables e below (s₁.setTop f0) t := fun t k => R46 t (by
      show Steps p.tables e below (T45.setTop (mkF m 38 #[rv a1, rv f2] [])) _
      refine XS.aloadN X45.here hx rfl (hb hby d4_38) rfl rfl ?_
      refine XS.lconst X45.here hx rfl (hb hby d4_39) ?_
      exact k)
    obtain ⟨T48, h48, X48, e48, W48, st48⟩ := putF X45 hx hZ hown (host := "") (Or.inl (hw _ (List.mem_of_getElem? (i := 37) rfl))) Via.refl e45 f45_F_fractionDigits_a1 f45_E_a1 (Or.inl (hw _ (List.mem_of_getElem? (i := 38) rfl))) (hw _ (List.mem_of_getElem? (i := 6) rfl)) (ty := .long) (by decide) rfl rfl (g := (mkF m 40 #[rv a1, rv f2] [(.long (0 : Int64)), (.ref a1)])) rfl rfl (hb hby d4_40)
    have fw48 : Fld Z h48 a1 sN0 "fractionDigits" "J" (.long (0 : Int64)) := f45_F_fractionDigits_a1.same W48
    have f48_E_a1 : Exa Z h48 a1 sN0 := f45_E_a1.wr W48
    have f48_S_SimpleType_Form_INTEGER : Sta Z h48 sN4 "INTEGER" sN3 (.ref fI) := f45_S_SimpleType_Form_INTEGER.wr W48
    have f48_S_NumberText_Part_SIGN : Sta Z h48 sN1 "SIGN" sN2 (.ref sS) := f45_S_NumberText_Part_SIGN.wr W48
    have f48_F_integerOnly_a1 : Fld Z h48 a1 sN0 "integerOnly" "Z" (.int (0 : Int32)) := f45_F_integerOnly_a1.other W48 (Or.inr (slot_ne (Or.inl (hw _ (List.mem_of_getElem? (i := 25) rfl))) (Or.inl (hw _ (List.mem_of_getElem? (i := 38) rfl))) (by decide) (t := .boolean) (t' := .long) (by decide) (by decide)))
    have f48_F_part_a1 : Fld Z h48 a1 sN0 "part" sN2 (.ref sS) := f45_F_part_a1.other W48 (Or.inr (slot_ne (Or.inl (hw _ (List.mem_of_getElem? (i := 30) rfl))) (Or.inl (hw _ (List.mem_of_getElem? (i := 38) rfl))) (by decide) (t := (.object sN1)) (t' := .long) (by decide) (by decide)))
    have f48_F_negative_a1 : Fld Z h48 a1 sN0 "negative" "Z" (.int (0 : Int32)) := f45_F_negative_a1.other W48 (Or.inr (slot_ne (Or.inl (hw _ (List.mem_of_getElem? (i := 32) rfl))) (Or.inl (hw _ (List.mem_of_getElem? (i := 38) rfl))) (by decide) (t := .boolean) (t' := .long) (by decide) (by decide)))
    have f48_F_digitRead_a1 : Fld Z h48 a1 sN0 "digitRead" "Z" (.int (0 : Int32)) := f45_F_digitRead_a1.other W48 (Or.inr (slot_ne (Or.inl (hw _ (List.mem_of_getElem? (i := 34) rfl))) (Or.inl (hw _ (List.mem_of_getElem? (i := 38) rfl))) (by decide) (t := .boolean) (t' := .long) (by decide) (by decide)))
    have f48_F_integerDigits_a1 : Fld Z h48 a1 sN0 "integerDigits" "J" (.long (0 : Int64)) := fw45.other W48 (Or.inr (slot_ne (Or.inl (hw _ (List.mem_of_getElem? (i := 36) rfl))) (Or.inl (hw _ (List.mem_of_getElem? (i := 38) rfl))) (by decide) (t := .long) (t' := .long) (by decide) (by decide)))
    have f48_F_pendingZeros_a1 : Fld Z h48 a1 sN0 "pendingZeros" "J" u6 := f45_F_pendingZeros_a1.other W48 (Or.inr (slot_ne (Or.inl (hw _ (List.mem_of_getElem? (i := 40) rfl))) (Or.inl (hw _ (List.mem_of_getElem? (i := 38) rfl))) (by decide) (t := .long) (t' := .long) (by decide) (by decide)))
    have f48_F_unscaled_a1 : Fld Z h48 a1 sN0 "unscaled" "J" u7 := f45_F_unscaled_a1.other W48 (Or.inr (slot_ne (Or.inl (hw _ (List.mem_of_getElem? (i := 42) rfl))) (Or.inl (hw _ (List.mem_of_getElem? (i := 38) rfl))) (by decide) (t := .long) (t' := .long) (by decide) (by decide)))
    have z48 : n0 ≤ h48.size := by rw [W48.size]; exact z45
    have K48 : Keep h0 h48 [a1] := K45.wr W48 (Or.inl (List.mem_of_getElem? (i := 0) rfl))
    have N48 := Fr.snoc X48 N45 g_a1
    have R49 : ∀ t, Steps p.tables e below (T48.setTop (mkF m 43 #[rv a1, rv f2] [])) t → Steps p.tables e below (s₁.setTop f0) t := fun t k => R47 t (st48 t k)
    have R50 : ∀ t, Steps p.tables e below (T48.setTop (mkF m 45 #[rv a1, rv f2] [(.long (0 : Int64)), (.ref a1)])) t → Steps p.tables e below (s₁.setTop f0) t := fun t k => R49 t (by
      show Steps p.tables e below (T48.setTop (mkF m 43 #[rv a1, rv f2] [])) _
      refine XS.aloadN X48.here hx rfl (hb hby d4_43) rfl rfl ?_
      refine XS.lconst X48.here hx rfl (hb hby d4_44) ?_
      exact k)
    obtain ⟨T51, h51, X51, e51, W51, st51⟩ := putF X48 hx hZ hown (host := "") (Or.inl (hw _ (List.mem_of_getElem? (i := 39) rfl))) Via.refl e48 f48_F_pendingZeros_a1 f48_E_a1 (Or.inl (hw _ (List.mem_of_getElem? (i := 40) rfl))) (hw _ (List.mem_of_getElem? (i := 6) rfl)) (ty := .long) (by decide) rfl rfl (g := (mkF m 45 #[rv a1, rv f2] [(.long (0 : Int64)), (.ref a1)])) rfl rfl (hb hby d4_45)
    have fw51 : Fld Z h51 a1 sN0 "pendingZeros" "J" (.long (0 : Int64)) := f48_F_pendingZeros_a1.same W51
    have f51_E_a1 : Exa Z h51 a1 sN0 := f48_E_a1.wr W51
    have f51_S_SimpleType_Form_INTEGER : Sta Z h51 sN4 "INTEGER" sN3 (.ref fI) := f48_S_SimpleType_Form_INTEGER.wr W51
    have f51_S_NumberText_Part_SIGN : Sta Z h51 sN1 "SIGN" sN2 (.ref sS) := f48_S_NumberText_Part_SIGN.wr W51
    have f51_F_integerOnly_a1 : Fld Z h51 a1 sN0 "integerOnly" "Z" (.int (0 : Int32)) := f48_F_integerOnly_a1.other W51 (Or.inr (slot_ne (Or.inl (hw _ (List.mem_of_getElem? (i := 25) rfl))) (Or.inl (hw _ (List.mem_of_getElem? (i := 40) rfl))) (by decide) (t := .boolean) (t' := .long) (by decide) (by decide)))
    have f51_F_part_a1 : Fld Z h51 a1 sN0 "part" sN2 (.ref sS) := f48_F_part_a1.other W51 (Or.inr (slot_ne (Or.inl (hw _ (List.mem_of_getElem? (i := 30) rfl))) (Or.inl (hw _ (List.mem_of_getElem? (i := 40) rfl))) (by decide) (t := (.object sN1)) (t' := .long) (by decide) (by decide)))
    have f51_F_negative_a1 : Fld Z h51 a1 sN0 "negative" "Z" (.int (0 : Int32)) := f48_F_negative_a1.other W51 (Or.inr (slot_ne (Or.inl (hw _ (List.mem_of_getElem? (i := 32) rfl))) (Or.inl (hw _ (List.mem_of_getElem? (i := 40) rfl))) (by decide) (t := .boolean) (t' := .long) (by decide) (by decide)))
    have f51_F_digitRead_a1 : Fld Z h51 a1 sN0 "digitRead" "Z" (.int (0 : Int32)) := f48_F_digitRead_a1.other W51 (Or.inr (slot_ne (Or.inl (hw _ (List.mem_of_getElem? (i := 34) rfl))) (Or.inl (hw _ (List.mem_of_getElem? (i := 40) rfl))) (by decide) (t := .boolean) (t' := .long) (by decide) (by decide)))
    have f51_F_integerDigits_a1 : Fld Z h51 a1 sN0 "integerDigits" "J" (.long (0 : Int64)) := f48_F_integerDigits_a1.other W51 (Or.inr (slot_ne (Or.inl (hw _ (List.mem_of_getElem? (i := 36) rfl))) (Or.inl (hw _ (List.mem_of_getElem? (i := 40) rfl))) (by decide) (t := .long) (t' := .long) (by decide) (by decide)))
    have f51_F_fractionDigits_a1 : Fld Z h51 a1 sN0 "fractionDigits" "J" (.long (0 : Int64)) := fw48.other W51 (Or.inr (slot_ne (Or.inl (hw _ (List.mem_of_getElem? (i := 38) rfl))) (Or.inl (hw _ (List.mem_of_getElem? (i := 40) rfl))) (by decide) (t := .long) (t' := .long) (by decide) (by decide)))
    have f51_F_unscaled_a1 : Fld Z h51 a1 sN0 "unscaled" "J" u7 := f48_F_unscaled_a1.other W51 (Or.inr (slot_ne (Or.inl (hw _ (List.mem_of_getElem? (i := 42) rfl))) (Or.inl (hw _ (List.mem_of_getElem? (i := 40) rfl))) (by decide) (t := .long) (t' := .long) (by decide) (by decide)))
    have z51 : n0 ≤ h51.size := by rw [W51.size]; exact z48
    have K51 : Keep h0 h51 [a1] := K48.wr W51 (Or.inl (List.mem_of_getElem? (i := 0) rfl))
    have N51 := Fr.snoc X51 N48 g_a1
    have R52 : ∀ t, Steps p.tables e below (T51.setTop (mkF m 48 #[rv a1, rv f2] [])) t → Steps p.tables e below (s₁.setTop f0) t := fun t k => R50 t (st51 t k)
    have R53 : ∀ t, Steps p.tables e below (T51.setTop (mkF m 50 #[rv a1, rv f2] [(.long (0 : Int64)), (.ref a1)])) t → Steps p.tables e below (s₁.setTop f0) t := fun t k => R52 t (by
      show Steps p.tables e below (T51.setTop (mkF m 48 #[rv a1, rv f2] [])) _
      refine XS.aloadN X51.here hx rfl (hb hby d4_48) rfl rfl ?_
      refine XS.lconst X51.here hx rfl (hb hby d4_49) ?_
      exact k)
    obtain ⟨T54, h54, X54, e54, W54, st54⟩ := putF X51 hx hZ hown (host := "") (Or.inl (hw _ (List.mem_of_getElem? (i := 41) rfl))) Via.refl e51 f51_F_unscaled_a1 f51_E_a1 (Or.inl (hw _ (List.mem_of_getElem? (i := 42) rfl))) (hw _ (List.mem_of_getElem? (i := 6) rfl)) (ty := .long) (by decide) rfl rfl (g := (mkF m 50 #[rv a1, rv f2] [(.long (0 : Int64)), (.ref a1)])) rfl rfl (hb hby d4_50)
    have fw54 : Fld Z h54 a1 sN0 "unscaled" "J" (.long (0 : Int64)) := f51_F_unscaled_a1.same W54
    have f54_E_a1 : Exa Z h54 a1 sN0 := f51_E_a1.wr W54
    have f54_S_SimpleType_Form_INTEGER : Sta Z h54 sN4 "INTEGER" sN3 (.ref fI) := f51_S_SimpleType_Form_INTEGER.wr W54
    have f54_S_NumberText_Part_SIGN : Sta Z h54 sN1 "SIGN" sN2 (.ref sS) := f51_S_NumberText_Part_SIGN.wr W54
    have f54_F_integerOnly_a1 : Fld Z h54 a1 sN0 "integerOnly" "Z" (.int (0 : Int32)) := f51_F_integerOnly_a1.other W54 (Or.inr (slot_ne (Or.inl (hw _ (List.mem_of_getElem? (i := 25) rfl))) (Or.inl (hw _ (List.mem_of_getElem? (i := 42) rfl))) (by decide) (t := .boolean) (t' := .long) (by decide) (by decide)))
    have f54_F_part_a1 : Fld Z h54 a1 sN0 "part" sN2 (.ref sS) := f51_F_part_a1.other W54 (Or.inr (slot_ne (Or.inl (hw _ (List.mem_of_getElem? (i := 30) rfl))) (Or.inl (hw _ (List.mem_of_getElem? (i := 42) rfl))) (by decide) (t := (.object sN1)) (t' := .long) (by decide) (by decide)))
    have f54_F_negative_a1 : Fld Z h54 a1 sN0 "negative" "Z" (.int (0 : Int32)) := f51_F_negative_a1.other W54 (Or.inr (slot_ne (Or.inl (hw _ (List.mem_of_getElem? (i := 32) rfl))) (Or.inl (hw _ (List.mem_of_getElem? (i := 42) rfl))) (by decide) (t := .boolean) (t' := .long) (by decide) (by decide)))
    have f54_F_digitRead_a1 : Fld Z h54 a1 sN0 "digitRead" "Z" (.int (0 : Int32)) := f51_F_digitRead_a1.other W54 (Or.inr (slot_ne (Or.inl (hw _ (List.mem_of_getElem? (i := 34) rfl))) (Or.inl (hw _ (List.mem_of_getElem? (i := 42) rfl))) (by decide) (t := .boolean) (t' := .long) (by decide) (by decide)))
    have f54_F_integerDigits_a1 : Fld Z h54 a1 sN0 "integerDigits" "J" (.long (0 : Int64)) := f51_F_integerDigits_a1.other W54 (Or.inr (slot_ne (Or.inl (hw _ (List.mem_of_getElem? (i := 36) rfl))) (Or.inl (hw _ (List.mem_of_getElem? (i := 42) rfl))) (by decide) (t := .long) (t' := .long) (by decide) (by decide)))
    have f54_F_fractionDigits_a1 : Fld Z h54 a1 sN0 "fractionDigits" "J" (.long (0 : Int64)) := f51_F_fractionDigits_a1.other W54 (Or.inr (slot_ne (Or.inl (hw _ (List.mem_of_getElem? (i := 38) rfl))) (Or.inl (hw _ (List.mem_of_getElem? (i := 42) rfl))) (by decide) (t := .long) (t' := .long) (by decide) (by decide)))
    have f54_F_pendingZeros_a1 : Fld Z h54 a1 sN0 "pendingZeros" "J" (.long (0 : Int64)) := fw51.other W54 (Or.inr (slot_ne (Or.inl (hw _ (List.mem_of_getElem? (i := 40) rfl))) (Or.inl (hw _ (List.mem_of_getElem? (i := 42) rfl))) (by decide) (t := .long) (t' := .long) (by decide) (by decide)))
    have z54 : n0 ≤ h54.size := by rw [W54.size]; exact z51
    have K54 : Keep h0 h54 [a1] := K51.wr W54 (Or.inl (List.mem_of_getElem? (i := 0) rfl))
    have N54 := Fr.snoc X54 N51 g_a1
    have R55 : ∀ t, Steps p.tables e below (T54.setTop (mkF m 53 #[rv a1, rv f2] [])) t → Steps p.tables e below (s₁.setTop f0) t := fun t k => R53 t (st54 t k)
    obtain ⟨fs, hr, hrun, hended, hW, hsame⟩ := X54.leave (v := none) (fun _ => rfl)
    refine ⟨_, _, pre0 _ (R55 _ ?_), hrun, hended, _, _, rfl, ?_, ⟨_, rfl⟩, hW, hsame.mono (by decide) (by decide)⟩
    · show Steps p.tables e below (T54.setTop (mkF m 53 #[rv a1, rv f2] [])) _
      exact X54.returnOut hx Bd.returns (hb hby d4_53) hr
    · show Q_rmStart Z a1 f2 fI sS u0 u1 u2 u3 u4 u5 u6 u7 h0 n0 _ T54.heap _
      rw [e54]
      exact ⟨rfl, N54, K54, (by rw [show own_i (decide (f2 = fI)) = (0 : Int32) from by simp [own_i, hs1]]; exact f54_F_integerOnly_a1), f54_F_part_a1, f54_F_negative_a1, f54_F_digitRead_a1, f54_F_integerDigits_a1, f54_F_fractionDigits_a1, f54_F_pendingZeros_a1, fw54⟩
theorem ef_rmTot (m : MethodId) (x0 : Addr) : entryFrame m #[(.ref x0)] 1 = mkF m 0 #[rv x0] [] := by first | (simp [entryFrame, mkF, argsToLocals, Value.category]; done) | rfl
def Q_rmTot (Z : State) (a1 : Addr) (id : Int64) (fd : Int64) (h0 : Heap) (n0 : Nat) (v : Option Value) (h : Heap) (L : List Loc) : Prop := v = some (.long (id + fd)) ∧ Fr n0 L ∧ h = h0
set_option maxRecDepth 65536 in
set_option maxHeartbeats 40000000 in
theorem rmTot (l : Launch) (Z : State) (a0 : Array Value) (hw : ∀ d ∈ tables_1, d.before a0 Z = true) (ws : List Jvm.Cond) (a1 : Addr) (id : Int64) (fd : Int64) (h0 : Heap) (n0 : Nat) (Z0 : n0 ≤ h0.size) (F_integerDigits_a1 : Fld Z h0 a1 sN0 "integerDigits" "J" (.long id)) (F_fractionDigits_a1 : Fld Z h0 a1 sN0 "fractionDigits" "J" (.long fd)) :
    MetFree l (⟨sN0, "totalDigits", "()J"⟩ : MethodName) (head1 (Jvm.Cond.code (⟨sN0, "totalDigits", "()J"⟩ : MethodName) prog_10_method_9_code 1 (some .long) :: ws) ({ frames := 0, cells := 0, slots := 0, locals := 0 } : Room)) (fun a U => a = #[(.ref a1)] ∧ Z.Warmed39 U.vm ∧ U.heap = h0) (fun _ _ _ _ _ => True) (fun _ U o U' => ∃ v L, o = .returned v ∧ Q_rmTot Z a1 id fd h0 n0 v U'.heap L ∧ FrameEnd U o U' L ({ frames := 0, cells := 0, slots := 0, locals := 0 } : Room).cells ({ frames := 0, cells := 0, slots := 0, locals := 0 } : Room).slots) := by
  refine MetFree.of_bodySF (plainFor_of_name pn_0) hisR ?_
  intro p e s m args below meth c s₁ Bd hml0 hP hK
  obtain ⟨rfl, hZ, hh⟩ := hP
  have hx := Bd.exec
  have hby := Bd.bytes
  have hml : c.maxLocals = 1 := hml0
  have hown : s.vm.findClass sN0 = some m.cls := findClass_of_methodNamed Bd.named
  have hnm := (name_of_methodNamed Bd.named Bd.method).1
  have X0 : Stand p l e ({ frames := 0, cells := 0, slots := 0, locals := 0 } : Room) s m #[(.ref a1)] below meth c s₁ [] 0 0 := Stand.of_body Bd
  have e0 : s₁.heap = h0 := by rw [← hh, Bd.state]; rfl
  have N0 := Fr.nil n0
  obtain ⟨f0, hf0⟩ : ∃ f : JFrame, f = mkF m 0 #[rv a1] [] := ⟨_, rfl⟩
  have pre0 : ∀ t, Steps p.tables e below (s₁.setTop f0) t → Steps p.tables e below (s₁.setTop (entryFrame m #[(.ref a1)] 1)) t := fun t k => castTop ((ef_rmTot m a1).trans hf0.symm) k
  have R0 : ∀ t, Steps p.tables e below (s₁.setTop (mkF m 0 #[rv a1] [])) t → Steps p.tables e below (s₁.setTop f0) t := by rw [hf0]; exact fun t k => k
  have R1 : ∀ t, Steps p.tables e below (s₁.setTop (mkF m 1 #[rv a1] [(.ref a1)])) t → Steps p.tables e below (s₁.setTop f0) t := fun t k => R0 t (by
    show Steps p.tables e below (s₁.setTop (mkF m 0 #[rv a1] [])) _
    refine XS.aloadN X0.here hx rfl (hb hby d9_0) rfl rfl ?_
    exact k)
  obtain ⟨T2, X2, e2, st2⟩ := getF X0 hx hZ hown (host := "") (Or.inl (hw _ (List.mem_of_getElem? (i := 35) rfl))) Via.refl e0 F_integerDigits_a1 (g := (mkF m 1 #[rv a1] [(.ref a1)])) rfl rfl (hb hby d9_1)
  have R3 : ∀ t, Steps p.tables e below (T2.setTop (mkF m 4 #[rv a1] [(.long id)])) t → Steps p.tables e below (s₁.setTop f0) t := fun t k => R1 t (st2 t k)
  have R4 : ∀ t, Steps p.tables e below (T2.setTop (mkF m 5 #[rv a1] [(.ref a1), (.long id)])) t → Steps p.tables e below (s₁.setTop f0) t := fun t k => R3 t (by
    show Steps p.tables e below (T2.setTop (mkF m 4 #[rv a1] [(.long id)])) _
    refine XS.aloadN X2.here hx rfl (hb hby d9_4) rfl rfl ?_
    exact k)
  obtain ⟨T5, X5, e5, st5⟩ := getF X2 hx hZ hown (host := "") (Or.inl (hw _ (List.mem_of_getElem? (i := 37) rfl))) Via.refl e2 F_fractionDigits_a1 (g := (mkF m 5 #[rv a1] [(.ref a1), (.long id)])) rfl rfl (hb hby d9_5)
  have R6 : ∀ t, Steps p.tables e below (T5.setTop (mkF m 8 #[rv a1] [(.long fd), (.long id)])) t → Steps p.tables e below (s₁.setTop f0) t := fun t k => R4 t (st5 t k)
  have R7 : ∀ t, Steps p.tables e below (T5.setTop (mkF m 9 #[rv a1] [(.long (id + fd))])) t → Steps p.tables e below (s₁.setTop f0) t := fun t k => R6 t (by
    show Steps p.tables e below (T5.setTop (mkF m 8 #[rv a1] [(.long fd), (.long id)])) _
    refine XS.ladd X5.here hx rfl (hb hby d9_8) rfl ?_
    exact k)
  obtain ⟨fs, hr, hrun, hended, hW, hsame⟩ := X5.leave (v := some (.long (id + fd))) (fun h => by rw [Bd.returns] at h; cases h)
  refine ⟨_, _, pre0 _ (R7 _ ?_), hrun, hended, _, _, rfl, ?_, ⟨_, rfl⟩, hW, hsame.mono (by decide) (by decide)⟩
  · show Steps p.tables e below (T5.setTop (mkF m 9 #[rv a1] [(.long (id + fd))])) _
    exact retOut X5 hx (t := .long) Bd.returns rfl (Or.inr (Or.inl ⟨rfl, rfl, _, rfl⟩)) (hb hby d9_9) hr
  · show Q_rmTot Z a1 id fd h0 n0 _ T5.heap _
    rw [e5]
    exact ⟨rfl, N0, rfl⟩
theorem ef_rmApp (m : MethodId) (x0 : Addr) (x1 : Int64) (x2 : Int32) : entryFrame m #[(.ref x0), (.long x1), (.int x2)] 6 = mkF m 0 #[rv x0, .val (.long x1), .second, iv x2, .unset, .unset] [] := by first | (simp [entryFrame, mkF, argsToLocals, Value.category]; done) | rfl
def Q_rmApp (Z : State) (a1 : Addr) (q2 : Int64) (p3 : Int32) (io : Int32) (pt : Addr) (ng : Value) (dr : Int32) (id : Int64) (fd : Int64) (pz : Int64) (us : Int64) (h0 : Heap) (n0 : Nat) (v : Option Value) (h : Heap) (L : List Loc) : Prop := ∃ us2 : Int64, v = none ∧ Fr n0 L ∧ Keep h0 h [a1] ∧ (Fld Z h a1 sN0 "integerOnly" "Z" (.int io)) ∧ (Fld Z h a1 sN0 "part" sN2 (.ref pt)) ∧ (Fld Z h a1 sN0 "negative" "Z" ng) ∧ (Fld Z h a1 sN0 "digitRead" "Z" (.int dr)) ∧ (Fld Z h a1 sN0 "integerDigits" "J" (.long id)) ∧ (Fld Z h a1 sN0 "fractionDigits" "J" (.long fd)) ∧ (Fld Z h a1 sN0 "pendingZeros" "J" (.long pz)) ∧ (Fld Z h a1 sN0 "unscaled" "J" (.long us2))
set_option maxRecDepth 65536 in
set_option maxHeartbeats 40000000 in
theorem rmApp (l : Launch) (Z : State) (a0 : Array Value) (hw : ∀ d ∈ tables_1, d.before a0 Z = true) (ws : List Jvm.Cond) (a1 : Addr) (q2 : Int64) (p3 : Int32) (io : Int32) (pt : Addr) (ng : Value) (dr : Int32) (id : Int64) (fd : Int64) (pz : Int64) (us : Int64) (h0 : Heap) (n0 : Nat) (Z0 : n0 ≤ h0.size) (E_a1 : Exa Z h0 a1 sN0) (g_a1 : n0 ≤ a1) (hq : q2 = 0 ∨ q2 = 1 ∨ q2 = 2 ∨ q2 = 3) (F_integerOnly_a1 : Fld Z h0 a1 sN0 "integerOnly" "Z" (.int io)) (F_part_a1 : Fld Z h0 a1 sN0 "part" sN2 (.ref pt)) (F_negative_a1 : Fld Z h0 a1 sN0 "negative" "Z" ng) (F_digitRead_a1 : Fld Z h0 a1 sN0 "digitRead" "Z" (.int dr)) (F_integerDigits_a1 : Fld Z h0 a1 sN0 "integerDigits" "J" (.long id)) (F_fractionDigits_a1 : Fld Z h0 a1 sN0 "fractionDigits" "J" (.long fd)) (F_pendingZeros_a1 : Fld Z h0 a1 sN0 "pendingZeros" "J" (.long pz)) (F_unscaled_a1 : Fld Z h0 a1 sN0 "unscaled" "J" (.long us)) :
    MetFree l (⟨sN0, "append", "(JI)V"⟩ : MethodName) (head1 (Jvm.Cond.code (⟨sN0, "append", "(JI)V"⟩ : MethodName) prog_10_method_5_code 6 none :: ws) ({ frames := 1, cells := 0, slots := 0, locals := 12 } : Room)) (fun a U => a = #[(.ref a1), (.long q2), (.int p3)] ∧ Z.Warmed39 U.vm ∧ U.heap = h0) (fun _ _ _ _ _ => True) (fun _ U o U' => ∃ v L, o = .returned v ∧ Q_rmApp Z a1 q2 p3 io pt ng dr id fd pz us h0 n0 v U'.heap L ∧ FrameEnd U o U' L ({ frames := 1, cells := 0, slots := 0, locals := 12 } : Room).cells ({ frames := 1, cells := 0, slots := 0, locals := 12 } : Room).slots) := by
  refine MetFree.of_bodySF (plainFor_of_name pn_0) hisR ?_
  intro p e s m args below meth c s₁ Bd hml0 hP hK
  obtain ⟨rfl, hZ, hh⟩ := hP
  have hx := Bd.exec
  have hby := Bd.bytes
  have hml : c.maxLocals = 6 := hml0
  have hown : s.vm.findClass sN0 = some m.cls := findClass_of_methodNamed Bd.named
  have hnm := (name_of_methodNamed Bd.named Bd.method).1
  have X0 : Stand p l e ({ frames := 1, cells := 0, slots := 0, locals := 12 } : Room) s m #[(.ref a1), (.long q2), (.int p3)] below meth c s₁ [] 0 0 := Stand.of_body Bd
  have e0 : s₁.heap = h0 := by rw [← hh, Bd.state]; rfl
  have N0 := Fr.nil n0
  obtain ⟨f0, hf0⟩ : ∃ f : JFrame, f = mkF m 0 #[rv a1, .val (.long q2), .second, iv p3, .unset, .unset] [] := ⟨_, rfl⟩
  have pre0 : ∀ t, Steps p.tables e below (s₁.setTop f0) t → Steps p.tables e below (s₁.setTop (entryFrame m #[(.ref a1), (.long q2), (.int p3)] 6)) t := fun t k => castTop ((ef_rmApp m a1 q2 p3).trans hf0.symm) k
  have R0 : ∀ t, Steps p.tables e below (s₁.setTop (mkF m 0 #[rv a1, .val (.long q2), .second, iv p3, .unset, .unset] [])) t → Steps p.tables e below (s₁.setTop f0) t := by rw [hf0]; exact fun t k => k
  have R1 : ∀ t, Steps p.tables e below (s₁.setTop (mkF m 1 #[rv a1, .val (.long q2), .second, iv p3, .unset, .unset] [(.ref a1)])) t → Steps p.tables e below (s₁.setTop f0) t := fun t k => R0 t (by
    show Steps p.tables e below (s₁.setTop (mkF m 0 #[rv a1, .val (.long q2), .second, iv p3, .unset, .unset] [])) _
    refine XS.aloadN X0.here hx rfl (hb hby d8_0) rfl rfl ?_
    exact k)
  obtain ⟨cq2, kq2, q2a, q2b, q2c⟩ := isOf hZ e0 E_a1
  obtain ⟨_, _, ⟨T2, L2, k2, n2⟩, -, X2, ⟨Lc2, hQ2, l2, y2, z2⟩, st2⟩ := X0.virtualBack hx (y := (⟨sN0, "totalDigits", "()J"⟩ : MethodName)) (z := (⟨sN0, "totalDigits", "()J"⟩ : MethodName)) hown (mvT hZ (hw _ (List.mem_of_getElem? (i := 66) rfl))) (mvT hZ (hw _ (List.mem_of_getElem? (i := 67) rfl))) (notFace_of_selects (args := #[]) (mvT hZ (hw _ (List.mem_of_getElem? (i := 69) rfl)))) (mvT hZ (hw _ (List.mem_of_getElem? (i := 69) rfl))) (mvT hZ (hw _ (List.mem_of_getElem? (i := 68) rfl))) (by decide) (backOf (W := 0) (rmTot l Z a0 hw [] a1 id fd h0 n0 Z0 F_integerDigits_a1 F_fractionDigits_a1) hZ (hw _ (List.mem_of_getElem? (i := 70) rfl)) (hw _ (List.mem_of_getElem? (i := 7) rfl)) (by decide) (by decide)) q2a q2c (g := (mkF m 1 #[rv a1, .val (.long q2), .second, iv p3, .unset, .unset] [(.ref a1)])) rfl (by rw [hml]; rfl) (Steps.refl _) (argsL := []) (rest := []) (lenOf pd_1 rfl) rfl (by show 2 * 0 + _ ≤ _; exact Nat.le_of_eq rfl) (hb hby d8_1) (fun _ _ => ⟨rfl, e0, (by decide : 0 + 0 ≤ _), (by decide : 0 + 0 ≤ _)⟩)
  dsimp only [Pt.U, Pt.locs, Pt.cells, Pt.slots] at X2 l2 y2 z2 st2 hQ2
  subst l2 y2 z2
  obtain ⟨rfl, N2q, p2_0⟩ := hQ2
  have N2 := Fr.app N0 N2q
  have R3 : ∀ t, Steps p.tables e below (T2.setTop (mkF m 4 #[rv a1, .val (.long q2), .second, iv p3, .unset, .unset] [(.long (id + fd))])) t → Steps p.tables e below (s₁.setTop f0) t := fun t k => R1 t (st2.trans k)
  have R4 : ∀ t, Steps p.tables e below (T2.setTop (mkF m 8 #[rv a1, .val (.long q2), .second, iv p3, .unset, .unset] [(.int (lcmpW (id + fd) (18 : Int64)))])) t → Steps p.tables e below (s₁.setTop f0) t := fun t k => R3 t (by
    show Steps p.tables e below (T2.setTop (mkF m 4 #[rv a1, .val (.long q2), .second, iv p3, .unset, .unset] [(.long (id + fd))])) _
    refine X2.ldc2Long hx hown (mvT hZ (hw _ (List.mem_of_getElem? (i := 71) rfl))) (g := (mkF m 4 #[rv a1, .val (.long q2), .second, iv p3, .unset, .unset] [(.long (id + fd))])) rfl (hb hby d8_4) _ ?_
    refine XS.lcmp X2.here hx rfl (hb hby d8_7) rfl ?_
    exact k)
  by_cases h18 : (0 : Int32) < (lcmpW (id + fd) (18 : Int64))
  · skip
    have R5 : ∀ t, Steps p.tables e below (T2.setTop (mkF m 57 #[rv a1, .val (.long q2), .second, iv p3, .unset, .unset] [])) t → Steps p.tables e below (s₁.setTop f0) t := fun t k => R4 t (by
      show Steps p.tables e below (T2.setTop (mkF m 8 #[rv a1, .val (.long q2), .second, iv p3, .unset, .unset] [(.int (lcmpW (id + fd) (18 : Int64)))])) _
      refine XS.ifYes X2.here hx rfl (pc0 := 8) (pc' := 57) rfl (hb hby d8_8) rfl ((if0 _ _).trans (tlt h18).2.2.1) (by decide) (by decide) ?_
      exact k)
    obtain ⟨fs, hr, hrun, hended, hW, hsame⟩ := X2.leave (v := none) (fun _ => rfl)
    refine ⟨_, _, pre0 _ (R5 _ ?_), hrun, hended, _, _, rfl, ?_, ⟨_, rfl⟩, hW, hsame.mono (by decide) (by decide)⟩
    · show Steps p.tables e below (T2.setTop (mkF m 57 #[rv a1, .val (.long q2), .second, iv p3, .unset, .unset] [])) _
      exact X2.returnOut hx Bd.returns (hb hby d8_57) hr
    · show Q_rmApp Z a1 q2 p3 io pt ng dr id fd pz us h0 n0 _ T2.heap _
      rw [p2_0]
      exact ⟨us, rfl, N2, (Keep.refl h0 [a1]), F_integerOnly_a1, F_part_a1, F_negative_a1, F_digitRead_a1, F_integerDigits_a1, F_fractionDigits_a1, F_pendingZeros_a1, F_unscaled_a1⟩
  · skip
    have R6 : ∀ t, Steps p.tables e below (T2.setTop (mkF m 11 #[rv a1, .val (.long q2), .second, iv p3, .unset, .unset] [])) t → Steps p.tables e below (s₁.setTop f0) t := fun t k => R4 t (by
      show Steps p.tables e below (T2.setTop (mkF m 8 #[rv a1, .val (.long q2), .second, iv p3, .unset, .unset] [(.int (lcmpW (id + fd) (18 : Int64)))])) _
      refine XS.ifNo X2.here hx rfl (hb hby d8_8) rfl ((if0 _ _).trans (flt h18).2.2.1) ?_
      exact k)
    rcases hq with hk | hk | hk | hk
    · skip
      have R7 : ∀ t, Steps p.tables e below (T2.setTop (mkF m 11 #[rv a1, .val (.long (0 : Int64)), .second, iv p3, .unset, .unset] [])) t → Steps p.tables e below (s₁.setTop f0) t := by have q := R6; rw [(hk : q2 = (0 : Int64))] at q; exact q
      have R8 : ∀ t, Steps p.tables e below (T2.setTop (mkF m 18 #[rv a1, .val (.long (0 : Int64)), .second, iv p3, .val (.long (0 : Int64)), .second] [(.int (lcmpW (0 : Int64) (0 : Int64)))])) t → Steps p.tables e below (s₁.setTop f0) t := fun t k => R7 t (by
        show Steps p.tables e below (T2.setTop (mkF m 11 #[rv a1, .val (.long (0 : Int64)), .second, iv p3, .unset, .unset] [])) _
        refine XS.lconst X2.here hx rfl (hb hby d8_11) ?_
        refine XS.lstore X2.here hx rfl (hb hby d8_12) rfl (l' := #[rv a1, .val (.long (0 : Int64)), .second, iv p3, .val (.long (0 : Int64)), .second]) rfl ?_
        show Steps p.tables e below (T2.setTop (mkF m 14 #[rv a1, .val (.long (0 : Int64)), .second, iv p3, .val (.long (0 : Int64)), .second] [])) _
        refine XS.lload X2.here hx rfl (hb hby d8_14) rfl  ?_
        refine XS.lloadN X2.here hx rfl (hb hby d8_16) rfl  ?_
        show Steps p.tables e below (T2.setTop (mkF m 17 #[rv a1, .val (.long (0 : Int64)), .second, iv p3, .val (.long (0 : Int64)), .second] [(.long (0 : Int64)), (.long (0 : Int64))])) _
        refine XS.lcmp X2.here hx rfl (hb hby d8_17) rfl ?_
        exact k)
      have R9 : ∀ t, Steps p.tables e below (T2.setTop (mkF m 18 #[rv a1, .val (.long (0 : Int64)), .second, iv p3, .val (.long (0 : Int64)), .second] [(.int (0 : Int32))])) t → Steps p.tables e below (s₁.setTop f0) t := by have q := R8; rw [((by decide) : (lcmpW (0 : Int64) (0 : Int64)) = (0 : Int32))] at q; exact q
      have R10 : ∀ t, Steps p.tables e below (T2.setTop (mkF m 44 #[rv a1, .val (.long (0 : Int64)), .second, iv p3, .val (.long (0 : Int64)), .second] [(.ref a1), (.ref a1)])) t → Steps p.tables e below (s₁.setTop f0) t := fun t k => R9 t (by
        show Steps p.tables e below (T2.setTop (mkF m 18 #[rv a1, .val (.long (0 : Int64)), .second, iv p3, .val (.long (0 : Int64)), .second] [(.int (0 : Int32))])) _
        refine XS.ifYes X2.here hx rfl (pc0 := 18) (pc' := 42) rfl (hb hby d8_18) rfl ((if0 _ _).trans (flt (by decide : ¬ ((0 : Int32) < (0 : Int32)))).2.1) (by decide) (by decide) ?_
        refine XS.aloadN X2.here hx rfl (hb hby d8_42) rfl rfl ?_
        show Steps p.tables e below (T2.setTop (mkF m 43 #[rv a1, .val (.long (0 : Int64)), .second, iv p3, .val (.long (0 : Int64)), .second] [(.ref a1)])) _
        refine XS.aloadN X2.here hx rfl (hb hby d8_43) rfl rfl ?_
        exact k)
      obtain ⟨T11, X11, e11, st11⟩ := getF X2 hx hZ hown (host := "") (Or.inl (hw _ (List.mem_of_getElem? (i := 41) rfl))) Via.refl p2_0 F_unscaled_a1 (g := (mkF m 44 #[rv a1, .val (.long (0 : Int64)), .second, iv p3, .val (.long (0 : Int64)), .second] [(.ref a1), (.ref a1)])) rfl rfl (hb hby d8_44)
      have R12 : ∀ t, Steps p.tables e below (T11.setTop (mkF m 47 #[rv a1, .val (.long (0 : Int64)), .second, iv p3, .val (.long (0 : Int64)), .second] [(.long us), (.ref a1)])) t → Steps p.tables e below (s₁.setTop f0) t := fun t k => R10 t (st11 t k)
      have R13 : ∀ t, Steps p.tables e below (T11.setTop (mkF m 54 #[rv a1, .val (.long (0 : Int64)), .second, iv p3, .val (.long (0 : Int64)), .second] [(.long ((us * (10 : Int64)) + (p3.toInt64))), (.ref a1)])) t → Steps p.tables e below (s₁.setTop f0) t := fun t k => R12 t (by
        show Steps p.tables e below (T11.setTop (mkF m 47 #[rv a1, .val (.long (0 : Int64)), .second, iv p3, .val (.long (0 : Int64)), .second] [(.long us), (.ref a1)])) _
        refine X11.ldc2Long hx hown (mvT hZ (hw _ (List.mem_of_getElem? (i := 72) rfl))) (g := (mkF m 47 #[rv a1, .val (.long (0 : Int64)), .second, iv p3, .val (.long (0 : Int64)), .second] [(.long us), (.ref a1)])) rfl (hb hby d8_47) _ ?_
        refine XS.lmul X11.here hx rfl (hb hby d8_50) rfl ?_
        show Steps p.tables e below (T11.setTop (mkF m 51 #[rv a1, .val (.long (0 : Int64)), .second, iv p3, .val (.long (0 : Int64)), .second] [(.long (us * (10 : Int64))), (.ref a1)])) _
        refine XS.iloadN X11.here hx rfl (hb hby d8_51) rfl  ?_
        refine XS.i2l X11.here hx rfl (hb hby d8_52) rfl ?_
        show Steps p.tables e below (T11.setTop (mkF m 53 #[rv a1, .val (.long (0 : Int64)), .second, iv p3, .val (.long (0 : Int64)), .second] [(.long (p3.toInt64)), (.long (us * (10 : Int64))), (.ref a1)])) _
        refine XS.ladd X11.here hx rfl (hb hby d8_53) rfl ?_
        exact k)
      obtain ⟨T14, h14, X14, e14, W14, st14⟩ := putF X11 hx hZ hown (host := "") (Or.inl (hw _ (List.mem_of_getElem? (i := 41) rfl))) Via.refl e11 F_unscaled_a1 E_a1 (Or.inl (hw _ (List.mem_of_getElem? (i := 42) rfl))) (hw _ (List.mem_of_getElem? (i := 6) rfl)) (ty := .long) (by decide) rfl rfl (g := (mkF m 54 #[rv a1, .val (.long (0 : Int64)), .second, iv p3, .val (.long (0 : Int64)), .second] [(.long ((us * (10 : Int64)) + (p3.toInt64))), (.ref a1)])) rfl rfl (hb hby d8_54)
      have fw14 : Fld Z h14 a1 sN0 "unscaled" "J" (.long ((us * (10 : Int64)) + (p3.toInt64))) := F_unscaled_a1.same W14
      have f14_E_a1 : Exa Z h14 a1 sN0 := E_a1.wr W14
      have f14_F_integerOnly_a1 : Fld Z h14 a1 sN0 "integerOnly" "Z" (.int io) := F_integerOnly_a1.other W14 (Or.inr (slot_ne (Or.inl (hw _ (List.mem_of_getElem? (i := 25) rfl))) (Or.inl (hw _ (List.mem_of_getElem? (i := 42) rfl))) (by decide) (t := .boolean) (t' := .long) (by decide) (by decide)))
      have f14_F_part_a1 : Fld Z h14 a1 sN0 "part" sN2 (.ref pt) := F_part_a1.other W14 (Or.inr (slot_ne (Or.inl (hw _ (List.mem_of_getElem? (i := 30) rfl))) (Or.inl (hw _ (List.mem_of_getElem? (i := 42) rfl))) (by decide) (t := (.object sN1)) (t' := .long) (by decide) (by decide)))
      have f14_F_negative_a1 : Fld Z h14 a1 sN0 "negative" "Z" ng := F_negative_a1.other W14 (Or.inr (slot_ne (Or.inl (hw _ (List.mem_of_getElem? (i := 32) rfl))) (Or.inl (hw _ (List.mem_of_getElem? (i := 42) rfl))) (by decide) (t := .boolean) (t' := .long) (by decide) (by decide)))
      have f14_F_digitRead_a1 : Fld Z h14 a1 sN0 "digitRead" "Z" (.int dr) := F_digitRead_a1.other W14 (Or.inr (slot_ne (Or.inl (hw _ (List.mem_of_getElem? (i := 34) rfl))) (Or.inl (hw _ (List.mem_of_getElem? (i := 42) rfl))) (by decide) (t := .boolean) (t' := .long) (by decide) (by decide)))
      have f14_F_integerDigits_a1 : Fld Z h14 a1 sN0 "integerDigits" "J" (.long id) := F_integerDigits_a1.other W14 (Or.inr (slot_ne (Or.inl (hw _ (List.mem_of_getElem? (i := 36) rfl))) (Or.inl (hw _ (List.mem_of_getElem? (i := 42) rfl))) (by decide) (t := .long) (t' := .long) (by decide) (by decide)))
      have f14_F_fractionDigits_a1 : Fld Z h14 a1 sN0 "fractionDigits" "J" (.long fd) := F_fractionDigits_a1.other W14 (Or.inr (slot_ne (Or.inl (hw _ (List.mem_of_getElem? (i := 38) rfl))) (Or.inl (hw _ (List.mem_of_getElem? (i := 42) rfl))) (by decide) (t := .long) (t' := .long) (by decide) (by decide)))
      have f14_F_pendingZeros_a1 : Fld Z h14 a1 sN0 "pendingZeros" "J" (.long pz) := F_pendingZeros_a1.other W14 (Or.inr (slot_ne (Or.inl (hw _ (List.mem_of_getElem? (i := 40) rfl))) (Or.inl (hw _ (List.mem_of_getElem? (i := 42) rfl))) (by decide) (t := .long) (t' := .long) (by decide) (by decide)))
      have z14 : n0 ≤ h14.size := by rw [W14.size]; exact Z0
      have K14 : Keep h0 h14 [a1] := (Keep.refl h0 [a1]).wr W14 (Or.inl (List.mem_of_getElem? (i := 0) rfl))
      have N14 := Fr.snoc X14 N2 g_a1
      have R15 : ∀ t, Steps p.tables e below (T14.setTop (mkF m 57 #[rv a1, .val (.long (0 : Int64)), .second, iv p3, .val (.long (0 : Int64)), .second] [])) t → Steps p.tables e below (s₁.setTop f0) t := fun t k => R13 t (st14 t k)
      obtain ⟨fs, hr, hrun, hended, hW, hsame⟩ := X14.leave (v := none) (fun _ => rfl)
      refine ⟨_, _, pre0 _ (R15 _ ?_), hrun, hended, _, _, rfl, ?_, ⟨_, rfl⟩, hW, hsame.mono (by decide) (by decide)⟩
      · show Steps p.tables e below (T14.setTop (mkF m 57 #[rv a1, .val (.long (0 : Int64)), .second, iv p3, .val (.long (0 : Int64)), .second] [])) _
        exact X14.returnOut hx Bd.returns (hb hby d8_57) hr
      · show Q_rmApp Z a1 q2 p3 io pt ng dr id fd pz us h0 n0 _ T14.heap _
        rw [e14]
        exact ⟨((us * (10 : Int64)) + (p3.toInt64)), rfl, N14, K14, f14_F_integerOnly_a1, f14_F_part_a1, f14_F_negative_a1, f14_F_digitRead_a1, f14_F_integerDigits_a1, f14_F_fractionDigits_a1, f14_F_pendingZeros_a1, fw14⟩
    · skip
      have R16 : ∀ t, Steps p.tables e below (T2.setTop (mkF m 11 #[rv a1, .val (.long (1 : Int64)), .second, iv p3, .unset, .unset] [])) t → Steps p.tables e below (s₁.setTop f0) t := by have q := R6; rw [(hk : q2 = (1 : Int64))] at q; exact q
      have R17 : ∀ t, Steps p.tables e below (T2.setTop (mkF m 18 #[rv a1, .val (.long (1 : Int64)), .second, iv p3, .val (.long (0 : Int64)), .second] [(.int (lcmpW (0 : Int64) (1 : Int64)))])) t → Steps p.tables e below (s₁.setTop f0) t := fun t k => R16 t (by
        show Steps p.tables e below (T2.setTop (mkF m 11 #[rv a1, .val (.long (1 : Int64)), .second, iv p3, .unset, .unset] [])) _
        refine XS.lconst X2.here hx rfl (hb hby d8_11) ?_
        refine XS.lstore X2.here hx rfl (hb hby d8_12) rfl (l' := #[rv a1, .val (.long (1 : Int64)), .second, iv p3, .val (.long (0 : Int64)), .second]) rfl ?_
        show Steps p.tables e below (T2.setTop (mkF m 14 #[rv a1, .val (.long (1 : Int64)), .second, iv p3, .val (.long (0 : Int64)), .second] [])) _
        refine XS.lload X2.here hx rfl (hb hby d8_14) rfl  ?_
        refine XS.lloadN X2.here hx rfl (hb hby d8_16) rfl  ?_
        show Steps p.tables e below (T2.setTop (mkF m 17 #[rv a1, .val (.long (1 : Int64)), .second, iv p3, .val (.long (0 : Int64)), .second] [(.long (1 : Int64)), (.long (0 : Int64))])) _
        refine XS.lcmp X2.here hx rfl (hb hby d8_17) rfl ?_
        exact k)
      have R18 : ∀ t, Steps p.tables e below (T2.setTop (mkF m 18 #[rv a1, .val (.long (1 : Int64)), .second, iv p3, .val (.long (0 : Int64)), .second] [(.int (-1 : Int32))])) t → Steps p.tables e below (s₁.setTop f0) t := by have q := R17; rw [((by decide) : (lcmpW (0 : Int64) (1 : Int64)) = (-1 : Int32))] at q; exact q
      have R19 : ∀ t, Steps p.tables e below (T2.setTop (mkF m 23 #[rv a1, .val (.long (1 : Int64)), .second, iv p3, .val (.long (0 : Int64)), .second] [(.ref a1), (.ref a1)])) t → Steps p.tables e below (s₁.setTop f0) t := fun t k => R18 t (by
        show Steps p.tables e below (T2.setTop (mkF m 18 #[rv a1, .val (.long (1 : Int64)), .second, iv p3, .val (.long (0 : Int64)), .second] [(.int (-1 : Int32))])) _
        refine XS.ifNo X2.here hx rfl (hb hby d8_18) rfl ((if0 _ _).trans (tlt (by decide : (-1 : Int32) < (0 : Int32))).2.1) ?_
        refine XS.aloadN X2.here hx rfl (hb hby d8_21) rfl rfl ?_
        show Steps p.tables e below (T2.setTop (mkF m 22 #[rv a1, .val (.long (1 : Int64)), .second, iv p3, .val (.long (0 : Int64)), .second] [(.ref a1)])) _
        refine XS.dup X2.here hx rfl (hb hby d8_22) rfl rfl ?_
        exact k)
      obtain ⟨T20, X20, e20, st20⟩ := getF X2 hx hZ hown (host := "") (Or.inl (hw _ (List.mem_of_getElem? (i := 41) rfl))) Via.refl p2_0 F_unscaled_a1 (g := (mkF m 23 #[rv a1, .val (.long (1 : Int64)), .second, iv p3, .val (.long (0 : Int64)), .second] [(.ref a1), (.ref a1)])) rfl rfl (hb hby d8_23)
      have R21 : ∀ t, Steps p.tables e below (T20.setTop (mkF m 26 #[rv a1, .val (.long (1 : Int64)), .second, iv p3, .val (.long (0 : Int64)), .second] [(.long us), (.ref a1)])) t → Steps p.tables e below (s₁.setTop f0) t := fun t k => R19 t (st20 t k)
      have R22 : ∀ t, Steps p.tables e below (T20.setTop (mkF m 30 #[rv a1, .val (.long (1 : Int64)), .second, iv p3, .val (.long (0 : Int64)), .second] [(.long (us * (10 : Int64))), (.ref a1)])) t → Steps p.tables e below (s₁.setTop f0) t := fun t k => R21 t (by
        show Steps p.tables e below (T20.setTop (mkF m 26 #[rv a1, .val (.long (1 : Int64)), .second, iv p3, .val (.long (0 : Int64)), .second] [(.long us), (.ref a1)])) _
        refine X20.ldc2Long hx hown (mvT hZ (hw _ (List.mem_of_getElem? (i := 72) rfl))) (g := (mkF m 26 #[rv a1, .val (.long (1 : Int64)), .second, iv p3, .val (.long (0 : Int64)), .second] [(.long us), (.ref a1)])) rfl (hb hby d8_26) _ ?_
        refine XS.lmul X20.here hx rfl (hb hby d8_29) rfl ?_
        exact k)
      obtain ⟨T23, h23, X23, e23, W23, st23⟩ := putF X20 hx hZ hown (host := "") (Or.inl (hw _ (List.mem_of_getElem? (i := 41) rfl))) Via.refl e20 F_unscaled_a1 E_a1 (Or.inl (hw _ (List.mem_of_getElem? (i := 42) rfl))) (hw _ (List.mem_of_getElem? (i := 6) rfl)) (ty := .long) (by decide) rfl rfl (g := (mkF m 30 #[rv a1, .val (.long (1 : Int64)), .second, iv p3, .val (.long (0 : Int64)), .second] [(.long (us * (10 : Int64))), (.ref a1)])) rfl rfl (hb hby d8_30)
      have fw23 : Fld Z h23 a1 sN0 "unscaled" "J" (.long (us * (10 : Int64))) := F_unscaled_a1.same W23
      have f23_E_a1 : Exa Z h23 a1 sN0 := E_a1.wr W23
      have f23_F_integerOnly_a1 : Fld Z h23 a1 sN0 "integerOnly" "Z" (.int io) := F_integerOnly_a1.other W23 (Or.inr (slot_ne (Or.inl (hw _ (List.mem_of_getElem? (i := 25) rfl))) (Or.inl (hw _ (List.mem_of_getElem? (i := 42) rfl))) (by decide) (t := .boolean) (t' := .long) (by decide) (by decide)))
      have f23_F_part_a1 : Fld Z h23 a1 sN0 "part" sN2 (.ref pt) := F_part_a1.other W23 (Or.inr (slot_ne (Or.inl (hw _ (List.mem_of_getElem? (i := 30) rfl))) (Or.inl (hw _ (List.mem_of_getElem? (i := 42) rfl))) (by decide) (t := (.object sN1)) (t' := .long) (by decide) (by decide)))
      have f23_F_negative_a1 : Fld Z h23 a1 sN0 "negative" "Z" ng := F_negative_a1.other W23 (Or.inr (slot_ne (Or.inl (hw _ (List.mem_of_getElem? (i := 32) rfl))) (Or.inl (hw _ (List.mem_of_getElem? (i := 42) rfl))) (by decide) (t := .boolean) (t' := .long) (by decide) (by decide)))
      have f23_F_digitRead_a1 : Fld Z h23 a1 sN0 "digitRead" "Z" (.int dr) := F_digitRead_a1.other W23 (Or.inr (slot_ne (Or.inl (hw _ (List.mem_of_getElem? (i := 34) rfl))) (Or.inl (hw _ (List.mem_of_getElem? (i := 42) rfl))) (by decide) (t := .boolean) (t' := .long) (by decide) (by decide)))
      have f23_F_integerDigits_a1 : Fld Z h23 a1 sN0 "integerDigits" "J" (.long id) := F_integerDigits_a1.other W23 (Or.inr (slot_ne (Or.inl (hw _ (List.mem_of_getElem? (i := 36) rfl))) (Or.inl (hw _ (List.mem_of_getElem? (i := 42) rfl))) (by decide) (t := .long) (t' := .long) (by decide) (by decide)))
      have f23_F_fractionDigits_a1 : Fld Z h23 a1 sN0 "fractionDigits" "J" (.long fd) := F_fractionDigits_a1.other W23 (Or.inr (slot_ne (Or.inl (hw _ (List.mem_of_getElem? (i := 38) rfl))) (Or.inl (hw _ (List.mem_of_getElem? (i := 42) rfl))) (by decide) (t := .long) (t' := .long) (by decide) (by decide)))
      have f23_F_pendingZeros_a1 : Fld Z h23 a1 sN0 "pendingZeros" "J" (.long pz) := F_pendingZeros_a1.other W23 (Or.inr (slot_ne (Or.inl (hw _ (List.mem_of_getElem? (i := 40) rfl))) (Or.inl (hw _ (List.mem_of_getElem? (i := 42) rfl))) (by decide) (t := .long) (t' := .long) (by decide) (by decide)))
      have z23 : n0 ≤ h23.size := by rw [W23.size]; exact Z0
      have K23 : Keep h0 h23 [a1] := (Keep.refl h0 [a1]).wr W23 (Or.inl (List.mem_of_getElem? (i := 0) rfl))
      have N23 := Fr.snoc X23 N2 g_a1
      have R24 : ∀ t, Steps p.tables e below (T23.setTop (mkF m 33 #[rv a1, .val (.long (1 : Int64)), .second, iv p3, .val (.long (0 : Int64)), .second] [])) t → Steps p.tables e below (s₁.setTop f0) t := fun t k => R22 t (st23 t k)
      have R25 : ∀ t, Steps p.tables e below (T23.setTop (mkF m 18 #[rv a1, .val (.long (1 : Int64)), .second, iv p3, .val (.long (1 : Int64)), .second] [(.int (lcmpW (1 : Int64) (1 : Int64)))])) t → Steps p.tables e below (s₁.setTop f0) t := fun t k => R24 t (by
        show Steps p.tables e below (T23.setTop (mkF m 33 #[rv a1, .val (.long (1 : Int64)), .second, iv p3, .val (.long (0 : Int64)), .second] [])) _
        refine XS.lload X23.here hx rfl (hb hby d8_33) rfl  ?_
        refine XS.lconst X23.here hx rfl (hb hby d8_35) ?_
        show Steps p.tables e below (T23.setTop (mkF m 36 #[rv a1, .val (.long (1 : Int64)), .second, iv p3, .val (.long (0 : Int64)), .second] [(.long (1 : Int64)), (.long (0 : Int64))])) _
        refine XS.ladd X23.here hx rfl (hb hby d8_36) rfl ?_
        refine XS.lstore X23.here hx rfl (hb hby d8_37) rfl (l' := #[rv a1, .val (.long (1 : Int64)), .second, iv p3, .val (.long (1 : Int64)), .second]) rfl ?_
        show Steps p.tables e below (T23.setTop (mkF m 39 #[rv a1, .val (.long (1 : Int64)), .second, iv p3, .val (.long (1 : Int64)), .second] [])) _
        refine XS.goto X23.here hx rfl (pc0 := 39) (pc' := 14) rfl (hb hby d8_39) (by decide) (by decide) ?_
        refine XS.lload X23.here hx rfl (hb hby d8_14) rfl  ?_
        show Steps p.tables e below (T23.setTop (mkF m 16 #[rv a1, .val (.long (1 : Int64)), .second, iv p3, .val (.long (1 : Int64)), .second] [(.long (1 : Int64))])) _
        refine XS.lloadN X23.here hx rfl (hb hby d8_16) rfl  ?_
        refine XS.lcmp X23.here hx rfl (hb hby d8_17) rfl ?_
        exact k)
      have R26 : ∀ t, Steps p.tables e below (T23.setTop (mkF m 18 #[rv a1, .val (.long (1 : Int64)), .second, iv p3, .val (.long (1 : Int64)), .second] [(.int (0 : Int32))])) t → Steps p.tables e below (s₁.setTop f0) t := by have q := R25; rw [((by decide) : (lcmpW (1 : Int64) (1 : Int64)) = (0 : Int32))] at q; exact q
      have R27 : ∀ t, Steps p.tables e below (T23.setTop (mkF m 44 #[rv a1, .val (.long (1 : Int64)), .second, iv p3, .val (.long (1 : Int64)), .second] [(.ref a1), (.ref a1)])) t → Steps p.tables e below (s₁.setTop f0) t := fun t k => R26 t (by
        show Steps p.tables e below (T23.setTop (mkF m 18 #[rv a1, .val (.long (1 : Int64)), .second, iv p3, .val (.long (1 : Int64)), .second] [(.int (0 : Int32))])) _
        refine XS.ifYes X23.here hx rfl (pc0 := 18) (pc' := 42) rfl (hb hby d8_18) rfl ((if0 _ _).trans (flt (by decide : ¬ ((0 : Int32) < (0 : Int32)))).2.1) (by decide) (by decide) ?_
        refine XS.aloadN X23.here hx rfl (hb hby d8_42) rfl rfl ?_
        show Steps p.tables e below (T23.setTop (mkF m 43 #[rv a1, .val (.long (1 : Int64)), .second, iv p3, .val (.long (1 : Int64)), .second] [(.ref a1)])) _
        refine XS.aloadN X23.here hx rfl (hb hby d8_43) rfl rfl ?_
        exact k)
      obtain ⟨T28, X28, e28, st28⟩ := getF X23 hx hZ hown (host := "") (Or.inl (hw _ (List.mem_of_getElem? (i := 41) rfl))) Via.refl e23 fw23 (g := (mkF m 44 #[rv a1, .val (.long (1 : Int64)), .second, iv p3, .val (.long (1 : Int64)), .second] [(.ref a1), (.ref a1)])) rfl rfl (hb hby d8_44)
      have R29 : ∀ t, Steps p.tables e below (T28.setTop (mkF m 47 #[rv a1, .val (.long (1 : Int64)), .second, iv p3, .val (.long (1 : Int64)), .second] [(.long (us * (10 : Int64))), (.ref a1)])) t → Steps p.tables e below (s₁.setTop f0) t := fun t k => R27 t (st28 t k)
      have R30 : ∀ t, Steps p.tables e below (T28.setTop (mkF m 54 #[rv a1, .val (.long (1 : Int64)), .second, iv p3, .val (.long (1 : Int64)), .second] [(.long (((us * (10 : Int64)) * (10 : Int64)) + (p3.toInt64))), (.ref a1)])) t → Steps p.tables e below (s₁.setTop f0) t := fun t k => R29 t (by
        show Steps p.tables e below (T28.setTop (mkF m 47 #[rv a1, .val (.long (1 : Int64)), .second, iv p3, .val (.long (1 : Int64)), .second] [(.long (us * (10 : Int64))), (.ref a1)])) _
        refine X28.ldc2Long hx hown (mvT hZ (hw _ (List.mem_of_getElem? (i := 72) rfl))) (g := (mkF m 47 #[rv a1, .val (.long (1 : Int64)), .second, iv p3, .val (.long (1 : Int64)), .second] [(.long (us * (10 : Int64))), (.ref a1)])) rfl (hb hby d8_47) _ ?_
        refine XS.lmul X28.here hx rfl (hb hby d8_50) rfl ?_
        show Steps p.tables e below (T28.setTop (mkF m 51 #[rv a1, .val (.long (1 : Int64)), .second, iv p3, .val (.long (1 : Int64)), .second] [(.long ((us * (10 : Int64)) * (10 : Int64))), (.ref a1)])) _
        refine XS.iloadN X28.here hx rfl (hb hby d8_51) rfl  ?_
        refine XS.i2l X28.here hx rfl (hb hby d8_52) rfl ?_
        show Steps p.tables e below (T28.setTop (mkF m 53 #[rv a1, .val (.long (1 : Int64)), .second, iv p3, .val (.long (1 : Int64)), .second] [(.long (p3.toInt64)), (.long ((us * (10 : Int64)) * (10 : Int64))), (.ref a1)])) _
        refine XS.ladd X28.here hx rfl (hb hby d8_53) rfl ?_
        exact k)
      obtain ⟨T31, h31, X31, e31, W31, st31⟩ := putF X28 hx hZ hown (host := "") (Or.inl (hw _ (List.mem_of_getElem? (i := 41) rfl))) Via.refl e28 fw23 f23_E_a1 (Or.inl (hw _ (List.mem_of_getElem? (i := 42) rfl))) (hw _ (List.mem_of_getElem? (i := 6) rfl)) (ty := .long) (by decide) rfl rfl (g := (mkF m 54 #[rv a1, .val (.long (1 : Int64)), .second, iv p3, .val (.long (1 : Int64)), .second] [(.long (((us * (10 : Int64)) * (10 : Int64)) + (p3.toInt64))), (.ref a1)])) rfl rfl (hb hby d8_54)
      have fw31 : Fld Z h31 a1 sN0 "unscaled" "J" (.long (((us * (10 : Int64)) * (10 : Int64)) + (p3.toInt64))) := fw23.same W31
      have f31_E_a1 : Exa Z h31 a1 sN0 := f23_E_a1.wr W31
      have f31_F_integerOnly_a1 : Fld Z h31 a1 sN0 "integerOnly" "Z" (.int io) := f23_F_integerOnly_a1.other W31 (Or.inr (slot_ne (Or.inl (hw _ (List.mem_of_getElem? (i := 25) rfl))) (Or.inl (hw _ (List.mem_of_getElem? (i := 42) rfl))) (by decide) (t := .boolean) (t' := .long) (by decide) (by decide)))
      have f31_F_part_a1 : Fld Z h31 a1 sN0 "part" sN2 (.ref pt) := f23_F_part_a1.other W31 (Or.inr (slot_ne (Or.inl (hw _ (List.mem_of_getElem? (i := 30) rfl))) (Or.inl (hw _ (List.mem_of_getElem? (i := 42) rfl))) (by decide) (t := (.object sN1)) (t' := .long) (by decide) (by decide)))
      have f31_F_negative_a1 : Fld Z h31 a1 sN0 "negative" "Z" ng := f23_F_negative_a1.other W31 (Or.inr (slot_ne (Or.inl (hw _ (List.mem_of_getElem? (i := 32) rfl))) (Or.inl (hw _ (List.mem_of_getElem? (i := 42) rfl))) (by decide) (t := .boolean) (t' := .long) (by decide) (by decide)))
      have f31_F_digitRead_a1 : Fld Z h31 a1 sN0 "digitRead" "Z" (.int dr) := f23_F_digitRead_a1.other W31 (Or.inr (slot_ne (Or.inl (hw _ (List.mem_of_getElem? (i := 34) rfl))) (Or.inl (hw _ (List.mem_of_getElem? (i := 42) rfl))) (by decide) (t := .boolean) (t' := .long) (by decide) (by decide)))
      have f31_F_integerDigits_a1 : Fld Z h31 a1 sN0 "integerDigits" "J" (.long id) := f23_F_integerDigits_a1.other W31 (Or.inr (slot_ne (Or.inl (hw _ (List.mem_of_getElem? (i := 36) rfl))) (Or.inl (hw _ (List.mem_of_getElem? (i := 42) rfl))) (by decide) (t := .long) (t' := .long) (by decide) (by decide)))
      have f31_F_fractionDigits_a1 : Fld Z h31 a1 sN0 "fractionDigits" "J" (.long fd) := f23_F_fractionDigits_a1.other W31 (Or.inr (slot_ne (Or.inl (hw _ (List.mem_of_getElem? (i := 38) rfl))) (Or.inl (hw _ (List.mem_of_getElem? (i := 42) rfl))) (by decide) (t := .long) (t' := .long) (by decide) (by decide)))
      have f31_F_pendingZeros_a1 : Fld Z h31 a1 sN0 "pendingZeros" "J" (.long pz) := f23_F_pendingZeros_a1.other W31 (Or.inr (slot_ne (Or.inl (hw _ (List.mem_of_getElem? (i := 40) rfl))) (Or.inl (hw _ (List.mem_of_getElem? (i := 42) rfl))) (by decide) (t := .long) (t' := .long) (by decide) (by decide)))
      have z31 : n0 ≤ h31.size := by rw [W31.size]; exact z23
      have K31 : Keep h0 h31 [a1] := K23.wr W31 (Or.inl (List.mem_of_getElem? (i := 0) rfl))
      have N31 := Fr.snoc X31 N23 g_a1
      have R32 : ∀ t, Steps p.tables e below (T31.setTop (mkF m 57 #[rv a1, .val (.long (1 : Int64)), .second, iv p3, .val (.long (1 : Int64)), .second] [])) t → Steps p.tables e below (s₁.setTop f0) t := fun t k => R30 t (st31 t k)
      obtain ⟨fs, hr, hrun, hended, hW, hsame⟩ := X31.leave (v := none) (fun _ => rfl)
      refine ⟨_, _, pre0 _ (R32 _ ?_), hrun, hended, _, _, rfl, ?_, ⟨_, rfl⟩, hW, hsame.mono (by decide) (by decide)⟩
      · show Steps p.tables e below (T31.setTop (mkF m 57 #[rv a1, .val (.long (1 : Int64)), .second, iv p3, .val (.long (1 : Int64)), .second] [])) _
        exact X31.returnOut hx Bd.returns (hb hby d8_57) hr
      · show Q_rmApp Z a1 q2 p3 io pt ng dr id fd pz us h0 n0 _ T31.heap _
        rw [e31]
        exact ⟨(((us * (10 : Int64)) * (10 : Int64)) + (p3.toInt64)), rfl, N31, K31, f31_F_integerOnly_a1, f31_F_part_a1, f31_F_negative_a1, f31_F_digitRead_a1, f31_F_integerDigits_a1, f31_F_fractionDigits_a1, f31_F_pendingZeros_a1, fw31⟩
    · skip
      have R33 : ∀ t, Steps p.tables e below (T2.setTop (mkF m 11 #[rv a1, .val (.long (2 : Int64)), .second, iv p3, .unset, .unset] [])) t → Steps p.tables e below (s₁.setTop f0) t := by have q := R6; rw [(hk : q2 = (2 : Int64))] at q; exact q
      have R34 : ∀ t, Steps p.tables e below (T2.setTop (mkF m 18 #[rv a1, .val (.long (2 : Int64)), .second, iv p3, .val (.long (0 : Int64)), .second] [(.int (lcmpW (0 : Int64) (2 : Int64)))])) t → Steps p.tables e below (s₁.setTop f0) t := fun t k => R33 t (by
        show Steps p.tables e below (T2.setTop (mkF m 11 #[rv a1, .val (.long (2 : Int64)), .second, iv p3, .unset, .unset] [])) _
        refine XS.lconst X2.here hx rfl (hb hby d8_11) ?_
        refine XS.lstore X2.here hx rfl (hb hby d8_12) rfl (l' := #[rv a1, .val (.long (2 : Int64)), .second, iv p3, .val (.long (0 : Int64)), .second]) rfl ?_
        show Steps p.tables e below (T2.setTop (mkF m 14 #[rv a1, .val (.long (2 : Int64)), .second, iv p3, .val (.long (0 : Int64)), .second] [])) _
        refine XS.lload X2.here hx rfl (hb hby d8_14) rfl  ?_
        refine XS.lloadN X2.here hx rfl (hb hby d8_16) rfl  ?_
        show Steps p.tables e below (T2.setTop (mkF m 17 #[rv a1, .val (.long (2 : Int64)), .second, iv p3, .val (.long (0 : Int64)), .second] [(.long (2 : Int64)), (.long (0 : Int64))])) _
        refine XS.lcmp X2.here hx rfl (hb hby d8_17) rfl ?_
        exact k)
      have R35 : ∀ t, Steps p.tables e below (T2.setTop (mkF m 18 #[rv a1, .val (.long (2 : Int64)), .second, iv p3, .val (.long (0 : Int64)), .second] [(.int (-1 : Int32))])) t → Steps p.tables e below (s₁.setTop f0) t := by have q := R34; rw [((by decide) : (lcmpW (0 : Int64) (2 : Int64)) = (-1 : Int32))] at q; exact q
      have R36 : ∀ t, Steps p.tables e below (T2.setTop (mkF m 23 #[rv a1, .val (.long (2 : Int64)), .second, iv p3, .val (.long (0 : Int64)), .second] [(.ref a1), (.ref a1)])) t → Steps p.tables e below (s₁.setTop f0) t := fun t k => R35 t (by
        show Steps p.tables e below (T2.setTop (mkF m 18 #[rv a1, .val (.long (2 : Int64)), .second, iv p3, .val (.long (0 : Int64)), .second] [(.int (-1 : Int32))])) _
        refine XS.ifNo X2.here hx rfl (hb hby d8_18) rfl ((if0 _ _).trans (tlt (by decide : (-1 : Int32) < (0 : Int32))).2.1) ?_
        refine XS.aloadN X2.here hx rfl (hb hby d8_21) rfl rfl ?_
        show Steps p.tables e below (T2.setTop (mkF m 22 #[rv a1, .val (.long (2 : Int64)), .second, iv p3, .val (.long (0 : Int64)), .second] [(.ref a1)])) _
        refine XS.dup X2.here hx rfl (hb hby d8_22) rfl rfl ?_
        exact k)
      obtain ⟨T37, X37, e37, st37⟩ := getF X2 hx hZ hown (host := "") (Or.inl (hw _ (List.mem_of_getElem? (i := 41) rfl))) Via.refl p2_0 F_unscaled_a1 (g := (mkF m 23 #[rv a1, .val (.long (2 : Int64)), .second, iv p3, .val (.long (0 : Int64)), .second] [(.ref a1), (.ref a1)])) rfl rfl (hb hby d8_23)
      have R38 : ∀ t, Steps p.tables e below (T37.setTop (mkF m 26 #[rv a1, .val (.long (2 : Int64)), .second, iv p3, .val (.long (0 : Int64)), .second] [(.long us), (.ref a1)])) t → Steps p.tables e below (s₁.setTop f0) t := fun t k => R36 t (st37 t k)
      have R39 : ∀ t, Steps p.tables e below (T37.setTop (mkF m 30 #[rv a1, .val (.long (2 : Int64)), .second, iv p3, .val (.long (0 : Int64)), .second] [(.long (us * (10 : Int64))), (.ref a1)])) t → Steps p.tables e below (s₁.setTop f0) t := fun t k => R38 t (by
        show Steps p.tables e below (T37.setTop (mkF m 26 #[rv a1, .val (.long (2 : Int64)), .second, iv p3, .val (.long (0 : Int64)), .second] [(.long us), (.ref a1)])) _
        refine X37.ldc2Long hx hown (mvT hZ (hw _ (List.mem_of_getElem? (i := 72) rfl))) (g := (mkF m 26 #[rv a1, .val (.long (2 : Int64)), .second, iv p3, .val (.long (0 : Int64)), .second] [(.long us), (.ref a1)])) rfl (hb hby d8_26) _ ?_
        refine XS.lmul X37.here hx rfl (hb hby d8_29) rfl ?_
        exact k)
      obtain ⟨T40, h40, X40, e40, W40, st40⟩ := putF X37 hx hZ hown (host := "") (Or.inl (hw _ (List.mem_of_getElem? (i := 41) rfl))) Via.refl e37 F_unscaled_a1 E_a1 (Or.inl (hw _ (List.mem_of_getElem? (i := 42) rfl))) (hw _ (List.mem_of_getElem? (i := 6) rfl)) (ty := .long) (by decide) rfl rfl (g := (mkF m 30 #[rv a1, .val (.long (2 : Int64)), .second, iv p3, .val (.long (0 : Int64)), .second] [(.long (us * (10 : Int64))), (.ref a1)])) rfl rfl (hb hby d8_30)
      have fw40 : Fld Z h40 a1 sN0 "unscaled" "J" (.long (us * (10 : Int64))) := F_unscaled_a1.same W40
      have f40_E_a1 : Exa Z h40 a1 sN0 := E_a1.wr W40
      have f40_F_integerOnly_a1 : Fld Z h40 a1 sN0 "integerOnly" "Z" (.int io) := F_integerOnly_a1.other W40 (Or.inr (slot_ne (Or.inl (hw _ (List.mem_of_getElem? (i := 25) rfl))) (Or.inl (hw _ (List.mem_of_getElem? (i := 42) rfl))) (by decide) (t := .boolean) (t' := .long) (by decide) (by decide)))
      have f40_F_part_a1 : Fld Z h40 a1 sN0 "part" sN2 (.ref pt) := F_part_a1.other W40 (Or.inr (slot_ne (Or.inl (hw _ (List.mem_of_getElem? (i := 30) rfl))) (Or.inl (hw _ (List.mem_of_getElem? (i := 42) rfl))) (by decide) (t := (.object sN1)) (t' := .long) (by decide) (by decide)))
      have f40_F_negative_a1 : Fld Z h40 a1 sN0 "negative" "Z" ng := F_negative_a1.other W40 (Or.inr (slot_ne (Or.inl (hw _ (List.mem_of_getElem? (i := 32) rfl))) (Or.inl (hw _ (List.mem_of_getElem? (i := 42) rfl))) (by decide) (t := .boolean) (t' := .long) (by decide) (by decide)))
      have f40_F_digitRead_a1 : Fld Z h40 a1 sN0 "digitRead" "Z" (.int dr) := F_digitRead_a1.other W40 (Or.inr (slot_ne (Or.inl (hw _ (List.mem_of_getElem? (i := 34) rfl))) (Or.inl (hw _ (List.mem_of_getElem? (i := 42) rfl))) (by decide) (t := .boolean) (t' := .long) (by decide) (by decide)))
      have f40_F_integerDigits_a1 : Fld Z h40 a1 sN0 "integerDigits" "J" (.long id) := F_integerDigits_a1.other W40 (Or.inr (slot_ne (Or.inl (hw _ (List.mem_of_getElem? (i := 36) rfl))) (Or.inl (hw _ (List.mem_of_getElem? (i := 42) rfl))) (by decide) (t := .long) (t' := .long) (by decide) (by decide)))
      have f40_F_fractionDigits_a1 : Fld Z h40 a1 sN0 "fractionDigits" "J" (.long fd) := F_fractionDigits_a1.other W40 (Or.inr (slot_ne (Or.inl (hw _ (List.mem_of_getElem? (i := 38) rfl))) (Or.inl (hw _ (List.mem_of_getElem? (i := 42) rfl))) (by decide) (t := .long) (t' := .long) (by decide) (by decide)))
      have f40_F_pendingZeros_a1 : Fld Z h40 a1 sN0 "pendingZeros" "J" (.long pz) := F_pendingZeros_a1.other W40 (Or.inr (slot_ne (Or.inl (hw _ (List.mem_of_getElem? (i := 40) rfl))) (Or.inl (hw _ (List.mem_of_getElem? (i := 42) rfl))) (by decide) (t := .long) (t' := .long) (by decide) (by decide)))
      have z40 : n0 ≤ h40.size := by rw [W40.size]; exact Z0
      have K40 : Keep h0 h40 [a1] := (Keep.refl h0 [a1]).wr W40 (Or.inl (List.mem_of_getElem? (i := 0) rfl))
      have N40 := Fr.snoc X40 N2 g_a1
      have R41 : ∀ t, Steps p.tables e below (T40.setTop (mkF m 33 #[rv a1, .val (.long (2 : Int64)), .second, iv p3, .val (.long (0 : Int64)), .second] [])) t → Steps p.tables e below (s₁.setTop f0) t := fun t k => R39 t (st40 t k)
      have R42 : ∀ t, Steps p.tables e below (T40.setTop (mkF m 18 #[rv a1, .val (.long (2 : Int64)), .second, iv p3, .val (.long (1 : Int64)), .second] [(.int (lcmpW (1 : Int64) (2 : Int64)))])) t → Steps p.tables e below (s₁.setTop f0) t := fun t k => R41 t (by
        show Steps p.tables e below (T40.setTop (mkF m 33 #[rv a1, .val (.long (2 : Int64)), .second, iv p3, .val (.long (0 : Int64)), .second] [])) _
        refine XS.lload X40.here hx rfl (hb hby d8_33) rfl  ?_
        refine XS.lconst X40.here hx rfl (hb hby d8_35) ?_
        show Steps p.tables e below (T40.setTop (mkF m 36 #[rv a1, .val (.long (2 : Int64)), .second, iv p3, .val (.long (0 : Int64)), .second] [(.long (1 : Int64)), (.long (0 : Int64))])) _
        refine XS.ladd X40.here hx rfl (hb hby d8_36) rfl ?_
        refine XS.lstore X40.here hx rfl (hb hby d8_37) rfl (l' := #[rv a1, .val (.long (2 : Int64)), .second, iv p3, .val (.long (1 : Int64)), .second]) rfl ?_
        show Steps p.tables e below (T40.setTop (mkF m 39 #[rv a1, .val (.long (2 : Int64)), .second, iv p3, .val (.long (1 : Int64)), .second] [])) _
        refine XS.goto X40.here hx rfl (pc0 := 39) (pc' := 14) rfl (hb hby d8_39) (by decide) (by decide) ?_
        refine XS.lload X40.here hx rfl (hb hby d8_14) rfl  ?_
        show Steps p.tables e below (T40.setTop (mkF m 16 #[rv a1, .val (.long (2 : Int64)), .second, iv p3, .val (.long (1 : Int64)), .second] [(.long (1 : Int64))])) _
        refine XS.lloadN X40.here hx rfl (hb hby d8_16) rfl  ?_
        refine XS.lcmp X40.here hx rfl (hb hby d8_17) rfl ?_
        exact k)
      have R43 : ∀ t, Steps p.tables e below (T40.setTop (mkF m 18 #[rv a1, .val (.long (2 : Int64)), .second, iv p3, .val (.long (1 : Int64)), .second] [(.int (-1 : Int32))])) t → Steps p.tables e below (s₁.setTop f0) t := by have q := R42; rw [((by decide) : (lcmpW (1 : Int64) (2 : Int64)) = (-1 : Int32))] at q; exact q
      have R44 : ∀ t, Steps p.tables e below (T40.setTop (mkF m 23 #[rv a1, .val (.long (2 : Int64)), .second, iv p3, .val (.long (1 : Int64)), .second] [(.ref a1), (.ref a1)])) t → Steps p.tables e below (s₁.setTop f0) t := fun t k => R43 t (by
        show Steps p.tables e below (T40.setTop (mkF m 18 #[rv a1, .val (.long (2 : Int64)), .second, iv p3, .val (.long (1 : Int64)), .second] [(.int (-1 : Int32))])) _
        refine XS.ifNo X40.here hx rfl (hb hby d8_18) rfl ((if0 _ _).trans (tlt (by decide : (-1 : Int32) < (0 : Int32))).2.1) ?_
        refine XS.aloadN X40.here hx rfl (hb hby d8_21) rfl rfl ?_
        show Steps p.tables e below (T40.setTop (mkF m 22 #[rv a1, .val (.long (2 : Int64)), .second, iv p3, .val (.long (1 : Int64)), .second] [(.ref a1)])) _
        refine XS.dup X40.here hx rfl (hb hby d8_22) rfl rfl ?_
        exact k)
      obtain ⟨T45, X45, e45, st45⟩ := getF X40 hx hZ hown (host := "") (Or.inl (hw _ (List.mem_of_getElem? (i := 41) rfl))) Via.refl e40 fw40 (g := (mkF m 23 #[rv a1, .val (.long (2 : Int64)), .second, iv p3, .val (.long (1 : Int64)), .second] [(.ref a1), (.ref a1)])) rfl rfl (hb hby d8_23)
      have R46 : ∀ t, Steps p.tables e below (T45.setTop (mkF m 26 #[rv a1, .val (.long (2 : Int64)), .second, iv p3, .val (.long (1 : Int64)), .second] [(.long (us * (10 : Int64))), (.ref a1)])) t → Steps p.tables e below (s₁.setTop f0) t := fun t k => R44 t (st45 t k)
      have R47 : ∀ t, Steps p.tables e below (T45.setTop (mkF m 30 #[rv a1, .val (.long (2 : Int64)), .second, iv p3, .val (.long (1 : Int64)), .second] [(.long ((us * (10 : Int64)) * (10 : Int64))), (.ref a1)])) t → Steps p.tables e below (s₁.setTop f0) t := fun t k => R46 t (by
        show Steps p.tables e below (T45.setTop (mkF m 26 #[rv a1, .val (.long (2 : Int64)), .second, iv p3, .val (.long (1 : Int64)), .second] [(.long (us * (10 : Int64))), (.ref a1)])) _
        refine X45.ldc2Long hx hown (mvT hZ (hw _ (List.mem_of_getElem? (i := 72) rfl))) (g := (mkF m 26 #[rv a1, .val (.long (2 : Int64)), .second, iv p3, .val (.long (1 : Int64)), .second] [(.long (us * (10 : Int64))), (.ref a1)])) rfl (hb hby d8_26) _ ?_
        refine XS.lmul X45.here hx rfl (hb hby d8_29) rfl ?_
        exact k)
      obtain ⟨T48, h48, X48, e48, W48, st48⟩ := putF X45 hx hZ hown (host := "") (Or.inl (hw _ (List.mem_of_getElem? (i := 41) rfl))) Via.refl e45 fw40 f40_E_a1 (Or.inl (hw _ (List.mem_of_getElem? (i := 42) rfl))) (hw _ (List.mem_of_getElem? (i := 6) rfl)) (ty := .long) (by decide) rfl rfl (g := (mkF m 30 #[rv a1, .val (.long (2 : Int64)), .second, iv p3, .val (.long (1 : Int64)), .second] [(.long ((us * (10 : Int64)) * (10 : Int64))), (.ref a1)])) rfl rfl (hb hby d8_30)
      have fw48 : Fld Z h48 a1 sN0 "unscaled" "J" (.long ((us * (10 : Int64)) * (10 : Int64))) := fw40.same W48
      have f48_E_a1 : Exa Z h48 a1 sN0 := f40_E_a1.wr W48
      have f48_F_integerOnly_a1 : Fld Z h48 a1 sN0 "integerOnly" "Z" (.int io) := f40_F_integerOnly_a1.other W48 (Or.inr (slot_ne (Or.inl (hw _ (List.mem_of_getElem? (i := 25) rfl))) (Or.inl (hw _ (List.mem_of_getElem? (i := 42) rfl))) (by decide) (t := .boolean) (t' := .long) (by decide) (by decide)))
      have f48_F_part_a1 : Fld Z h48 a1 sN0 "part" sN2 (.ref pt) := f40_F_part_a1.other W48 (Or.inr (slot_ne (Or.inl (hw _ (List.mem_of_getElem? (i := 30) rfl))) (Or.inl (hw _ (List.mem_of_getElem? (i := 42) rfl))) (by decide) (t := (.object sN1)) (t' := .long) (by decide) (by decide)))
      have f48_F_negative_a1 : Fld Z h48 a1 sN0 "negative" "Z" ng := f40_F_negative_a1.other W48 (Or.inr (slot_ne (Or.inl (hw _ (List.mem_of_getElem? (i := 32) rfl))) (Or.inl (hw _ (List.mem_of_getElem? (i := 42) rfl))) (by decide) (t := .boolean) (t' := .long) (by decide) (by decide)))
      have f48_F_digitRead_a1 : Fld Z h48 a1 sN0 "digitRead" "Z" (.int dr) := f40_F_digitRead_a1.other W48 (Or.inr (slot_ne (Or.inl (hw _ (List.mem_of_getElem? (i := 34) rfl))) (Or.inl (hw _ (List.mem_of_getElem? (i := 42) rfl))) (by decide) (t := .boolean) (t' := .long) (by decide) (by decide)))
      have f48_F_integerDigits_a1 : Fld Z h48 a1 sN0 "integerDigits" "J" (.long id) := f40_F_integerDigits_a1.other W48 (Or.inr (slot_ne (Or.inl (hw _ (List.mem_of_getElem? (i := 36) rfl))) (Or.inl (hw _ (List.mem_of_getElem? (i := 42) rfl))) (by decide) (t := .long) (t' := .long) (by decide) (by decide)))
      have f48_F_fractionDigits_a1 : Fld Z h48 a1 sN0 "fractionDigits" "J" (.long fd) := f40_F_fractionDigits_a1.other W48 (Or.inr (slot_ne (Or.inl (hw _ (List.mem_of_getElem? (i := 38) rfl))) (Or.inl (hw _ (List.mem_of_getElem? (i := 42) rfl))) (by decide) (t := .long) (t' := .long) (by decide) (by decide)))
      have f48_F_pendingZeros_a1 : Fld Z h48 a1 sN0 "pendingZeros" "J" (.long pz) := f40_F_pendingZeros_a1.other W48 (Or.inr (slot_ne (Or.inl (hw _ (List.mem_of_getElem? (i := 40) rfl))) (Or.inl (hw _ (List.mem_of_getElem? (i := 42) rfl))) (by decide) (t := .long) (t' := .long) (by decide) (by decide)))
      have z48 : n0 ≤ h48.size := by rw [W48.size]; exact z40
      have K48 : Keep h0 h48 [a1] := K40.wr W48 (Or.inl (List.mem_of_getElem? (i := 0) rfl))
      have N48 := Fr.snoc X48 N40 g_a1
      have R49 : ∀ t, Steps p.tables e below (T48.setTop (mkF m 33 #[rv a1, .val (.long (2 : Int64)), .second, iv p3, .val (.long (1 : Int64)), .second] [])) t → Steps p.tables e below (s₁.setTop f0) t := fun t k => R47 t (st48 t k)
      have R50 : ∀ t, Steps p.tables e below (T48.setTop (mkF m 18 #[rv a1, .val (.long (2 : Int64)), .second, iv p3, .val (.long (2 : Int64)), .second] [(.int (lcmpW (2 : Int64) (2 : Int64)))])) t → Steps p.tables e below (s₁.setTop f0) t := fun t k => R49 t (by
        show Steps p.tables e below (T48.setTop (mkF m 33 #[rv a1, .val (.long (2 : Int64)), .second, iv p3, .val (.long (1 : Int64)), .second] [])) _
        refine XS.lload X48.here hx rfl (hb hby d8_33) rfl  ?_
        refine XS.lconst X48.here hx rfl (hb hby d8_35) ?_
        show Steps p.tables e below (T48.setTop (mkF m 36 #[rv a1, .val (.long (2 : Int64)), .second, iv p3, .val (.long (1 : Int64)), .second] [(.long (1 : Int64)), (.long (1 : Int64))])) _
        refine XS.ladd X48.here hx rfl (hb hby d8_36) rfl ?_
        refine XS.lstore X48.here hx rfl (hb hby d8_37) rfl (l' := #[rv a1, .val (.long (2 : Int64)), .second, iv p3, .val (.long (2 : Int64)), .second]) rfl ?_
        show Steps p.tables e below (T48.setTop (mkF m 39 #[rv a1, .val (.long (2 : Int64)), .second, iv p3, .val (.long (2 : Int64)), .second] [])) _
        refine XS.goto X48.here hx rfl (pc0 := 39) (pc' := 14) rfl (hb hby d8_39) (by decide) (by decide) ?_
        refine XS.lload X48.here hx rfl (hb hby d8_14) rfl  ?_
        show Steps p.tables e below (T48.setTop (mkF m 16 #[rv a1, .val (.long (2 : Int64)), .second, iv p3, .val (.long (2 : Int64)), .second] [(.long (2 : Int64))])) _
        refine XS.lloadN X48.here hx rfl (hb hby d8_16) rfl  ?_
        refine XS.lcmp X48.here hx rfl (hb hby d8_17) rfl ?_
        exact k)
      have R51 : ∀ t, Steps p.tables e below (T48.setTop (mkF m 18 #[rv a1, .val (.long (2 : Int64)), .second, iv p3, .val (.long (2 : Int64)), .second] [(.int (0 : Int32))])) t → Steps p.tables e below (s₁.setTop f0) t := by have q := R50; rw [((by decide) : (lcmpW (2 : Int64) (2 : Int64)) = (0 : Int32))] at q; exact q
      have R52 : ∀ t, Steps p.tables e below (T48.setTop (mkF m 44 #[rv a1, .val (.long (2 : Int64)), .second, iv p3, .val (.long (2 : Int64)), .second] [(.ref a1), (.ref a1)])) t → Steps p.tables e below (s₁.setTop f0) t := fun t k => R51 t (by
        show Steps p.tables e below (T48.setTop (mkF m 18 #[rv a1, .val (.long (2 : Int64)), .second, iv p3, .val (.long (2 : Int64)), .second] [(.int (0 : Int32))])) _
        refine XS.ifYes X48.here hx rfl (pc0 := 18) (pc' := 42) rfl (hb hby d8_18) rfl ((if0 _ _).trans (flt (by decide : ¬ ((0 : Int32) < (0 : Int32)))).2.1) (by decide) (by decide) ?_
        refine XS.aloadN X48.here hx rfl (hb hby d8_42) rfl rfl ?_
        show Steps p.tables e below (T48.setTop (mkF m 43 #[rv a1, .val (.long (2 : Int64)), .second, iv p3, .val (.long (2 : Int64)), .second] [(.ref a1)])) _
        refine XS.aloadN X48.here hx rfl (hb hby d8_43) rfl rfl ?_
        exact k)
      obtain ⟨T53, X53, e53, st53⟩ := getF X48 hx hZ hown (host := "") (Or.inl (hw _ (List.mem_of_getElem? (i := 41) rfl))) Via.refl e48 fw48 (g := (mkF m 44 #[rv a1, .val (.long (2 : Int64)), .second, iv p3, .val (.long (2 : Int64)), .second] [(.ref a1), (.ref a1)])) rfl rfl (hb hby d8_44)
      have R54 : ∀ t, Steps p.tables e below (T53.setTop (mkF m 47 #[rv a1, .val (.long (2 : Int64)), .second, iv p3, .val (.long (2 : Int64)), .second] [(.long ((us * (10 : Int64)) * (10 : Int64))), (.ref a1)])) t → Steps p.tables e below (s₁.setTop f0) t := fun t k => R52 t (st53 t k)
      have R55 : ∀ t, Steps p.tables e below (T53.setTop (mkF m 54 #[rv a1, .val (.long (2 : Int64)), .second, iv p3, .val (.long (2 : Int64)), .second] [(.long ((((us * (10 : Int64)) * (10 : Int64)) * (10 : Int64)) + (p3.toInt64))), (.ref a1)])) t → Steps p.tables e below (s₁.setTop f0) t := fun t k => R54 t (by
        show Steps p.tables e below (T53.setTop (mkF m 47 #[rv a1, .val (.long (2 : Int64)), .second, iv p3, .val (.long (2 : Int64)), .second] [(.long ((us * (10 : Int64)) * (10 : Int64))), (.ref a1)])) _
        refine X53.ldc2Long hx hown (mvT hZ (hw _ (List.mem_of_getElem? (i := 72) rfl))) (g := (mkF m 47 #[rv a1, .val (.long (2 : Int64)), .second, iv p3, .val (.long (2 : Int64)), .second] [(.long ((us * (10 : Int64)) * (10 : Int64))), (.ref a1)])) rfl (hb hby d8_47) _ ?_
        refine XS.lmul X53.here hx rfl (hb hby d8_50) rfl ?_
        show Steps p.tables e below (T53.setTop (mkF m 51 #[rv a1, .val (.long (2 : Int64)), .second, iv p3, .val (.long (2 : Int64)), .second] [(.long (((us * (10 : Int64)) * (10 : Int64)) * (10 : Int64))), (.ref a1)])) _
        refine XS.iloadN X53.here hx rfl (hb hby d8_51) rfl  ?_
        refine XS.i2l X53.here hx rfl (hb hby d8_52) rfl ?_
        show Steps p.tables e below (T53.setTop (mkF m 53 #[rv a1, .val (.long (2 : Int64)), .second, iv p3, .val (.long (2 : Int64)), .second] [(.long (p3.toInt64)), (.long (((us * (10 : Int64)) * (10 : Int64)) * (10 : Int64))), (.ref a1)])) _
        refine XS.ladd X53.here hx rfl (hb hby d8_53) rfl ?_
        exact k)
      obtain ⟨T56, h56, X56, e56, W56, st56⟩ := putF X53 hx hZ hown (host := "") (Or.inl (hw _ (List.mem_of_getElem? (i := 41) rfl))) Via.refl e53 fw48 f48_E_a1 (Or.inl (hw _ (List.mem_of_getElem? (i := 42) rfl))) (hw _ (List.mem_of_getElem? (i := 6) rfl)) (ty := .long) (by decide) rfl rfl (g := (mkF m 54 #[rv a1, .val (.long (2 : Int64)), .second, iv p3, .val (.long (2 : Int64)), .second] [(.long ((((us * (10 : Int64)) * (10 : Int64)) * (10 : Int64)) + (p3.toInt64))), (.ref a1)])) rfl rfl (hb hby d8_54)
      have fw56 : Fld Z h56 a1 sN0 "unscaled" "J" (.long ((((us * (10 : Int64)) * (10 : Int64)) * (10 : Int64)) + (p3.toInt64))) := fw48.same W56
      have f56_E_a1 : Exa Z h56 a1 sN0 := f48_E_a1.wr W56
      have f56_F_integerOnly_a1 : Fld Z h56 a1 sN0 "integerOnly" "Z" (.int io) := f48_F_integerOnly_a1.other W56 (Or.inr (slot_ne (Or.inl (hw _ (List.mem_of_getElem? (i := 25) rfl))) (Or.inl (hw _ (List.mem_of_getElem? (i := 42) rfl))) (by decide) (t := .boolean) (t' := .long) (by decide) (by decide)))
      have f56_F_part_a1 : Fld Z h56 a1 sN0 "part" sN2 (.ref pt) := f48_F_part_a1.other W56 (Or.inr (slot_ne (Or.inl (hw _ (List.mem_of_getElem? (i := 30) rfl))) (Or.inl (hw _ (List.mem_of_getElem? (i := 42) rfl))) (by decide) (t := (.object sN1)) (t' := .long) (by decide) (by decide)))
      have f56_F_negative_a1 : Fld Z h56 a1 sN0 "negative" "Z" ng := f48_F_negative_a1.other W56 (Or.inr (slot_ne (Or.inl (hw _ (List.mem_of_getElem? (i := 32) rfl))) (Or.inl (hw _ (List.mem_of_getElem? (i := 42) rfl))) (by decide) (t := .boolean) (t' := .long) (by decide) (by decide)))
      have f56_F_digitRead_a1 : Fld Z h56 a1 sN0 "digitRead" "Z" (.int dr) := f48_F_digitRead_a1.other W56 (Or.inr (slot_ne (Or.inl (hw _ (List.mem_of_getElem? (i := 34) rfl))) (Or.inl (hw _ (List.mem_of_getElem? (i := 42) rfl))) (by decide) (t := .boolean) (t' := .long) (by decide) (by decide)))
      have f56_F_integerDigits_a1 : Fld Z h56 a1 sN0 "integerDigits" "J" (.long id) := f48_F_integerDigits_a1.other W56 (Or.inr (slot_ne (Or.inl (hw _ (List.mem_of_getElem? (i := 36) rfl))) (Or.inl (hw _ (List.mem_of_getElem? (i := 42) rfl))) (by decide) (t := .long) (t' := .long) (by decide) (by decide)))
      have f56_F_fractionDigits_a1 : Fld Z h56 a1 sN0 "fractionDigits" "J" (.long fd) := f48_F_fractionDigits_a1.other W56 (Or.inr (slot_ne (Or.inl (hw _ (List.mem_of_getElem? (i := 38) rfl))) (Or.inl (hw _ (List.mem_of_getElem? (i := 42) rfl))) (by decide) (t := .long) (t' := .long) (by decide) (by decide)))
      have f56_F_pendingZeros_a1 : Fld Z h56 a1 sN0 "pendingZeros" "J" (.long pz) := f48_F_pendingZeros_a1.other W56 (Or.inr (slot_ne (Or.inl (hw _ (List.mem_of_getElem? (i := 40) rfl))) (Or.inl (hw _ (List.mem_of_getElem? (i := 42) rfl))) (by decide) (t := .long) (t' := .long) (by decide) (by decide)))
      have z56 : n0 ≤ h56.size := by rw [W56.size]; exact z48
      have K56 : Keep h0 h56 [a1] := K48.wr W56 (Or.inl (List.mem_of_getElem? (i := 0) rfl))
      have N56 := Fr.snoc X56 N48 g_a1
      have R57 : ∀ t, Steps p.tables e below (T56.setTop (mkF m 57 #[rv a1, .val (.long (2 : Int64)), .second, iv p3, .val (.long (2 : Int64)), .second] [])) t → Steps p.tables e below (s₁.setTop f0) t := fun t k => R55 t (st56 t k)
      obtain ⟨fs, hr, hrun, hended, hW, hsame⟩ := X56.leave (v := none) (fun _ => rfl)
      refine ⟨_, _, pre0 _ (R57 _ ?_), hrun, hended, _, _, rfl, ?_, ⟨_, rfl⟩, hW, hsame.mono (by decide) (by decide)⟩
      · show Steps p.tables e below (T56.setTop (mkF m 57 #[rv a1, .val (.long (2 : Int64)), .second, iv p3, .val (.long (2 : Int64)), .second] [])) _
        exact X56.returnOut hx Bd.returns (hb hby d8_57) hr
      · show Q_rmApp Z a1 q2 p3 io pt ng dr id fd pz us h0 n0 _ T56.heap _
        rw [e56]
        exact ⟨((((us * (10 : Int64)) * (10 : Int64)) * (10 : Int64)) + (p3.toInt64)), rfl, N56, K56, f56_F_integerOnly_a1, f56_F_part_a1, f56_F_negative_a1, f56_F_digitRead_a1, f56_F_integerDigits_a1, f56_F_fractionDigits_a1, f56_F_pendingZeros_a1, fw56⟩
    · skip
      have R58 : ∀ t, Steps p.tables e below (T2.setTop (mkF m 11 #[rv a1, .val (.long (3 : Int64)), .second, iv p3, .unset, .unset] [])) t → Steps p.tables e below (s₁.setTop f0) t := by have q := R6; rw [(hk : q2 = (3 : Int64))] at q; exact q
      have R59 : ∀ t, Steps p.tables e below (T2.setTop (mkF m 18 #[rv a1, .val (.long (3 : Int64)), .second, iv p3, .val (.long (0 : Int64)), .second] [(.int (lcmpW (0 : Int64) (3 : Int64)))])) t → Steps p.tables e below (s₁.setTop f0) t := fun t k => R58 t (by
        show Steps p.tables e below (T2.setTop (mkF m 11 #[rv a1, .val (.long (3 : Int64)), .second, iv p3, .unset, .unset] [])) _
        refine XS.lconst X2.here hx rfl (hb hby d8_11) ?_
        refine XS.lstore X2.here hx rfl (hb hby d8_12) rfl (l' := #[rv a1, .val (.long (3 : Int64)), .second, iv p3, .val (.long (0 : Int64)), .second]) rfl ?_
        show Steps p.tables e below (T2.setTop (mkF m 14 #[rv a1, .val (.long (3 : Int64)), .second, iv p3, .val (.long (0 : Int64)), .second] [])) _
        refine XS.lload X2.here hx rfl (hb hby d8_14) rfl  ?_
        refine XS.lloadN X2.here hx rfl (hb hby d8_16) rfl  ?_
        show Steps p.tables e below (T2.setTop (mkF m 17 #[rv a1, .val (.long (3 : Int64)), .second, iv p3, .val (.long (0 : Int64)), .second] [(.long (3 : Int64)), (.long (0 : Int64))])) _
        refine XS.lcmp X2.here hx rfl (hb hby d8_17) rfl ?_
        exact k)
      have R60 : ∀ t, Steps p.tables e below (T2.setTop (mkF m 18 #[rv a1, .val (.long (3 : Int64)), .second, iv p3, .val (.long (0 : Int64)), .second] [(.int (-1 : Int32))])) t → Steps p.tables e below (s₁.setTop f0) t := by have q := R59; rw [((by decide) : (lcmpW (0 : Int64) (3 : Int64)) = (-1 : Int32))] at q; exact q
      have R61 : ∀ t, Steps p.tables e below (T2.setTop (mkF m 23 #[rv a1, .val (.long (3 : Int64)), .second, iv p3, .val (.long (0 : Int64)), .second] [(.ref a1), (.ref a1)])) t → Steps p.tables e below (s₁.setTop f0) t := fun t k => R60 t (by
        show Steps p.tables e below (T2.setTop (mkF m 18 #[rv a1, .val (.long (3 : Int64)), .second, iv p3, .val (.long (0 : Int64)), .second] [(.int (-1 : Int32))])) _
        refine XS.ifNo X2.here hx rfl (hb hby d8_18) rfl ((if0 _ _).trans (tlt (by decide : (-1 : Int32) < (0 : Int32))).2.1) ?_
        refine XS.aloadN X2.here hx rfl (hb hby d8_21) rfl rfl ?_
        show Steps p.tables e below (T2.setTop (mkF m 22 #[rv a1, .val (.long (3 : Int64)), .second, iv p3, .val (.long (0 : Int64)), .second] [(.ref a1)])) _
        refine XS.dup X2.here hx rfl (hb hby d8_22) rfl rfl ?_
        exact k)
      obtain ⟨T62, X62, e62, st62⟩ := getF X2 hx hZ hown (host := "") (Or.inl (hw _ (List.mem_of_getElem? (i := 41) rfl))) Via.refl p2_0 F_unscaled_a1 (g := (mkF m 23 #[rv a1, .val (.long (3 : Int64)), .second, iv p3, .val (.long (0 : Int64)), .second] [(.ref a1), (.ref a1)])) rfl rfl (hb hby d8_23)
      have R63 : ∀ t, Steps p.tables e below (T62.setTop (mkF m 26 #[rv a1, .val (.long (3 : Int64)), .second, iv p3, .val (.long (0 : Int64)), .second] [(.long us), (.ref a1)])) t → Steps p.tables e below (s₁.setTop f0) t := fun t k => R61 t (st62 t k)
      have R64 : ∀ t, Steps p.tables e below (T62.setTop (mkF m 30 #[rv a1, .val (.long (3 : Int64)), .second, iv p3, .val (.long (0 : Int64)), .second] [(.long (us * (10 : Int64))), (.ref a1)])) t → Steps p.tables e below (s₁.setTop f0) t := fun t k => R63 t (by
        show Steps p.tables e below (T62.setTop (mkF m 26 #[rv a1, .val (.long (3 : Int64)), .second, iv p3, .val (.long (0 : Int64)), .second] [(.long us), (.ref a1)])) _
        refine X62.ldc2Long hx hown (mvT hZ (hw _ (List.mem_of_getElem? (i := 72) rfl))) (g := (mkF m 26 #[rv a1, .val (.long (3 : Int64)), .second, iv p3, .val (.long (0 : Int64)), .second] [(.long us), (.ref a1)])) rfl (hb hby d8_26) _ ?_
        refine XS.lmul X62.here hx rfl (hb hby d8_29) rfl ?_
        exact k)
      obtain ⟨T65, h65, X65, e65, W65, st65⟩ := putF X62 hx hZ hown (host := "") (Or.inl (hw _ (List.mem_of_getElem? (i := 41) rfl))) Via.refl e62 F_unscaled_a1 E_a1 (Or.inl (hw _ (List.mem_of_getElem? (i := 42) rfl))) (hw _ (List.mem_of_getElem? (i := 6) rfl)) (ty := .long) (by decide) rfl rfl (g := (mkF m 30 #[rv a1, .val (.long (3 : Int64)), .second, iv p3, .val (.long (0 : Int64)), .second] [(.long (us * (10 : Int64))), (.ref a1)])) rfl rfl (hb hby d8_30)
      have fw65 : Fld Z h65 a1 sN0 "unscaled" "J" (.long (us * (10 : Int64))) := F_unscaled_a1.same W65
      have f65_E_a1 : Exa Z h65 a1 sN0 := E_a1.wr W65
      have f65_F_integerOnly_a1 : Fld Z h65 a1 sN0 "integerOnly" "Z" (.int io) := F_integerOnly_a1.other W65 (Or.inr (slot_ne (Or.inl (hw _ (List.mem_of_getElem? (i := 25) rfl))) (Or.inl (hw _ (List.mem_of_getElem? (i := 42) rfl))) (by decide) (t := .boolean) (t' := .long) (by decide) (by decide)))
      have f65_F_part_a1 : Fld Z h65 a1 sN0 "part" sN2 (.ref pt) := F_part_a1.other W65 (Or.inr (slot_ne (Or.inl (hw _ (List.mem_of_getElem? (i := 30) rfl))) (Or.inl (hw _ (List.mem_of_getElem? (i := 42) rfl))) (by decide) (t := (.object sN1)) (t' := .long) (by decide) (by decide)))
      have f65_F_negative_a1 : Fld Z h65 a1 sN0 "negative" "Z" ng := F_negative_a1.other W65 (Or.inr (slot_ne (Or.inl (hw _ (List.mem_of_getElem? (i := 32) rfl))) (Or.inl (hw _ (List.mem_of_getElem? (i := 42) rfl))) (by decide) (t := .boolean) (t' := .long) (by decide) (by decide)))
      have f65_F_digitRead_a1 : Fld Z h65 a1 sN0 "digitRead" "Z" (.int dr) := F_digitRead_a1.other W65 (Or.inr (slot_ne (Or.inl (hw _ (List.mem_of_getElem? (i := 34) rfl))) (Or.inl (hw _ (List.mem_of_getElem? (i := 42) rfl))) (by decide) (t := .boolean) (t' := .long) (by decide) (by decide)))
      have f65_F_integerDigits_a1 : Fld Z h65 a1 sN0 "integerDigits" "J" (.long id) := F_integerDigits_a1.other W65 (Or.inr (slot_ne (Or.inl (hw _ (List.mem_of_getElem? (i := 36) rfl))) (Or.inl (hw _ (List.mem_of_getElem? (i := 42) rfl))) (by decide) (t := .long) (t' := .long) (by decide) (by decide)))
      have f65_F_fractionDigits_a1 : Fld Z h65 a1 sN0 "fractionDigits" "J" (.long fd) := F_fractionDigits_a1.other W65 (Or.inr (slot_ne (Or.inl (hw _ (List.mem_of_getElem? (i := 38) rfl))) (Or.inl (hw _ (List.mem_of_getElem? (i := 42) rfl))) (by decide) (t := .long) (t' := .long) (by decide) (by decide)))
      have f65_F_pendingZeros_a1 : Fld Z h65 a1 sN0 "pendingZeros" "J" (.long pz) := F_pendingZeros_a1.other W65 (Or.inr (slot_ne (Or.inl (hw _ (List.mem_of_getElem? (i := 40) rfl))) (Or.inl (hw _ (List.mem_of_getElem? (i := 42) rfl))) (by decide) (t := .long) (t' := .long) (by decide) (by decide)))
      have z65 : n0 ≤ h65.size := by rw [W65.size]; exact Z0
      have K65 : Keep h0 h65 [a1] := (Keep.refl h0 [a1]).wr W65 (Or.inl (List.mem_of_getElem? (i := 0) rfl))
      have N65 := Fr.snoc X65 N2 g_a1
      have R66 : ∀ t, Steps p.tables e below (T65.setTop (mkF m 33 #[rv a1, .val (.long (3 : Int64)), .second, iv p3, .val (.long (0 : Int64)), .second] [])) t → Steps p.tables e below (s₁.setTop f0) t := fun t k => R64 t (st65 t k)
      have R67 : ∀ t, Steps p.tables e below (T65.setTop (mkF m 18 #[rv a1, .val (.long (3 : Int64)), .second, iv p3, .val (.long (1 : Int64)), .second] [(.int (lcmpW (1 : Int64) (3 : Int64)))])) t → Steps p.tables e below (s₁.setTop f0) t := fun t k => R66 t (by
        show Steps p.tables e below (T65.setTop (mkF m 33 #[rv a1, .val (.long (3 : Int64)), .second, iv p3, .val (.long (0 : Int64)), .second] [])) _
        refine XS.lload X65.here hx rfl (hb hby d8_33) rfl  ?_
        refine XS.lconst X65.here hx rfl (hb hby d8_35) ?_
        show Steps p.tables e below (T65.setTop (mkF m 36 #[rv a1, .val (.long (3 : Int64)), .second, iv p3, .val (.long (0 : Int64)), .second] [(.long (1 : Int64)), (.long (0 : Int64))])) _
        refine XS.ladd X65.here hx rfl (hb hby d8_36) rfl ?_
        refine XS.lstore X65.here hx rfl (hb hby d8_37) rfl (l' := #[rv a1, .val (.long (3 : Int64)), .second, iv p3, .val (.long (1 : Int64)), .second]) rfl ?_
        show Steps p.tables e below (T65.setTop (mkF m 39 #[rv a1, .val (.long (3 : Int64)), .second, iv p3, .val (.long (1 : Int64)), .second] [])) _
        refine XS.goto X65.here hx rfl (pc0 := 39) (pc' := 14) rfl (hb hby d8_39) (by decide) (by decide) ?_
        refine XS.lload X65.here hx rfl (hb hby d8_14) rfl  ?_
        show Steps p.tables e below (T65.setTop (mkF m 16 #[rv a1, .val (.long (3 : Int64)), .second, iv p3, .val (.long (1 : Int64)), .second] [(.long (1 : Int64))])) _
        refine XS.lloadN X65.here hx rfl (hb hby d8_16) rfl  ?_
        refine XS.lcmp X65.here hx rfl (hb hby d8_17) rfl ?_
        exact k)
      have R68 : ∀ t, Steps p.tables e below (T65.setTop (mkF m 18 #[rv a1, .val (.long (3 : Int64)), .second, iv p3, .val (.long (1 : Int64)), .second] [(.int (-1 : Int32))])) t → Steps p.tables e below (s₁.setTop f0) t := by have q := R67; rw [((by decide) : (lcmpW (1 : Int64) (3 : Int64)) = (-1 : Int32))] at q; exact q
      have R69 : ∀ t, Steps p.tables e below (T65.setTop (mkF m 23 #[rv a1, .val (.long (3 : Int64)), .second, iv p3, .val (.long (1 : Int64)), .second] [(.ref a1), (.ref a1)])) t → Steps p.tables e below (s₁.setTop f0) t := fun t k => R68 t (by
        show Steps p.tables e below (T65.setTop (mkF m 18 #[rv a1, .val (.long (3 : Int64)), .second, iv p3, .val (.long (1 : Int64)), .second] [(.int (-1 : Int32))])) _
        refine XS.ifNo X65.here hx rfl (hb hby d8_18) rfl ((if0 _ _).trans (tlt (by decide : (-1 : Int32) < (0 : Int32))).2.1) ?_
        refine XS.aloadN X65.here hx rfl (hb hby d8_21) rfl rfl ?_
        show Steps p.tables e below (T65.setTop (mkF m 22 #[rv a1, .val (.long (3 : Int64)), .second, iv p3, .val (.long (1 : Int64)), .second] [(.ref a1)])) _
        refine XS.dup X65.here hx rfl (hb hby d8_22) rfl rfl ?_
        exact k)
      obtain ⟨T70, X70, e70, st70⟩ := getF X65 hx hZ hown (host := "") (Or.inl (hw _ (List.mem_of_getElem? (i := 41) rfl))) Via.refl e65 fw65 (g := (mkF m 23 #[rv a1, .val (.long (3 : Int64)), .second, iv p3, .val (.long (1 : Int64)), .second] [(.ref a1), (.ref a1)])) rfl rfl (hb hby d8_23)
      have R71 : ∀ t, Steps p.tables e below (T70.setTop (mkF m 26 #[rv a1, .val (.long (3 : Int64)), .second, iv p3, .val (.long (1 : Int64)), .second] [(.long (us * (10 : Int64))), (.ref a1)])) t → Steps p.tables e below (s₁.setTop f0) t := fun t k => R69 t (st70 t k)
      have R72 : ∀ t, Steps p.tables e below (T70.setTop (mkF m 30 #[rv a1, .val (.long (3 : Int64)), .second, iv p3, .val (.long (1 : Int64)), .second] [(.long ((us * (10 : Int64)) * (10 : Int64))), (.ref a1)])) t → Steps p.tables e below (s₁.setTop f0) t := fun t k => R71 t (by
        show Steps p.tables e below (T70.setTop (mkF m 26 #[rv a1, .val (.long (3 : Int64)), .second, iv p3, .val (.long (1 : Int64)), .second] [(.long (us * (10 : Int64))), (.ref a1)])) _
        refine X70.ldc2Long hx hown (mvT hZ (hw _ (List.mem_of_getElem? (i := 72) rfl))) (g := (mkF m 26 #[rv a1, .val (.long (3 : Int64)), .second, iv p3, .val (.long (1 : Int64)), .second] [(.long (us * (10 : Int64))), (.ref a1)])) rfl (hb hby d8_26) _ ?_
        refine XS.lmul X70.here hx rfl (hb hby d8_29) rfl ?_
        exact k)
      obtain ⟨T73, h73, X73, e73, W73, st73⟩ := putF X70 hx hZ hown (host := "") (Or.inl (hw _ (List.mem_of_getElem? (i := 41) rfl))) Via.refl e70 fw65 f65_E_a1 (Or.inl (hw _ (List.mem_of_getElem? (i := 42) rfl))) (hw _ (List.mem_of_getElem? (i := 6) rfl)) (ty := .long) (by decide) rfl rfl (g := (mkF m 30 #[rv a1, .val (.long (3 : Int64)), .second, iv p3, .val (.long (1 : Int64)), .second] [(.long ((us * (10 : Int64)) * (10 : Int64))), (.ref a1)])) rfl rfl (hb hby d8_30)
      have fw73 : Fld Z h73 a1 sN0 "unscaled" "J" (.long ((us * (10 : Int64)) * (10 : Int64))) := fw65.same W73
      have f73_E_a1 : Exa Z h73 a1 sN0 := f65_E_a1.wr W73
      have f73_F_integerOnly_a1 : Fld Z h73 a1 sN0 "integerOnly" "Z" (.int io) := f65_F_integerOnly_a1.other W73 (Or.inr (slot_ne (Or.inl (hw _ (List.mem_of_getElem? (i := 25) rfl))) (Or.inl (hw _ (List.mem_of_getElem? (i := 42) rfl))) (by decide) (t := .boolean) (t' := .long) (by decide) (by decide)))
      have f73_F_part_a1 : Fld Z h73 a1 sN0 "part" sN2 (.ref pt) := f65_F_part_a1.other W73 (Or.inr (slot_ne (Or.inl (hw _ (List.mem_of_getElem? (i := 30) rfl))) (Or.inl (hw _ (List.mem_of_getElem? (i := 42) rfl))) (by decide) (t := (.object sN1)) (t' := .long) (by decide) (by decide)))
      have f73_F_negative_a1 : Fld Z h73 a1 sN0 "negative" "Z" ng := f65_F_negative_a1.other W73 (Or.inr (slot_ne (Or.inl (hw _ (List.mem_of_getElem? (i := 32) rfl))) (Or.inl (hw _ (List.mem_of_getElem? (i := 42) rfl))) (by decide) (t := .boolean) (t' := .long) (by decide) (by decide)))
      have f73_F_digitRead_a1 : Fld Z h73 a1 sN0 "digitRead" "Z" (.int dr) := f65_F_digitRead_a1.other W73 (Or.inr (slot_ne (Or.inl (hw _ (List.mem_of_getElem? (i := 34) rfl))) (Or.inl (hw _ (List.mem_of_getElem? (i := 42) rfl))) (by decide) (t := .boolean) (t' := .long) (by decide) (by decide)))
      have f73_F_integerDigits_a1 : Fld Z h73 a1 sN0 "integerDigits" "J" (.long id) := f65_F_integerDigits_a1.other W73 (Or.inr (slot_ne (Or.inl (hw _ (List.mem_of_getElem? (i := 36) rfl))) (Or.inl (hw _ (List.mem_of_getElem? (i := 42) rfl))) (by decide) (t := .long) (t' := .long) (by decide) (by decide)))
      have f73_F_fractionDigits_a1 : Fld Z h73 a1 sN0 "fractionDigits" "J" (.long fd) := f65_F_fractionDigits_a1.other W73 (Or.inr (slot_ne (Or.inl (hw _ (List.mem_of_getElem? (i := 38) rfl))) (Or.inl (hw _ (List.mem_of_getElem? (i := 42) rfl))) (by decide) (t := .long) (t' := .long) (by decide) (by decide)))
      have f73_F_pendingZeros_a1 : Fld Z h73 a1 sN0 "pendingZeros" "J" (.long pz) := f65_F_pendingZeros_a1.other W73 (Or.inr (slot_ne (Or.inl (hw _ (List.mem_of_getElem? (i := 40) rfl))) (Or.inl (hw _ (List.mem_of_getElem? (i := 42) rfl))) (by decide) (t := .long) (t' := .long) (by decide) (by decide)))
      have z73 : n0 ≤ h73.size := by rw [W73.size]; exact z65
      have K73 : Keep h0 h73 [a1] := K65.wr W73 (Or.inl (List.mem_of_getElem? (i := 0) rfl))
      have N73 := Fr.snoc X73 N65 g_a1
      have R74 : ∀ t, Steps p.tables e below (T73.setTop (mkF m 33 #[rv a1, .val (.long (3 : Int64)), .second, iv p3, .val (.long (1 : Int64)), .second] [])) t → Steps p.tables e below (s₁.setTop f0) t := fun t k => R72 t (st73 t k)
      have R75 : ∀ t, Steps p.tables e below (T73.setTop (mkF m 18 #[rv a1, .val (.long (3 : Int64)), .second, iv p3, .val (.long (2 : Int64)), .second] [(.int (lcmpW (2 : Int64) (3 : Int64)))])) t → Steps p.tables e below (s₁.setTop f0) t := fun t k => R74 t (by
        show Steps p.tables e below (T73.setTop (mkF m 33 #[rv a1, .val (.long (3 : Int64)), .second, iv p3, .val (.long (1 : Int64)), .second] [])) _
        refine XS.lload X73.here hx rfl (hb hby d8_33) rfl  ?_
        refine XS.lconst X73.here hx rfl (hb hby d8_35) ?_
        show Steps p.tables e below (T73.setTop (mkF m 36 #[rv a1, .val (.long (3 : Int64)), .second, iv p3, .val (.long (1 : Int64)), .second] [(.long (1 : Int64)), (.long (1 : Int64))])) _
        refine XS.ladd X73.here hx rfl (hb hby d8_36) rfl ?_
        refine XS.lstore X73.here hx rfl (hb hby d8_37) rfl (l' := #[rv a1, .val (.long (3 : Int64)), .second, iv p3, .val (.long (2 : Int64)), .second]) rfl ?_
        show Steps p.tables e below (T73.setTop (mkF m 39 #[rv a1, .val (.long (3 : Int64)), .second, iv p3, .val (.long (2 : Int64)), .second] [])) _
        refine XS.goto X73.here hx rfl (pc0 := 39) (pc' := 14) rfl (hb hby d8_39) (by decide) (by decide) ?_
        refine XS.lload X73.here hx rfl (hb hby d8_14) rfl  ?_
        show Steps p.tables e below (T73.setTop (mkF m 16 #[rv a1, .val (.long (3 : Int64)), .second, iv p3, .val (.long (2 : Int64)), .second] [(.long (2 : Int64))])) _
        refine XS.lloadN X73.here hx rfl (hb hby d8_16) rfl  ?_
        refine XS.lcmp X73.here hx rfl (hb hby d8_17) rfl ?_
        exact k)
      have R76 : ∀ t, Steps p.tables e below (T73.setTop (mkF m 18 #[rv a1, .val (.long (3 : Int64)), .second, iv p3, .val (.long (2 : Int64)), .second] [(.int (-1 : Int32))])) t → Steps p.tables e below (s₁.setTop f0) t := by have q := R75; rw [((by decide) : (lcmpW (2 : Int64) (3 : Int64)) = (-1 : Int32))] at q; exact q
      have R77 : ∀ t, Steps p.tables e below (T73.setTop (mkF m 23 #[rv a1, .val (.long (3 : Int64)), .second, iv p3, .val (.long (2 : Int64)), .second] [(.ref a1), (.ref a1)])) t → Steps p.tables e below (s₁.setTop f0) t := fun t k => R76 t (by
        show Steps p.tables e below (T73.setTop (mkF m 18 #[rv a1, .val (.long (3 : Int64)), .second, iv p3, .val (.long (2 : Int64)), .second] [(.int (-1 : Int32))])) _
        refine XS.ifNo X73.here hx rfl (hb hby d8_18) rfl ((if0 _ _).trans (tlt (by decide : (-1 : Int32) < (0 : Int32))).2.1) ?_
        refine XS.aloadN X73.here hx rfl (hb hby d8_21) rfl rfl ?_
        show Steps p.tables e below (T73.setTop (mkF m 22 #[rv a1, .val (.long (3 : Int64)), .second, iv p3, .val (.long (2 : Int64)), .second] [(.ref a1)])) _
        refine XS.dup X73.here hx rfl (hb hby d8_22) rfl rfl ?_
        exact k)
      obtain ⟨T78, X78, e78, st78⟩ := getF X73 hx hZ hown (host := "") (Or.inl (hw _ (List.mem_of_getElem? (i := 41) rfl))) Via.refl e73 fw73 (g := (mkF m 23 #[rv a1, .val (.long (3 : Int64)), .second, iv p3, .val (.long (2 : Int64)), .second] [(.ref a1), (.ref a1)])) rfl rfl (hb hby d8_23)
      have R79 : ∀ t, Steps p.tables e below (T78.setTop (mkF m 26 #[rv a1, .val (.long (3 : Int64)), .second, iv p3, .val (.long (2 : Int64)), .second] [(.long ((us * (10 : Int64)) * (10 : Int64))), (.ref a1)])) t → Steps p.tables e below (s₁.setTop f0) t := fun t k => R77 t (st78 t k)
      have R80 : ∀ t, Steps p.tables e below (T78.setTop (mkF m 30 #[rv a1, .val (.long (3 : Int64)), .second, iv p3, .val (.long (2 : Int64)), .second] [(.long (((us * (10 : Int64)) * (10 : Int64)) * (10 : Int64))), (.ref a1)])) t → Steps p.tables e below (s₁.setTop f0) t := fun t k => R79 t (by
        show Steps p.tables e below (T78.setTop (mkF m 26 #[rv a1, .val (.long (3 : Int64)), .second, iv p3, .val (.long (2 : Int64)), .second] [(.long ((us * (10 : Int64)) * (10 : Int64))), (.ref a1)])) _
        refine X78.ldc2Long hx hown (mvT hZ (hw _ (List.mem_of_getElem? (i := 72) rfl))) (g := (mkF m 26 #[rv a1, .val (.long (3 : Int64)), .second, iv p3, .val (.long (2 : Int64)), .second] [(.long ((us * (10 : Int64)) * (10 : Int64))), (.ref a1)])) rfl (hb hby d8_26) _ ?_
        refine XS.lmul X78.here hx rfl (hb hby d8_29) rfl ?_
        exact k)
      obtain ⟨T81, h81, X81, e81, W81, st81⟩ := putF X78 hx hZ hown (host := "") (Or.inl (hw _ (List.mem_of_getElem? (i := 41) rfl))) Via.refl e78 fw73 f73_E_a1 (Or.inl (hw _ (List.mem_of_getElem? (i := 42) rfl))) (hw _ (List.mem_of_getElem? (i := 6) rfl)) (ty := .long) (by decide) rfl rfl (g := (mkF m 30 #[rv a1, .val (.long (3 : Int64)), .second, iv p3, .val (.long (2 : Int64)), .second] [(.long (((us * (10 : Int64)) * (10 : Int64)) * (10 : Int64))), (.ref a1)])) rfl rfl (hb hby d8_30)
      have fw81 : Fld Z h81 a1 sN0 "unscaled" "J" (.long (((us * (10 : Int64)) * (10 : Int64)) * (10 : Int64))) := fw73.same W81
      have f81_E_a1 : Exa Z h81 a1 sN0 := f73_E_a1.wr W81
      have f81_F_integerOnly_a1 : Fld Z h81 a1 sN0 "integerOnly" "Z" (.int io) := f73_F_integerOnly_a1.other W81 (Or.inr (slot_ne (Or.inl (hw _ (List.mem_of_getElem? (i := 25) rfl))) (Or.inl (hw _ (List.mem_of_getElem? (i := 42) rfl))) (by decide) (t := .boolean) (t' := .long) (by decide) (by decide)))
      have f81_F_part_a1 : Fld Z h81 a1 sN0 "part" sN2 (.ref pt) := f73_F_part_a1.other W81 (Or.inr (slot_ne (Or.inl (hw _ (List.mem_of_getElem? (i := 30) rfl))) (Or.inl (hw _ (List.mem_of_getElem? (i := 42) rfl))) (by decide) (t := (.object sN1)) (t' := .long) (by decide) (by decide)))
      have f81_F_negative_a1 : Fld Z h81 a1 sN0 "negative" "Z" ng := f73_F_negative_a1.other W81 (Or.inr (slot_ne (Or.inl (hw _ (List.mem_of_getElem? (i := 32) rfl))) (Or.inl (hw _ (List.mem_of_getElem? (i := 42) rfl))) (by decide) (t := .boolean) (t' := .long) (by decide) (by decide)))
      have f81_F_digitRead_a1 : Fld Z h81 a1 sN0 "digitRead" "Z" (.int dr) := f73_F_digitRead_a1.other W81 (Or.inr (slot_ne (Or.inl (hw _ (List.mem_of_getElem? (i := 34) rfl))) (Or.inl (hw _ (List.mem_of_getElem? (i := 42) rfl))) (by decide) (t := .boolean) (t' := .long) (by decide) (by decide)))
      have f81_F_integerDigits_a1 : Fld Z h81 a1 sN0 "integerDigits" "J" (.long id) := f73_F_integerDigits_a1.other W81 (Or.inr (slot_ne (Or.inl (hw _ (List.mem_of_getElem? (i := 36) rfl))) (Or.inl (hw _ (List.mem_of_getElem? (i := 42) rfl))) (by decide) (t := .long) (t' := .long) (by decide) (by decide)))
      have f81_F_fractionDigits_a1 : Fld Z h81 a1 sN0 "fractionDigits" "J" (.long fd) := f73_F_fractionDigits_a1.other W81 (Or.inr (slot_ne (Or.inl (hw _ (List.mem_of_getElem? (i := 38) rfl))) (Or.inl (hw _ (List.mem_of_getElem? (i := 42) rfl))) (by decide) (t := .long) (t' := .long) (by decide) (by decide)))
      have f81_F_pendingZeros_a1 : Fld Z h81 a1 sN0 "pendingZeros" "J" (.long pz) := f73_F_pendingZeros_a1.other W81 (Or.inr (slot_ne (Or.inl (hw _ (List.mem_of_getElem? (i := 40) rfl))) (Or.inl (hw _ (List.mem_of_getElem? (i := 42) rfl))) (by decide) (t := .long) (t' := .long) (by decide) (by decide)))
      have z81 : n0 ≤ h81.size := by rw [W81.size]; exact z73
      have K81 : Keep h0 h81 [a1] := K73.wr W81 (Or.inl (List.mem_of_getElem? (i := 0) rfl))
      have N81 := Fr.snoc X81 N73 g_a1
      have R82 : ∀ t, Steps p.tables e below (T81.setTop (mkF m 33 #[rv a1, .val (.long (3 : Int64)), .second, iv p3, .val (.long (2 : Int64)), .second] [])) t → Steps p.tables e below (s₁.setTop f0) t := fun t k => R80 t (st81 t k)
      have R83 : ∀ t, Steps p.tables e below (T81.setTop (mkF m 18 #[rv a1, .val (.long (3 : Int64)), .second, iv p3, .val (.long (3 : Int64)), .second] [(.int (lcmpW (3 : Int64) (3 : Int64)))])) t → Steps p.tables e below (s₁.setTop f0) t := fun t k => R82 t (by
        show Steps p.tables e below (T81.setTop (mkF m 33 #[rv a1, .val (.long (3 : Int64)), .second, iv p3, .val (.long (2 : Int64)), .second] [])) _
        refine XS.lload X81.here hx rfl (hb hby d8_33) rfl  ?_
        refine XS.lconst X81.here hx rfl (hb hby d8_35) ?_
        show Steps p.tables e below (T81.setTop (mkF m 36 #[rv a1, .val (.long (3 : Int64)), .second, iv p3, .val (.long (2 : Int64)), .second] [(.long (1 : Int64)), (.long (2 : Int64))])) _
        refine XS.ladd X81.here hx rfl (hb hby d8_36) rfl ?_
        refine XS.lstore X81.here hx rfl (hb hby d8_37) rfl (l' := #[rv a1, .val (.long (3 : Int64)), .second, iv p3, .val (.long (3 : Int64)), .second]) rfl ?_
        show Steps p.tables e below (T81.setTop (mkF m 39 #[rv a1, .val (.long (3 : Int64)), .second, iv p3, .val (.long (3 : Int64)), .second] [])) _
        refine XS.goto X81.here hx rfl (pc0 := 39) (pc' := 14) rfl (hb hby d8_39) (by decide) (by decide) ?_
        refine XS.lload X81.here hx rfl (hb hby d8_14) rfl  ?_
        show Steps p.tables e below (T81.setTop (mkF m 16 #[rv a1, .val (.long (3 : Int64)), .second, iv p3, .val (.long (3 : Int64)), .second] [(.long (3 : Int64))])) _
        refine XS.lloadN X81.here hx rfl (hb hby d8_16) rfl  ?_
        refine XS.lcmp X81.here hx rfl (hb hby d8_17) rfl ?_
        exact k)
      have R84 : ∀ t, Steps p.tables e below (T81.setTop (mkF m 18 #[rv a1, .val (.long (3 : Int64)), .second, iv p3, .val (.long (3 : Int64)), .second] [(.int (0 : Int32))])) t → Steps p.tables e below (s₁.setTop f0) t := by have q := R83; rw [((by decide) : (lcmpW (3 : Int64) (3 : Int64)) = (0 : Int32))] at q; exact q
      have R85 : ∀ t, Steps p.tables e below (T81.setTop (mkF m 44 #[rv a1, .val (.long (3 : Int64)), .second, iv p3, .val (.long (3 : Int64)), .second] [(.ref a1), (.ref a1)])) t → Steps p.tables e below (s₁.setTop f0) t := fun t k => R84 t (by
        show Steps p.tables e below (T81.setTop (mkF m 18 #[rv a1, .val (.long (3 : Int64)), .second, iv p3, .val (.long (3 : Int64)), .second] [(.int (0 : Int32))])) _
        refine XS.ifYes X81.here hx rfl (pc0 := 18) (pc' := 42) rfl (hb hby d8_18) rfl ((if0 _ _).trans (flt (by decide : ¬ ((0 : Int32) < (0 : Int32)))).2.1) (by decide) (by decide) ?_
        refine XS.aloadN X81.here hx rfl (hb hby d8_42) rfl rfl ?_
        show Steps p.tables e below (T81.setTop (mkF m 43 #[rv a1, .val (.long (3 : Int64)), .second, iv p3, .val (.long (3 : Int64)), .second] [(.ref a1)])) _
        refine XS.aloadN X81.here hx rfl (hb hby d8_43) rfl rfl ?_
        exact k)
      obtain ⟨T86, X86, e86, st86⟩ := getF X81 hx hZ hown (host := "") (Or.inl (hw _ (List.mem_of_getElem? (i := 41) rfl))) Via.refl e81 fw81 (g := (mkF m 44 #[rv a1, .val (.long (3 : Int64)), .second, iv p3, .val (.long (3 : Int64)), .second] [(.ref a1), (.ref a1)])) rfl rfl (hb hby d8_44)
      have R87 : ∀ t, Steps p.tables e below (T86.setTop (mkF m 47 #[rv a1, .val (.long (3 : Int64)), .second, iv p3, .val (.long (3 : Int64)), .second] [(.long (((us * (10 : Int64)) * (10 : Int64)) * (10 : Int64))), (.ref a1)])) t → Steps p.tables e below (s₁.setTop f0) t := fun t k => R85 t (st86 t k)
      have R88 : ∀ t, Steps p.tables e below (T86.setTop (mkF m 54 #[rv a1, .val (.long (3 : Int64)), .second, iv p3, .val (.long (3 : Int64)), .second] [(.long (((((us * (10 : Int64)) * (10 : Int64)) * (10 : Int64)) * (10 : Int64)) + (p3.toInt64))), (.ref a1)])) t → Steps p.tables e below (s₁.setTop f0) t := fun t k => R87 t (by
        show Steps p.tables e below (T86.setTop (mkF m 47 #[rv a1, .val (.long (3 : Int64)), .second, iv p3, .val (.long (3 : Int64)), .second] [(.long (((us * (10 : Int64)) * (10 : Int64)) * (10 : Int64))), (.ref a1)])) _
        refine X86.ldc2Long hx hown (mvT hZ (hw _ (List.mem_of_getElem? (i := 72) rfl))) (g := (mkF m 47 #[rv a1, .val (.long (3 : Int64)), .second, iv p3, .val (.long (3 : Int64)), .second] [(.long (((us * (10 : Int64)) * (10 : Int64)) * (10 : Int64))), (.ref a1)])) rfl (hb hby d8_47) _ ?_
        refine XS.lmul X86.here hx rfl (hb hby d8_50) rfl ?_
        show Steps p.tables e below (T86.setTop (mkF m 51 #[rv a1, .val (.long (3 : Int64)), .second, iv p3, .val (.long (3 : Int64)), .second] [(.long ((((us * (10 : Int64)) * (10 : Int64)) * (10 : Int64)) * (10 : Int64))), (.ref a1)])) _
        refine XS.iloadN X86.here hx rfl (hb hby d8_51) rfl  ?_
        refine XS.i2l X86.here hx rfl (hb hby d8_52) rfl ?_
        show Steps p.tables e below (T86.setTop (mkF m 53 #[rv a1, .val (.long (3 : Int64)), .second, iv p3, .val (.long (3 : Int64)), .second] [(.long (p3.toInt64)), (.long ((((us * (10 : Int64)) * (10 : Int64)) * (10 : Int64)) * (10 : Int64))), (.ref a1)])) _
        refine XS.ladd X86.here hx rfl (hb hby d8_53) rfl ?_
        exact k)
      obtain ⟨T89, h89, X89, e89, W89, st89⟩ := putF X86 hx hZ hown (host := "") (Or.inl (hw _ (List.mem_of_getElem? (i := 41) rfl))) Via.refl e86 fw81 f81_E_a1 (Or.inl (hw _ (List.mem_of_getElem? (i := 42) rfl))) (hw _ (List.mem_of_getElem? (i := 6) rfl)) (ty := .long) (by decide) rfl rfl (g := (mkF m 54 #[rv a1, .val (.long (3 : Int64)), .second, iv p3, .val (.long (3 : Int64)), .second] [(.long (((((us * (10 : Int64)) * (10 : Int64)) * (10 : Int64)) * (10 : Int64)) + (p3.toInt64))), (.ref a1)])) rfl rfl (hb hby d8_54)
      have fw89 : Fld Z h89 a1 sN0 "unscaled" "J" (.long (((((us * (10 : Int64)) * (10 : Int64)) * (10 : Int64)) * (10 : Int64)) + (p3.toInt64))) := fw81.same W89
      have f89_E_a1 : Exa Z h89 a1 sN0 := f81_E_a1.wr W89
      have f89_F_integerOnly_a1 : Fld Z h89 a1 sN0 "integerOnly" "Z" (.int io) := f81_F_integerOnly_a1.other W89 (Or.inr (slot_ne (Or.inl (hw _ (List.mem_of_getElem? (i := 25) rfl))) (Or.inl (hw _ (List.mem_of_getElem? (i := 42) rfl))) (by decide) (t := .boolean) (t' := .long) (by decide) (by decide)))
      have f89_F_part_a1 : Fld Z h89 a1 sN0 "part" sN2 (.ref pt) := f81_F_part_a1.other W89 (Or.inr (slot_ne (Or.inl (hw _ (List.mem_of_getElem? (i := 30) rfl))) (Or.inl (hw _ (List.mem_of_getElem? (i := 42) rfl))) (by decide) (t := (.object sN1)) (t' := .long) (by decide) (by decide)))
      have f89_F_negative_a1 : Fld Z h89 a1 sN0 "negative" "Z" ng := f81_F_negative_a1.other W89 (Or.inr (slot_ne (Or.inl (hw _ (List.mem_of_getElem? (i := 32) rfl))) (Or.inl (hw _ (List.mem_of_getElem? (i := 42) rfl))) (by decide) (t := .boolean) (t' := .long) (by decide) (by decide)))
      have f89_F_digitRead_a1 : Fld Z h89 a1 sN0 "digitRead" "Z" (.int dr) := f81_F_digitRead_a1.other W89 (Or.inr (slot_ne (Or.inl (hw _ (List.mem_of_getElem? (i := 34) rfl))) (Or.inl (hw _ (List.mem_of_getElem? (i := 42) rfl))) (by decide) (t := .boolean) (t' := .long) (by decide) (by decide)))
      have f89_F_integerDigits_a1 : Fld Z h89 a1 sN0 "integerDigits" "J" (.long id) := f81_F_integerDigits_a1.other W89 (Or.inr (slot_ne (Or.inl (hw _ (List.mem_of_getElem? (i := 36) rfl))) (Or.inl (hw _ (List.mem_of_getElem? (i := 42) rfl))) (by decide) (t := .long) (t' := .long) (by decide) (by decide)))
      have f89_F_fractionDigits_a1 : Fld Z h89 a1 sN0 "fractionDigits" "J" (.long fd) := f81_F_fractionDigits_a1.other W89 (Or.inr (slot_ne (Or.inl (hw _ (List.mem_of_getElem? (i := 38) rfl))) (Or.inl (hw _ (List.mem_of_getElem? (i := 42) rfl))) (by decide) (t := .long) (t' := .long) (by decide) (by decide)))
      have f89_F_pendingZeros_a1 : Fld Z h89 a1 sN0 "pendingZeros" "J" (.long pz) := f81_F_pendingZeros_a1.other W89 (Or.inr (slot_ne (Or.inl (hw _ (List.mem_of_getElem? (i := 40) rfl))) (Or.inl (hw _ (List.mem_of_getElem? (i := 42) rfl))) (by decide) (t := .long) (t' := .long) (by decide) (by decide)))
      have z89 : n0 ≤ h89.size := by rw [W89.size]; exact z81
      have K89 : Keep h0 h89 [a1] := K81.wr W89 (Or.inl (List.mem_of_getElem? (i := 0) rfl))
      have N89 := Fr.snoc X89 N81 g_a1
      have R90 : ∀ t, Steps p.tables e below (T89.setTop (mkF m 57 #[rv a1, .val (.long (3 : Int64)), .second, iv p3, .val (.long (3 : Int64)), .second] [])) t → Steps p.tables e below (s₁.setTop f0) t := fun t k => R88 t (st89 t k)
      obtain ⟨fs, hr, hrun, hended, hW, hsame⟩ := X89.leave (v := none) (fun _ => rfl)
      refine ⟨_, _, pre0 _ (R90 _ ?_), hrun, hended, _, _, rfl, ?_, ⟨_, rfl⟩, hW, hsame.mono (by decide) (by decide)⟩
      · show Steps p.tables e below (T89.setTop (mkF m 57 #[rv a1, .val (.long (3 : Int64)), .second, iv p3, .val (.long (3 : Int64)), .second] [])) _
        exact X89.returnOut hx Bd.returns (hb hby d8_57) hr
      · show Q_rmApp Z a1 q2 p3 io pt ng dr id fd pz us h0 n0 _ T89.heap _
        rw [e89]
        exact ⟨(((((us * (10 : Int64)) * (10 : Int64)) * (10 : Int64)) * (10 : Int64)) + (p3.toInt64)), rfl, N89, K89, f89_F_integerOnly_a1, f89_F_part_a1, f89_F_negative_a1, f89_F_digitRead_a1, f89_F_integerDigits_a1, f89_F_fractionDigits_a1, f89_F_pendingZeros_a1, fw89⟩
theorem ef_rmDigitI (m : MethodId) (x0 : Addr) (x1 : Int32) : entryFrame m #[(.ref x0), (.int x1)] 2 = mkF m 0 #[rv x0, iv x1] [] := by first | (simp [entryFrame, mkF, argsToLocals, Value.category]; done) | rfl
def Q_rmDigitI (Z : State) (a1 : Addr) (p2 : Int32) (io : Int32) (ng : Value) (dr : Int32) (id : Int64) (fd : Int64) (pz : Int64) (us : Int64) (sI : Addr) (B : Int) (h0 : Heap) (n0 : Nat) (v : Option Value) (h : Heap) (L : List Loc) : Prop := ∃ id2 : Int64, ∃ fd2 : Int64, ∃ pz2 : Int64, ∃ us2 : Int64, v = none ∧ Fr n0 L ∧ Keep h0 h [a1] ∧ (Fld Z h a1 sN0 "integerOnly" "Z" (.int io)) ∧ (Fld Z h a1 sN0 "part" sN2 (.ref sI)) ∧ (Fld Z h a1 sN0 "negative" "Z" ng) ∧ (Fld Z h a1 sN0 "digitRead" "Z" (.int dr)) ∧ (Fld Z h a1 sN0 "integerDigits" "J" (.long id2)) ∧ (Fld Z h a1 sN0 "fractionDigits" "J" (.long fd2)) ∧ (Fld Z h a1 sN0 "pendingZeros" "J" (.long pz2)) ∧ (Fld Z h a1 sN0 "unscaled" "J" (.long us2)) ∧ (0 ≤ pz2.toInt ∧ pz2.toInt ≤ B + 1)
set_option maxRecDepth 65536 in
set_option maxHeartbeats 40000000 in
theorem rmDigitI (l : Launch) (Z : State) (a0 : Array Value) (hw : ∀ d ∈ tables_1, d.before a0 Z = true) (ws : List Jvm.Cond) (a1 : Addr) (p2 : Int32) (io : Int32) (ng : Value) (dr : Int32) (id : Int64) (fd : Int64) (pz : Int64) (us : Int64) (sI : Addr) (B : Int) (h0 : Heap) (n0 : Nat) (Z0 : n0 ≤ h0.size) (E_a1 : Exa Z h0 a1 sN0) (g_a1 : n0 ≤ a1) (S_NumberText_Part_INTEGER : Sta Z h0 sN1 "INTEGER" sN2 (.ref sI)) (hB : B ≤ 3) (hz : 0 ≤ pz.toInt ∧ pz.toInt ≤ B) (F_integerOnly_a1 : Fld Z h0 a1 sN0 "integerOnly" "Z" (.int io)) (F_part_a1 : Fld Z h0 a1 sN0 "part" sN2 (.ref sI)) (F_negative_a1 : Fld Z h0 a1 sN0 "negative" "Z" ng) (F_digitRead_a1 : Fld Z h0 a1 sN0 "digitRead" "Z" (.int dr)) (F_integerDigits_a1 : Fld Z h0 a1 sN0 "integerDigits" "J" (.long id)) (F_fractionDigits_a1 : Fld Z h0 a1 sN0 "fractionDigits" "J" (.long fd)) (F_pendingZeros_a1 : Fld Z h0 a1 sN0 "pendingZeros" "J" (.long pz)) (F_unscaled_a1 : Fld Z h0 a1 sN0 "unscaled" "J" (.long us)) :
    MetFree l (⟨sN0, "digit", "(I)V"⟩ : MethodName) (head1 (Jvm.Cond.code (⟨sN0, "digit", "(I)V"⟩ : MethodName) prog_10_method_4_code 2 none :: ws) ({ frames := 2, cells := 0, slots := 0, locals := 29 } : Room)) (fun a U => a = #[(.ref a1), (.int p2)] ∧ Z.Warmed39 U.vm ∧ U.heap = h0) (fun _ _ _ _ _ => True) (fun _ U o U' => ∃ v L, o = .returned v ∧ Q_rmDigitI Z a1 p2 io ng dr id fd pz us sI B h0 n0 v U'.heap L ∧ FrameEnd U o U' L ({ frames := 2, cells := 0, slots := 0, locals := 29 } : Room).cells ({ frames := 2, cells := 0, slots := 0, locals := 29 } : Room).slots) := by
  refine MetFree.of_bodySF (plainFor_of_name pn_0) hisR ?_
  intro p e s m args below meth c s₁ Bd hml0 hP hK
  obtain ⟨rfl, hZ, hh⟩ := hP
  have hx := Bd.exec
  have hby := Bd.bytes
  have hml : c.maxLocals = 2 := hml0
  have hown : s.vm.findClass sN0 = some m.cls := findClass_of_methodNamed Bd.named
  have hnm := (name_of_methodNamed Bd.named Bd.method).1
  have X0 : Stand p l e ({ frames := 2, cells := 0, slots := 0, locals := 29 } : Room) s m #[(.ref a1), (.int p2)] below meth c s₁ [] 0 0 := Stand.of_body Bd
  have e0 : s₁.heap = h0 := by rw [← hh, Bd.state]; rfl
  have N0 := Fr.nil n0
  obtain ⟨f0, hf0⟩ : ∃ f : JFrame, f = mkF m 0 #[rv a1, iv p2] [] := ⟨_, rfl⟩
  have pre0 : ∀ t, Steps p.tables e below (s₁.setTop f0) t → Steps p.tables e below (s₁.setTop (entryFrame m #[(.ref a1), (.int p2)] 2)) t := fun t k => castTop ((ef_rmDigitI m a1 p2).trans hf0.symm) k
  have R0 : ∀ t, Steps p.tables e below (s₁.setTop (mkF m 0 #[rv a1, iv p2] [])) t → Steps p.tables e below (s₁.setTop f0) t := by rw [hf0]; exact fun t k => k
  have R1 : ∀ t, Steps p.tables e below (s₁.setTop (mkF m 1 #[rv a1, iv p2] [(.ref a1)])) t → Steps p.tables e below (s₁.setTop f0) t := fun t k => R0 t (by
    show Steps p.tables e below (s₁.setTop (mkF m 0 #[rv a1, iv p2] [])) _
    refine XS.aloadN X0.here hx rfl (hb hby d7_0) rfl rfl ?_
    exact k)
  obtain ⟨T2, X2, e2, st2⟩ := getF X0 hx hZ hown (host := "") (Or.inl (hw _ (List.mem_of_getElem? (i := 29) rfl))) Via.refl e0 F_part_a1 (g := (mkF m 1 #[rv a1, iv p2] [(.ref a1)])) rfl rfl (hb hby d7_1)
  have R3 : ∀ t, Steps p.tables e below (T2.setTop (mkF m 4 #[rv a1, iv p2] [(.ref sI)])) t → Steps p.tables e below (s₁.setTop f0) t := fun t k => R1 t (st2 t k)
  obtain ⟨T4, X4, e4, st4⟩ := getS2 X2 hx hZ hown (host := "") (Or.inl (hw _ (List.mem_of_getElem? (i := 56) rfl))) Via.refl e2 S_NumberText_Part_INTEGER (g := (mkF m 4 #[rv a1, iv p2] [(.ref sI)])) rfl (hb hby d7_4)
  have R5 : ∀ t, Steps p.tables e below (T4.setTop (mkF m 7 #[rv a1, iv p2] [(.ref sI), (.ref sI)])) t → Steps p.tables e below (s₁.setTop f0) t := fun t k => R3 t (st4 t k)
  have R6 : ∀ t, Steps p.tables e below (T4.setTop (mkF m 11 #[rv a1, iv p2] [(.ref a1)])) t → Steps p.tables e below (s₁.setTop f0) t := fun t k => R5 t (by
    show Steps p.tables e below (T4.setTop (mkF m 7 #[rv a1, iv p2] [(.ref sI), (.ref sI)])) _
    refine Jvm.RoadKit.acmp (g := (mkF m 7 #[rv a1, iv p2] [(.ref sI), (.ref sI)])) X4 hx rfl rfl rfl (pc0 := 7) (pc' := 10) (same := true) rfl (hb hby d7_7) rfl (decide_eq_true rfl) (by decide) (by decide) ?_
    refine XS.aloadN X4.here hx rfl (hb hby d7_10) rfl rfl ?_
    exact k)
  obtain ⟨T7, X7, e7, st7⟩ := getF X4 hx hZ hown (host := "") (Or.inl (hw _ (List.mem_of_getElem? (i := 35) rfl))) Via.refl e4 F_integerDigits_a1 (g := (mkF m 11 #[rv a1, iv p2] [(.ref a1)])) rfl rfl (hb hby d7_11)
  have R8 : ∀ t, Steps p.tables e below (T7.setTop (mkF m 14 #[rv a1, iv p2] [(.long id)])) t → Steps p.tables e below (s₁.setTop f0) t := fun t k => R6 t (st7 t k)
  have R9 : ∀ t, Steps p.tables e below (T7.setTop (mkF m 16 #[rv a1, iv p2] [(.int (lcmpW id (0 : Int64)))])) t → Steps p.tables e below (s₁.setTop f0) t := fun t k => R8 t (by
    show Steps p.tables e below (T7.setTop (mkF m 14 #[rv a1, iv p2] [(.long id)])) _
    refine XS.lconst X7.here hx rfl (hb hby d7_14) ?_
    refine XS.lcmp X7.here hx rfl (hb hby d7_15) rfl ?_
    exact k)
  by_cases hs1 : (0 : Int32) < (lcmpW id (0 : Int64))
  · skip
    have R10 : ∀ t, Steps p.tables e below (T7.setTop (mkF m 25 #[rv a1, iv p2] [(.ref a1), (.ref a1)])) t → Steps p.tables e below (s₁.setTop f0) t := fun t k => R9 t (by
      show Steps p.tables e below (T7.setTop (mkF m 16 #[rv a1, iv p2] [(.int (lcmpW id (0 : Int64)))])) _
      refine XS.ifYes X7.here hx rfl (pc0 := 16) (pc' := 23) rfl (hb hby d7_16) rfl ((if0 _ _).trans (tlt hs1).2.2.1) (by decide) (by decide) ?_
      refine XS.aloadN X7.here hx rfl (hb hby d7_23) rfl rfl ?_
      show Steps p.tables e below (T7.setTop (mkF m 24 #[rv a1, iv p2] [(.ref a1)])) _
      refine XS.dup X7.here hx rfl (hb hby d7_24) rfl rfl ?_
      exact k)
    obtain ⟨T11, X11, e11, st11⟩ := getF X7 hx hZ hown (host := "") (Or.inl (hw _ (List.mem_of_getElem? (i := 35) rfl))) Via.refl e7 F_integerDigits_a1 (g := (mkF m 25 #[rv a1, iv p2] [(.ref a1), (.ref a1)])) rfl rfl (hb hby d7_25)
    have R12 : ∀ t, Steps p.tables e below (T11.setTop (mkF m 28 #[rv a1, iv p2] [(.long id), (.ref a1)])) t → Steps p.tables e below (s₁.setTop f0) t := fun t k => R10 t (st11 t k)
    have R13 : ∀ t, Steps p.tables e below (T11.setTop (mkF m 30 #[rv a1, iv p2] [(.long (id + (1 : Int64))), (.ref a1)])) t → Steps p.tables e below (s₁.setTop f0) t := fun t k => R12 t (by
      show Steps p.tables e below (T11.setTop (mkF m 28 #[rv a1, iv p2] [(.long id), (.ref a1)])) _
      refine XS.lconst X11.here hx rfl (hb hby d7_28) ?_
      refine XS.ladd X11.here hx rfl (hb hby d7_29) rfl ?_
      exact k)
    obtain ⟨T14, h14, X14, e14, W14, st14⟩ := putF X11 hx hZ hown (host := "") (Or.inl (hw _ (List.mem_of_getElem? (i := 35) rfl))) Via.refl e11 F_integerDigits_a1 E_a1 (Or.inl (hw _ (List.mem_of_getElem? (i := 36) rfl))) (hw _ (List.mem_of_getElem? (i := 6) rfl)) (ty := .long) (by decide) rfl rfl (g := (mkF m 30 #[rv a1, iv p2] [(.long (id + (1 : Int64))), (.ref a1)])) rfl rfl (hb hby d7_30)
    have fw14 : Fld Z h14 a1 sN0 "integerDigits" "J" (.long (id + (1 : Int64))) := F_integerDigits_a1.same W14
    have f14_E_a1 : Exa Z h14 a1 sN0 := E_a1.wr W14
    have f14_S_NumberText_Part_INTEGER : Sta Z h14 sN1 "INTEGER" sN2 (.ref sI) := S_NumberText_Part_INTEGER.wr W14
    have f14_F_integerOnly_a1 : Fld Z h14 a1 sN0 "integerOnly" "Z" (.int io) := F_integerOnly_a1.other W14 (Or.inr (slot_ne (Or.inl (hw _ (List.mem_of_getElem? (i := 25) rfl))) (Or.inl (hw _ (List.mem_of_getElem? (i := 36) rfl))) (by decide) (t := .boolean) (t' := .long) (by decide) (by decide)))
    have f14_F_part_a1 : Fld Z h14 a1 sN0 "part" sN2 (.ref sI) := F_part_a1.other W14 (Or.inr (slot_ne (Or.inl (hw _ (List.mem_of_getElem? (i := 30) rfl))) (Or.inl (hw _ (List.mem_of_getElem? (i := 36) rfl))) (by decide) (t := (.object sN1)) (t' := .long) (by decide) (by decide)))
    have f14_F_negative_a1 : Fld Z h14 a1 sN0 "negative" "Z" ng := F_negative_a1.other W14 (Or.inr (slot_ne (Or.inl (hw _ (List.mem_of_getElem? (i := 32) rfl))) (Or.inl (hw _ (List.mem_of_getElem? (i := 36) rfl))) (by decide) (t := .boolean) (t' := .long) (by decide) (by decide)))
    have f14_F_digitRead_a1 : Fld Z h14 a1 sN0 "digitRead" "Z" (.int dr) := F_digitRead_a1.other W14 (Or.inr (slot_ne (Or.inl (hw _ (List.mem_of_getElem? (i := 34) rfl))) (Or.inl (hw _ (List.mem_of_getElem? (i := 36) rfl))) (by decide) (t := .boolean) (t' := .long) (by decide) (by decide)))
    have f14_F_fractionDigits_a1 : Fld Z h14 a1 sN0 "fractionDigits" "J" (.long fd) := F_fractionDigits_a1.other W14 (Or.inr (slot_ne (Or.inl (hw _ (List.mem_of_getElem? (i := 38) rfl))) (Or.inl (hw _ (List.mem_of_getElem? (i := 36) rfl))) (by decide) (t := .long) (t' := .long) (by decide) (by decide)))
    have f14_F_pendingZeros_a1 : Fld Z h14 a1 sN0 "pendingZeros" "J" (.long pz) := F_pendingZeros_a1.other W14 (Or.inr (slot_ne (Or.inl (hw _ (List.mem_of_getElem? (i := 40) rfl))) (Or.inl (hw _ (List.mem_of_getElem? (i := 36) rfl))) (by decide) (t := .long) (t' := .long) (by decide) (by decide)))
    have f14_F_unscaled_a1 : Fld Z h14 a1 sN0 "unscaled" "J" (.long us) := F_unscaled_a1.other W14 (Or.inr (slot_ne (Or.inl (hw _ (List.mem_of_getElem? (i := 42) rfl))) (Or.inl (hw _ (List.mem_of_getElem? (i := 36) rfl))) (by decide) (t := .long) (t' := .long) (by decide) (by decide)))
    have z14 : n0 ≤ h14.size := by rw [W14.size]; exact Z0
    have K14 : Keep h0 h14 [a1] := (Keep.refl h0 [a1]).wr W14 (Or.inl (List.mem_of_getElem? (i := 0) rfl))
    have N14 := Fr.snoc X14 N0 g_a1
    have R15 : ∀ t, Steps p.tables e below (T14.setTop (mkF m 33 #[rv a1, iv p2] [])) t → Steps p.tables e below (s₁.setTop f0) t := fun t k => R13 t (st14 t k)
    have R16 : ∀ t, Steps p.tables e below (T14.setTop (mkF m 36 #[rv a1, iv p2] [(.int p2), (.long (0 : Int64)), (.ref a1)])) t → Steps p.tables e below (s₁.setTop f0) t := fun t k => R15 t (by
      show Steps p.tables e below (T14.setTop (mkF m 33 #[rv a1, iv p2] [])) _
      refine XS.aloadN X14.here hx rfl (hb hby d7_33) rfl rfl ?_
      refine XS.lconst X14.here hx rfl (hb hby d7_34) ?_
      show Steps p.tables e below (T14.setTop (mkF m 35 #[rv a1, iv p2] [(.long (0 : Int64)), (.ref a1)])) _
      refine XS.iloadN X14.here hx rfl (hb hby d7_35) rfl  ?_
      exact k)
    obtain ⟨cq17, q17, q17'⟩ := f14_E_a1.cell
    obtain ⟨_, _, ⟨T17, L17, k17, n17⟩, -, X17, ⟨Lc17, hQ17, l17, y17, z17⟩, st17⟩ := X14.privateBack hx (y := (⟨sN0, "append", "(JI)V"⟩ : MethodName)) hown (mvT hZ (hw _ (List.mem_of_getElem? (i := 62) rfl))) (mvT hZ (hw _ (List.mem_of_getElem? (i := 63) rfl))) (own_selp (w := (⟨sN0, "start", sN6⟩ : MethodName)) (mvT hZ (hw _ (List.mem_of_getElem? (i := 20) rfl))) rfl (Cond.privateMethod_at (mvP hZ (hw _ (List.mem_of_getElem? (i := 64) rfl)) (args := #[]))) (mvT hZ (hw _ (List.mem_of_getElem? (i := 63) rfl))) (by decide)) (Cond.privateMethod_at (mvP hZ (hw _ (List.mem_of_getElem? (i := 64) rfl)) (args := #[]))) (mvT hZ (hw _ (List.mem_of_getElem? (i := 65) rfl))) (by decide) (backOf (W := 0) (rmApp l Z a0 hw [] a1 (0 : Int64) p2 io sI ng dr (id + (1 : Int64)) fd pz us h14 n0 z14 f14_E_a1 g_a1 (Or.inl rfl) f14_F_integerOnly_a1 f14_F_part_a1 f14_F_negative_a1 f14_F_digitRead_a1 fw14 f14_F_fractionDigits_a1 f14_F_pendingZeros_a1 f14_F_unscaled_a1) hZ (hw _ (List.mem_of_getElem? (i := 65) rfl)) (hw _ (List.mem_of_getElem? (i := 7) rfl)) (by decide) (by decide)) (g := (mkF m 36 #[rv a1, iv p2] [(.int p2), (.long (0 : Int64)), (.ref a1)])) rfl (by rw [hml]; rfl) (Steps.refl _) (a := a1) (by rw [e14]; exact q17) q17' (argsL := [(.long (0 : Int64)), (.int p2)]) (rest := []) (lenOf pd_2 rfl) rfl (by show 2 * 0 + _ ≤ _; exact Nat.le_of_eq rfl) (hb hby d7_36) (fun _ _ => ⟨rfl, e14, (by decide : 0 + 0 ≤ _), (by decide : 0 + 0 ≤ _)⟩)
    dsimp only [Pt.U, Pt.locs, Pt.cells, Pt.slots] at X17 l17 y17 z17 st17 hQ17
    subst l17 y17 z17
    obtain ⟨us2_17, rfl, N17q, p17_0, p17_1, p17_2, p17_3, p17_4, p17_5, p17_6, p17_7, p17_8⟩ := hQ17
    have N17 := Fr.app N14 N17q
    have f17_E_a1 : Exa Z T17.heap a1 sN0 := f14_E_a1.keep p17_0
    have f17_S_NumberText_Part_INTEGER : Sta Z T17.heap sN1 "INTEGER" sN2 (.ref sI) := own_sta_keep f14_S_NumberText_Part_INTEGER p17_0 (nsS f14_E_a1.nostat ns0)
    have z17 : n0 ≤ T17.heap.size := Nat.le_trans z14 p17_0.1
    have K17 : Keep h0 T17.heap [a1] := K14.trans p17_0 (allS (Or.inl (List.mem_of_getElem? (i := 0) rfl)) all0)
    have R18 : ∀ t, Steps p.tables e below (T17.setTop (mkF m 39 #[rv a1, iv p2] [])) t → Steps p.tables e below (s₁.setTop f0) t := fun t k => R16 t (st17.trans k)
    have R19 : ∀ t, Steps p.tables e below (T17.setTop (mkF m 88 #[rv a1, iv p2] [])) t → Steps p.tables e below (s₁.setTop f0) t := fun t k => R18 t (by
      show Steps p.tables e below (T17.setTop (mkF m 39 #[rv a1, iv p2] [])) _
      refine XS.goto X17.here hx rfl (pc0 := 39) (pc' := 88) rfl (hb hby d7_39) (by decide) (by decide) ?_
      exact k)
    obtain ⟨fs, hr, hrun, hended, hW, hsame⟩ := X17.leave (v := none) (fun _ => rfl)
    refine ⟨_, _, pre0 _ (R19 _ ?_), hrun, hended, _, _, rfl, ?_, ⟨_, rfl⟩, hW, hsame.mono (by decide) (by decide)⟩
    · show Steps p.tables e below (T17.setTop (mkF m 88 #[rv a1, iv p2] [])) _
      exact X17.returnOut hx Bd.returns (hb hby d7_88) hr
    · show Q_rmDigitI Z a1 p2 io ng dr id fd pz us sI B h0 n0 _ T17.heap _
      exact ⟨(id + (1 : Int64)), fd, pz, us2_17, rfl, N17, K17, p17_1, p17_2, p17_3, p17_4, p17_5, p17_6, p17_7, p17_8, ⟨hz.1, by have := hz.2; omega⟩⟩
  · skip
    have R20 : ∀ t, Steps p.tables e below (T7.setTop (mkF m 20 #[rv a1, iv p2] [(.int p2)])) t → Steps p.tables e below (s₁.setTop f0) t := fun t k => R9 t (by
      show Steps p.tables e below (T7.setTop (mkF m 16 #[rv a1, iv p2] [(.int (lcmpW id (0 : Int64)))])) _
      refine XS.ifNo X7.here hx rfl (hb hby d7_16) rfl ((if0 _ _).trans (flt hs1).2.2.1) ?_
      refine XS.iloadN X7.here hx rfl (hb hby d7_19) rfl  ?_
      exact k)
    by_cases hs2 : p2 = (0 : Int32)
    · skip
      have R21 : ∀ t, Steps p.tables e below (T7.setTop (mkF m 88 #[rv a1, iv p2] [])) t → Steps p.tables e below (s₁.setTop f0) t := fun t k => R20 t (by
        show Steps p.tables e below (T7.setTop (mkF m 20 #[rv a1, iv p2] [(.int p2)])) _
        refine XS.ifYes X7.here hx rfl (pc0 := 20) (pc' := 88) rfl (hb hby d7_20) rfl ((if0 _ _).trans (teq hs2).1) (by decide) (by decide) ?_
        exact k)
      obtain ⟨fs, hr, hrun, hended, hW, hsame⟩ := X7.leave (v := none) (fun _ => rfl)
      refine ⟨_, _, pre0 _ (R21 _ ?_), hrun, hended, _, _, rfl, ?_, ⟨_, rfl⟩, hW, hsame.mono (by decide) (by decide)⟩
      · show Steps p.tables e below (T7.setTop (mkF m 88 #[rv a1, iv p2] [])) _
        exact X7.returnOut hx Bd.returns (hb hby d7_88) hr
      · show Q_rmDigitI Z a1 p2 io ng dr id fd pz us sI B h0 n0 _ T7.heap _
        rw [e7]
        exact ⟨id, fd, pz, us, rfl, N0, (Keep.refl h0 [a1]), F_integerOnly_a1, F_part_a1, F_negative_a1, F_digitRead_a1, F_integerDigits_a1, F_fractionDigits_a1, F_pendingZeros_a1, F_unscaled_a1, ⟨hz.1, by have := hz.2; omega⟩⟩
    · skip
      have R22 : ∀ t, Steps p.tables e below (T7.setTop (mkF m 25 #[rv a1, iv p2] [(.ref a1), (.ref a1)])) t → Steps p.tables e below (s₁.setTop f0) t := fun t k => R20 t (by
        show Steps p.tables e below (T7.setTop (mkF m 20 #[rv a1, iv p2] [(.int p2)])) _
        refine XS.ifNo X7.here hx rfl (hb hby d7_20) rfl ((if0 _ _).trans (feq hs2).1) ?_
        refine XS.aloadN X7.here hx rfl (hb hby d7_23) rfl rfl ?_
        show Steps p.tables e below (T7.setTop (mkF m 24 #[rv a1, iv p2] [(.ref a1)])) _
        refine XS.dup X7.here hx rfl (hb hby d7_24) rfl rfl ?_
        exact k)
      obtain ⟨T23, X23, e23, st23⟩ := getF X7 hx hZ hown (host := "") (Or.inl (hw _ (List.mem_of_getElem? (i := 35) rfl))) Via.refl e7 F_integerDigits_a1 (g := (mkF m 25 #[rv a1, iv p2] [(.ref a1), (.ref a1)])) rfl rfl (hb hby d7_25)
      have R24 : ∀ t, Steps p.tables e below (T23.setTop (mkF m 28 #[rv a1, iv p2] [(.long id), (.ref a1)])) t → Steps p.tables e below (s₁.setTop f0) t := fun t k => R22 t (st23 t k)
      have R25 : ∀ t, Steps p.tables e below (T23.setTop (mkF m 30 #[rv a1, iv p2] [(.long (id + (1 : Int64))), (.ref a1)])) t → Steps p.tables e below (s₁.setTop f0) t := fun t k => R24 t (by
        show Steps p.tables e below (T23.setTop (mkF m 28 #[rv a1, iv p2] [(.long id), (.ref a1)])) _
        refine XS.lconst X23.here hx rfl (hb hby d7_28) ?_
        refine XS.ladd X23.here hx rfl (hb hby d7_29) rfl ?_
        exact k)
      obtain ⟨T26, h26, X26, e26, W26, st26⟩ := putF X23 hx hZ hown (host := "") (Or.inl (hw _ (List.mem_of_getElem? (i := 35) rfl))) Via.refl e23 F_integerDigits_a1 E_a1 (Or.inl (hw _ (List.mem_of_getElem? (i := 36) rfl))) (hw _ (List.mem_of_getElem? (i := 6) rfl)) (ty := .long) (by decide) rfl rfl (g := (mkF m 30 #[rv a1, iv p2] [(.long (id + (1 : Int64))), (.ref a1)])) rfl rfl (hb hby d7_30)
      have fw26 : Fld Z h26 a1 sN0 "integerDigits" "J" (.long (id + (1 : Int64))) := F_integerDigits_a1.same W26
      have f26_E_a1 : Exa Z h26 a1 sN0 := E_a1.wr W26
      have f26_S_NumberText_Part_INTEGER : Sta Z h26 sN1 "INTEGER" sN2 (.ref sI) := S_NumberText_Part_INTEGER.wr W26
      have f26_F_integerOnly_a1 : Fld Z h26 a1 sN0 "integerOnly" "Z" (.int io) := F_integerOnly_a1.other W26 (Or.inr (slot_ne (Or.inl (hw _ (List.mem_of_getElem? (i := 25) rfl))) (Or.inl (hw _ (List.mem_of_getElem? (i := 36) rfl))) (by decide) (t := .boolean) (t' := .long) (by decide) (by decide)))
      have f26_F_part_a1 : Fld Z h26 a1 sN0 "part" sN2 (.ref sI) := F_part_a1.other W26 (Or.inr (slot_ne (Or.inl (hw _ (List.mem_of_getElem? (i := 30) rfl))) (Or.inl (hw _ (List.mem_of_getElem? (i := 36) rfl))) (by decide) (t := (.object sN1)) (t' := .long) (by decide) (by decide)))
      have f26_F_negative_a1 : Fld Z h26 a1 sN0 "negative" "Z" ng := F_negative_a1.other W26 (Or.inr (slot_ne (Or.inl (hw _ (List.mem_of_getElem? (i := 32) rfl))) (Or.inl (hw _ (List.mem_of_getElem? (i := 36) rfl))) (by decide) (t := .boolean) (t' := .long) (by decide) (by decide)))
      have f26_F_digitRead_a1 : Fld Z h26 a1 sN0 "digitRead" "Z" (.int dr) := F_digitRead_a1.other W26 (Or.inr (slot_ne (Or.inl (hw _ (List.mem_of_getElem? (i := 34) rfl))) (Or.inl (hw _ (List.mem_of_getElem? (i := 36) rfl))) (by decide) (t := .boolean) (t' := .long) (by decide) (by decide)))
      have f26_F_fractionDigits_a1 : Fld Z h26 a1 sN0 "fractionDigits" "J" (.long fd) := F_fractionDigits_a1.other W26 (Or.inr (slot_ne (Or.inl (hw _ (List.mem_of_getElem? (i := 38) rfl))) (Or.inl (hw _ (List.mem_of_getElem? (i := 36) rfl))) (by decide) (t := .long) (t' := .long) (by decide) (by decide)))
      have f26_F_pendingZeros_a1 : Fld Z h26 a1 sN0 "pendingZeros" "J" (.long pz) := F_pendingZeros_a1.other W26 (Or.inr (slot_ne (Or.inl (hw _ (List.mem_of_getElem? (i := 40) rfl))) (Or.inl (hw _ (List.mem_of_getElem? (i := 36) rfl))) (by decide) (t := .long) (t' := .long) (by decide) (by decide)))
      have f26_F_unscaled_a1 : Fld Z h26 a1 sN0 "unscaled" "J" (.long us) := F_unscaled_a1.other W26 (Or.inr (slot_ne (Or.inl (hw _ (List.mem_of_getElem? (i := 42) rfl))) (Or.inl (hw _ (List.mem_of_getElem? (i := 36) rfl))) (by decide) (t := .long) (t' := .long) (by decide) (by decide)))
      have z26 : n0 ≤ h26.size := by rw [W26.size]; exact Z0
      have K26 : Keep h0 h26 [a1] := (Keep.refl h0 [a1]).wr W26 (Or.inl (List.mem_of_getElem? (i := 0) rfl))
      have N26 := Fr.snoc X26 N0 g_a1
      have R27 : ∀ t, Steps p.tables e below (T26.setTop (mkF m 33 #[rv a1, iv p2] [])) t → Steps p.tables e below (s₁.setTop f0) t := fun t k => R25 t (st26 t k)
      have R28 : ∀ t, Steps p.tables e below (T26.setTop (mkF m 36 #[rv a1, iv p2] [(.int p2), (.long (0 : Int64)), (.ref a1)])) t → Steps p.tables e below (s₁.setTop f0) t := fun t k => R27 t (by
        show Steps p.tables e below (T26.setTop (mkF m 33 #[rv a1, iv p2] [])) _
        refine XS.aloadN X26.here hx rfl (hb hby d7_33) rfl rfl ?_
        refine XS.lconst X26.here hx rfl (hb hby d7_34) ?_
        show Steps p.tables e below (T26.setTop (mkF m 35 #[rv a1, iv p2] [(.long (0 : Int64)), (.ref a1)])) _
        refine XS.iloadN X26.here hx rfl (hb hby d7_35) rfl  ?_
        exact k)
      obtain ⟨cq29, q29, q29'⟩ := f26_E_a1.cell
      obtain ⟨_, _, ⟨T29, L29, k29, n29⟩, -, X29, ⟨Lc29, hQ29, l29, y29, z29⟩, st29⟩ := X26.privateBack hx (y := (⟨sN0, "append", "(JI)V"⟩ : MethodName)) hown (mvT hZ (hw _ (List.mem_of_getElem? (i := 62) rfl))) (mvT hZ (hw _ (List.mem_of_getElem? (i := 63) rfl))) (own_selp (w := (⟨sN0, "start", sN6⟩ : MethodName)) (mvT hZ (hw _ (List.mem_of_getElem? (i := 20) rfl))) rfl (Cond.privateMethod_at (mvP hZ (hw _ (List.mem_of_getElem? (i := 64) rfl)) (args := #[]))) (mvT hZ (hw _ (List.mem_of_getElem? (i := 63) rfl))) (by decide)) (Cond.privateMethod_at (mvP hZ (hw _ (List.mem_of_getElem? (i := 64) rfl)) (args := #[]))) (mvT hZ (hw _ (List.mem_of_getElem? (i := 65) rfl))) (by decide) (backOf (W := 0) (rmApp l Z a0 hw [] a1 (0 : Int64) p2 io sI ng dr (id + (1 : Int64)) fd pz us h26 n0 z26 f26_E_a1 g_a1 (Or.inl rfl) f26_F_integerOnly_a1 f26_F_part_a1 f26_F_negative_a1 f26_F_digitRead_a1 fw26 f26_F_fractionDigits_a1 f26_F_pendingZeros_a1 f26_F_unscaled_a1) hZ (hw _ (List.mem_of_getElem? (i := 65) rfl)) (hw _ (List.mem_of_getElem? (i := 7) rfl)) (by decide) (by decide)) (g := (mkF m 36 #[rv a1, iv p2] [(.int p2), (.long (0 : Int64)), (.ref a1)])) rfl (by rw [hml]; rfl) (Steps.refl _) (a := a1) (by rw [e26]; exact q29) q29' (argsL := [(.long (0 : Int64)), (.int p2)]) (rest := []) (lenOf pd_2 rfl) rfl (by show 2 * 0 + _ ≤ _; exact Nat.le_of_eq rfl) (hb hby d7_36) (fun _ _ => ⟨rfl, e26, (by decide : 0 + 0 ≤ _), (by decide : 0 + 0 ≤ _)⟩)
      dsimp only [Pt.U, Pt.locs, Pt.cells, Pt.slots] at X29 l29 y29 z29 st29 hQ29
      subst l29 y29 z29
      obtain ⟨us2_29, rfl, N29q, p29_0, p29_1, p29_2, p29_3, p29_4, p29_5, p29_6, p29_7, p29_8⟩ := hQ29
      have N29 := Fr.app N26 N29q
      have f29_E_a1 : Exa Z T29.heap a1 sN0 := f26_E_a1.keep p29_0
      have f29_S_NumberText_Part_INTEGER : Sta Z T29.heap sN1 "INTEGER" sN2 (.ref sI) := own_sta_keep f26_S_NumberText_Part_INTEGER p29_0 (nsS f26_E_a1.nostat ns0)
      have z29 : n0 ≤ T29.heap.size := Nat.le_trans z26 p29_0.1
      have K29 : Keep h0 T29.heap [a1] := K26.trans p29_0 (allS (Or.inl (List.mem_of_getElem? (i := 0) rfl)) all0)
      have R30 : ∀ t, Steps p.tables e below (T29.setTop (mkF m 39 #[rv a1, iv p2] [])) t → Steps p.tables e below (s₁.setTop f0) t := fun t k => R28 t (st29.trans k)
      have R31 : ∀ t, Steps p.tables e below (T29.setTop (mkF m 88 #[rv a1, iv p2] [])) t → Steps p.tables e below (s₁.setTop f0) t := fun t k => R30 t (by
        show Steps p.tables e below (T29.setTop (mkF m 39 #[rv a1, iv p2] [])) _
        refine XS.goto X29.here hx rfl (pc0 := 39) (pc' := 88) rfl (hb hby d7_39) (by decide) (by decide) ?_
        exact k)
      obtain ⟨fs, hr, hrun, hended, hW, hsame⟩ := X29.leave (v := none) (fun _ => rfl)
      refine ⟨_, _, pre0 _ (R31 _ ?_), hrun, hended, _, _, rfl, ?_, ⟨_, rfl⟩, hW, hsame.mono (by decide) (by decide)⟩
      · show Steps p.tables e below (T29.setTop (mkF m 88 #[rv a1, iv p2] [])) _
        exact X29.returnOut hx Bd.returns (hb hby d7_88) hr
      · show Q_rmDigitI Z a1 p2 io ng dr id fd pz us sI B h0 n0 _ T29.heap _
        exact ⟨(id + (1 : Int64)), fd, pz, us2_29, rfl, N29, K29, p29_1, p29_2, p29_3, p29_4, p29_5, p29_6, p29_7, p29_8, ⟨hz.1, by have := hz.2; omega⟩⟩
theorem ef_rmDigitF (m : MethodId) (x0 : Addr) (x1 : Int32) : entryFrame m #[(.ref x0), (.int x1)] 2 = mkF m 0 #[rv x0, iv x1] [] := by first | (simp [entryFrame, mkF, argsToLocals, Value.category]; done) | rfl
def Q_rmDigitF (Z : State) (a1 : Addr) (p2 : Int32) (io : Int32) (ng : Value) (dr : Int32) (id : Int64) (fd : Int64) (pz : Int64) (us : Int64) (sI : Addr) (sF : Addr) (B : Int) (h0 : Heap) (n0 : Nat) (v : Option Value) (h : Heap) (L : List Loc) : Prop := ∃ id2 : Int64, ∃ fd2 : Int64, ∃ pz2 : Int64, ∃ us2 : Int64, v = none ∧ Fr n0 L ∧ Keep h0 h [a1] ∧ (Fld Z h a1 sN0 "integerOnly" "Z" (.int io)) ∧ (Fld Z h a1 sN0 "part" sN2 (.ref sF)) ∧ (Fld Z h a1 sN0 "negative" "Z" ng) ∧ (Fld Z h a1 sN0 "digitRead" "Z" (.int dr)) ∧ (Fld Z h a1 sN0 "integerDigits" "J" (.long id2)) ∧ (Fld Z h a1 sN0 "fractionDigits" "J" (.long fd2)) ∧ (Fld Z h a1 sN0 "pendingZeros" "J" (.long pz2)) ∧ (Fld Z h a1 sN0 "unscaled" "J" (.long us2)) ∧ (0 ≤ pz2.toInt ∧ pz2.toInt ≤ B + 1)
set_option maxRecDepth 65536 in
set_option maxHeartbeats 40000000 in
theorem rmDigitF (l : Launch) (Z : State) (a0 : Array Value) (hw : ∀ d ∈ tables_1, d.before a0 Z = true) (ws : List Jvm.Cond) (a1 : Addr) (p2 : Int32) (io : Int32) (ng : Value) (dr : Int32) (id : Int64) (fd : Int64) (pz : Int64) (us : Int64) (sI : Addr) (sF : Addr) (B : Int) (h0 : Heap) (n0 : Nat) (Z0 : n0 ≤ h0.size) (E_a1 : Exa Z h0 a1 sN0) (g_a1 : n0 ≤ a1) (S_NumberText_Part_INTEGER : Sta Z h0 sN1 "INTEGER" sN2 (.ref sI)) (hB : B ≤ 3) (hz : 0 ≤ pz.toInt ∧ pz.toInt ≤ B) (ne_sI_sF : sI ≠ sF) (F_integerOnly_a1 : Fld Z h0 a1 sN0 "integerOnly" "Z" (.int io)) (F_part_a1 : Fld Z h0 a1 sN0 "part" sN2 (.ref sF)) (F_negative_a1 : Fld Z h0 a1 sN0 "negative" "Z" ng) (F_digitRead_a1 : Fld Z h0 a1 sN0 "digitRead" "Z" (.int dr)) (F_integerDigits_a1 : Fld Z h0 a1 sN0 "integerDigits" "J" (.long id)) (F_fractionDigits_a1 : Fld Z h0 a1 sN0 "fractionDigits" "J" (.long fd)) (F_pendingZeros_a1 : Fld Z h0 a1 sN0 "pendingZeros" "J" (.long pz)) (F_unscaled_a1 : Fld Z h0 a1 sN0 "unscaled" "J" (.long us)) :
    MetFree l (⟨sN0, "digit", "(I)V"⟩ : MethodName) (head1 (Jvm.Cond.code (⟨sN0, "digit", "(I)V"⟩ : MethodName) prog_10_method_4_code 2 none :: ws) ({ frames := 2, cells := 0, slots := 0, locals := 29 } : Room)) (fun a U => a = #[(.ref a1), (.int p2)] ∧ Z.Warmed39 U.vm ∧ U.heap = h0) (fun _ _ _ _ _ => True) (fun _ U o U' => ∃ v L, o = .returned v ∧ Q_rmDigitF Z a1 p2 io ng dr id fd pz us sI sF B h0 n0 v U'.heap L ∧ FrameEnd U o U' L ({ frames := 2, cells := 0, slots := 0, locals := 29 } : Room).cells ({ frames := 2, cells := 0, slots := 0, locals := 29 } : Room).slots) := by
  refine MetFree.of_bodySF (plainFor_of_name pn_0) hisR ?_
  intro p e s m args below meth c s₁ Bd hml0 hP hK
  obtain ⟨rfl, hZ, hh⟩ := hP
  have hx := Bd.exec
  have hby := Bd.bytes
  have hml : c.maxLocals = 2 := hml0
  have hown : s.vm.findClass sN0 = some m.cls := findClass_of_methodNamed Bd.named
  have hnm := (name_of_methodNamed Bd.named Bd.method).1
  have X0 : Stand p l e ({ frames := 2, cells := 0, slots := 0, locals := 29 } : Room) s m #[(.ref a1), (.int p2)] below meth c s₁ [] 0 0 := Stand.of_body Bd
  have e0 : s₁.heap = h0 := by rw [← hh, Bd.state]; rfl
  have N0 := Fr.nil n0
  obtain ⟨f0, hf0⟩ : ∃ f : JFrame, f = mkF m 0 #[rv a1, iv p2] [] := ⟨_, rfl⟩
  have pre0 : ∀ t, Steps p.tables e below (s₁.setTop f0) t → Steps p.tables e below (s₁.setTop (entryFrame m #[(.ref a1), (.int p2)] 2)) t := fun t k => castTop ((ef_rmDigitF m a1 p2).trans hf0.symm) k
  have R0 : ∀ t, Steps p.tables e below (s₁.setTop (mkF m 0 #[rv a1, iv p2] [])) t → Steps p.tables e below (s₁.setTop f0) t := by rw [hf0]; exact fun t k => k
  have R1 : ∀ t, Steps p.tables e below (s₁.setTop (mkF m 1 #[rv a1, iv p2] [(.ref a1)])) t → Steps p.tables e below (s₁.setTop f0) t := fun t k => R0 t (by
    show Steps p.tables e below (s₁.setTop (mkF m 0 #[rv a1, iv p2] [])) _
    refine XS.aloadN X0.here hx rfl (hb hby d7_0) rfl rfl ?_
    exact k)
  obtain ⟨T2, X2, e2, st2⟩ := getF X0 hx hZ hown (host := "") (Or.inl (hw _ (List.mem_of_getElem? (i := 29) rfl))) Via.refl e0 F_part_a1 (g := (mkF m 1 #[rv a1, iv p2] [(.ref a1)])) rfl rfl (hb hby d7_1)
  have R3 : ∀ t, Steps p.tables e below (T2.setTop (mkF m 4 #[rv a1, iv p2] [(.ref sF)])) t → Steps p.tables e below (s₁.setTop f0) t := fun t k => R1 t (st2 t k)
  obtain ⟨T4, X4, e4, st4⟩ := getS2 X2 hx hZ hown (host := "") (Or.inl (hw _ (List.mem_of_getElem? (i := 56) rfl))) Via.refl e2 S_NumberText_Part_INTEGER (g := (mkF m 4 #[rv a1, iv p2] [(.ref sF)])) rfl (hb hby d7_4)
  have R5 : ∀ t, Steps p.tables e below (T4.setTop (mkF m 7 #[rv a1, iv p2] [(.ref sI), (.ref sF)])) t → Steps p.tables e below (s₁.setTop f0) t := fun t k => R3 t (st4 t k)
  have R6 : ∀ t, Steps p.tables e below (T4.setTop (mkF m 43 #[rv a1, iv p2] [(.int p2)])) t → Steps p.tables e below (s₁.setTop f0) t := fun t k => R5 t (by
    show Steps p.tables e below (T4.setTop (mkF m 7 #[rv a1, iv p2] [(.ref sI), (.ref sF)])) _
    refine Jvm.RoadKit.acmp (g := (mkF m 7 #[rv a1, iv p2] [(.ref sI), (.ref sF)])) X4 hx rfl rfl rfl (pc0 := 7) (pc' := 42) (same := false) rfl (hb hby d7_7) rfl (decide_eq_false fun q => (Ne.symm ne_sI_sF) (Value.ref.inj q)) (by decide) (by decide) ?_
    refine XS.iloadN X4.here hx rfl (hb hby d7_42) rfl  ?_
    exact k)
  by_cases hs1 : p2 = (0 : Int32)
  · skip
    have R7 : ∀ t, Steps p.tables e below (T4.setTop (mkF m 48 #[rv a1, iv p2] [(.ref a1), (.ref a1)])) t → Steps p.tables e below (s₁.setTop f0) t := fun t k => R6 t (by
      show Steps p.tables e below (T4.setTop (mkF m 43 #[rv a1, iv p2] [(.int p2)])) _
      refine XS.ifNo X4.here hx rfl (hb hby d7_43) rfl ((if0 _ _).trans (teq hs1).2) ?_
      refine XS.aloadN X4.here hx rfl (hb hby d7_46) rfl rfl ?_
      show Steps p.tables e below (T4.setTop (mkF m 47 #[rv a1, iv p2] [(.ref a1)])) _
      refine XS.dup X4.here hx rfl (hb hby d7_47) rfl rfl ?_
      exact k)
    obtain ⟨T8, X8, e8, st8⟩ := getF X4 hx hZ hown (host := "") (Or.inl (hw _ (List.mem_of_getElem? (i := 39) rfl))) Via.refl e4 F_pendingZeros_a1 (g := (mkF m 48 #[rv a1, iv p2] [(.ref a1), (.ref a1)])) rfl rfl (hb hby d7_48)
    have R9 : ∀ t, Steps p.tables e below (T8.setTop (mkF m 51 #[rv a1, iv p2] [(.long pz), (.ref a1)])) t → Steps p.tables e below (s₁.setTop f0) t := fun t k => R7 t (st8 t k)
    have R10 : ∀ t, Steps p.tables e below (T8.setTop (mkF m 53 #[rv a1, iv p2] [(.long (pz + (1 : Int64))), (.ref a1)])) t → Steps p.tables e below (s₁.setTop f0) t := fun t k => R9 t (by
      show Steps p.tables e below (T8.setTop (mkF m 51 #[rv a1, iv p2] [(.long pz), (.ref a1)])) _
      refine XS.lconst X8.here hx rfl (hb hby d7_51) ?_
      refine XS.ladd X8.here hx rfl (hb hby d7_52) rfl ?_
      exact k)
    obtain ⟨T11, h11, X11, e11, W11, st11⟩ := putF X8 hx hZ hown (host := "") (Or.inl (hw _ (List.mem_of_getElem? (i := 39) rfl))) Via.refl e8 F_pendingZeros_a1 E_a1 (Or.inl (hw _ (List.mem_of_getElem? (i := 40) rfl))) (hw _ (List.mem_of_getElem? (i := 6) rfl)) (ty := .long) (by decide) rfl rfl (g := (mkF m 53 #[rv a1, iv p2] [(.long (pz + (1 : Int64))), (.ref a1)])) rfl rfl (hb hby d7_53)
    have fw11 : Fld Z h11 a1 sN0 "pendingZeros" "J" (.long (pz + (1 : Int64))) := F_pendingZeros_a1.same W11
    have f11_E_a1 : Exa Z h11 a1 sN0 := E_a1.wr W11
    have f11_S_NumberText_Part_INTEGER : Sta Z h11 sN1 "INTEGER" sN2 (.ref sI) := S_NumberText_Part_INTEGER.wr W11
    have f11_F_integerOnly_a1 : Fld Z h11 a1 sN0 "integerOnly" "Z" (.int io) := F_integerOnly_a1.other W11 (Or.inr (slot_ne (Or.inl (hw _ (List.mem_of_getElem? (i := 25) rfl))) (Or.inl (hw _ (List.mem_of_getElem? (i := 40) rfl))) (by decide) (t := .boolean) (t' := .long) (by decide) (by decide)))
    have f11_F_part_a1 : Fld Z h11 a1 sN0 "part" sN2 (.ref sF) := F_part_a1.other W11 (Or.inr (slot_ne (Or.inl (hw _ (List.mem_of_getElem? (i := 30) rfl))) (Or.inl (hw _ (List.mem_of_getElem? (i := 40) rfl))) (by decide) (t := (.object sN1)) (t' := .long) (by decide) (by decide)))
    have f11_F_negative_a1 : Fld Z h11 a1 sN0 "negative" "Z" ng := F_negative_a1.other W11 (Or.inr (slot_ne (Or.inl (hw _ (List.mem_of_getElem? (i := 32) rfl))) (Or.inl (hw _ (List.mem_of_getElem? (i := 40) rfl))) (by decide) (t := .boolean) (t' := .long) (by decide) (by decide)))
    have f11_F_digitRead_a1 : Fld Z h11 a1 sN0 "digitRead" "Z" (.int dr) := F_digitRead_a1.other W11 (Or.inr (slot_ne (Or.inl (hw _ (List.mem_of_getElem? (i := 34) rfl))) (Or.inl (hw _ (List.mem_of_getElem? (i := 40) rfl))) (by decide) (t := .boolean) (t' := .long) (by decide) (by decide)))
    have f11_F_integerDigits_a1 : Fld Z h11 a1 sN0 "integerDigits" "J" (.long id) := F_integerDigits_a1.other W11 (Or.inr (slot_ne (Or.inl (hw _ (List.mem_of_getElem? (i := 36) rfl))) (Or.inl (hw _ (List.mem_of_getElem? (i := 40) rfl))) (by decide) (t := .long) (t' := .long) (by decide) (by decide)))
    have f11_F_fractionDigits_a1 : Fld Z h11 a1 sN0 "fractionDigits" "J" (.long fd) := F_fractionDigits_a1.other W11 (Or.inr (slot_ne (Or.inl (hw _ (List.mem_of_getElem? (i := 38) rfl))) (Or.inl (hw _ (List.mem_of_getElem? (i := 40) rfl))) (by decide) (t := .long) (t' := .long) (by decide) (by decide)))
    have f11_F_unscaled_a1 : Fld Z h11 a1 sN0 "unscaled" "J" (.long us) := F_unscaled_a1.other W11 (Or.inr (slot_ne (Or.inl (hw _ (List.mem_of_getElem? (i := 42) rfl))) (Or.inl (hw _ (List.mem_of_getElem? (i := 40) rfl))) (by decide) (t := .long) (t' := .long) (by decide) (by decide)))
    have z11 : n0 ≤ h11.size := by rw [W11.size]; exact Z0
    have K11 : Keep h0 h11 [a1] := (Keep.refl h0 [a1]).wr W11 (Or.inl (List.mem_of_getElem? (i := 0) rfl))
    have N11 := Fr.snoc X11 N0 g_a1
    have R12 : ∀ t, Steps p.tables e below (T11.setTop (mkF m 56 #[rv a1, iv p2] [])) t → Steps p.tables e below (s₁.setTop f0) t := fun t k => R10 t (st11 t k)
    have R13 : ∀ t, Steps p.tables e below (T11.setTop (mkF m 88 #[rv a1, iv p2] [])) t → Steps p.tables e below (s₁.setTop f0) t := fun t k => R12 t (by
      show Steps p.tables e below (T11.setTop (mkF m 56 #[rv a1, iv p2] [])) _
      refine XS.goto X11.here hx rfl (pc0 := 56) (pc' := 88) rfl (hb hby d7_56) (by decide) (by decide) ?_
      exact k)
    obtain ⟨fs, hr, hrun, hended, hW, hsame⟩ := X11.leave (v := none) (fun _ => rfl)
    refine ⟨_, _, pre0 _ (R13 _ ?_), hrun, hended, _, _, rfl, ?_, ⟨_, rfl⟩, hW, hsame.mono (by decide) (by decide)⟩
    · show Steps p.tables e below (T11.setTop (mkF m 88 #[rv a1, iv p2] [])) _
      exact X11.returnOut hx Bd.returns (hb hby d7_88) hr
    · show Q_rmDigitF Z a1 p2 io ng dr id fd pz us sI sF B h0 n0 _ T11.heap _
      rw [e11]
      exact ⟨id, fd, (pz + (1 : Int64)), us, rfl, N11, K11, f11_F_integerOnly_a1, f11_F_part_a1, f11_F_negative_a1, f11_F_digitRead_a1, f11_F_integerDigits_a1, f11_F_fractionDigits_a1, fw11, f11_F_unscaled_a1, (own_pz1 hB hz)⟩
  · skip
    have R14 : ∀ t, Steps p.tables e below (T4.setTop (mkF m 61 #[rv a1, iv p2] [(.ref a1), (.ref a1)])) t → Steps p.tables e below (s₁.setTop f0) t := fun t k => R6 t (by
      show Steps p.tables e below (T4.setTop (mkF m 43 #[rv a1, iv p2] [(.int p2)])) _
      refine XS.ifYes X4.here hx rfl (pc0 := 43) (pc' := 59) rfl (hb hby d7_43) rfl ((if0 _ _).trans (feq hs1).2) (by decide) (by decide) ?_
      refine XS.aloadN X4.here hx rfl (hb hby d7_59) rfl rfl ?_
      show Steps p.tables e below (T4.setTop (mkF m 60 #[rv a1, iv p2] [(.ref a1)])) _
      refine XS.dup X4.here hx rfl (hb hby d7_60) rfl rfl ?_
      exact k)
    obtain ⟨T15, X15, e15, st15⟩ := getF X4 hx hZ hown (host := "") (Or.inl (hw _ (List.mem_of_getElem? (i := 37) rfl))) Via.refl e4 F_fractionDigits_a1 (g := (mkF m 61 #[rv a1, iv p2] [(.ref a1), (.ref a1)])) rfl rfl (hb hby d7_61)
    have R16 : ∀ t, Steps p.tables e below (T15.setTop (mkF m 64 #[rv a1, iv p2] [(.long fd), (.ref a1)])) t → Steps p.tables e below (s₁.setTop f0) t := fun t k => R14 t (st15 t k)
    have R17 : ∀ t, Steps p.tables e below (T15.setTop (mkF m 65 #[rv a1, iv p2] [(.ref a1), (.long fd), (.ref a1)])) t → Steps p.tables e below (s₁.setTop f0) t := fun t k => R16 t (by
      show Steps p.tables e below (T15.setTop (mkF m 64 #[rv a1, iv p2] [(.long fd), (.ref a1)])) _
      refine XS.aloadN X15.here hx rfl (hb hby d7_64) rfl rfl ?_
      exact k)
    obtain ⟨T18, X18, e18, st18⟩ := getF X15 hx hZ hown (host := "") (Or.inl (hw _ (List.mem_of_getElem? (i := 39) rfl))) Via.refl e15 F_pendingZeros_a1 (g := (mkF m 65 #[rv a1, iv p2] [(.ref a1), (.long fd), (.ref a1)])) rfl rfl (hb hby d7_65)
    have R19 : ∀ t, Steps p.tables e below (T18.setTop (mkF m 68 #[rv a1, iv p2] [(.long pz), (.long fd), (.ref a1)])) t → Steps p.tables e below (s₁.setTop f0) t := fun t k => R17 t (st18 t k)
    have R20 : ∀ t, Steps p.tables e below (T18.setTop (mkF m 71 #[rv a1, iv p2] [(.long (fd + (pz + (1 : Int64)))), (.ref a1)])) t → Steps p.tables e below (s₁.setTop f0) t := fun t k => R19 t (by
      show Steps p.tables e below (T18.setTop (mkF m 68 #[rv a1, iv p2] [(.long pz), (.long fd), (.ref a1)])) _
      refine XS.lconst X18.here hx rfl (hb hby d7_68) ?_
      refine XS.ladd X18.here hx rfl (hb hby d7_69) rfl ?_
      show Steps p.tables e below (T18.setTop (mkF m 70 #[rv a1, iv p2] [(.long (pz + (1 : Int64))), (.long fd), (.ref a1)])) _
      refine XS.ladd X18.here hx rfl (hb hby d7_70) rfl ?_
      exact k)
    obtain ⟨T21, h21, X21, e21, W21, st21⟩ := putF X18 hx hZ hown (host := "") (Or.inl (hw _ (List.mem_of_getElem? (i := 37) rfl))) Via.refl e18 F_fractionDigits_a1 E_a1 (Or.inl (hw _ (List.mem_of_getElem? (i := 38) rfl))) (hw _ (List.mem_of_getElem? (i := 6) rfl)) (ty := .long) (by decide) rfl rfl (g := (mkF m 71 #[rv a1, iv p2] [(.long (fd + (pz + (1 : Int64)))), (.ref a1)])) rfl rfl (hb hby d7_71)
    have fw21 : Fld Z h21 a1 sN0 "fractionDigits" "J" (.long (fd + (pz + (1 : Int64)))) := F_fractionDigits_a1.same W21
    have f21_E_a1 : Exa Z h21 a1 sN0 := E_a1.wr W21
    have f21_S_NumberText_Part_INTEGER : Sta Z h21 sN1 "INTEGER" sN2 (.ref sI) := S_NumberText_Part_INTEGER.wr W21
    have f21_F_integerOnly_a1 : Fld Z h21 a1 sN0 "integerOnly" "Z" (.int io) := F_integerOnly_a1.other W21 (Or.inr (slot_ne (Or.inl (hw _ (List.mem_of_getElem? (i := 25) rfl))) (Or.inl (hw _ (List.mem_of_getElem? (i := 38) rfl))) (by decide) (t := .boolean) (t' := .long) (by decide) (by decide)))
    have f21_F_part_a1 : Fld Z h21 a1 sN0 "part" sN2 (.ref sF) := F_part_a1.other W21 (Or.inr (slot_ne (Or.inl (hw _ (List.mem_of_getElem? (i := 30) rfl))) (Or.inl (hw _ (List.mem_of_getElem? (i := 38) rfl))) (by decide) (t := (.object sN1)) (t' := .long) (by decide) (by decide)))
    have f21_F_negative_a1 : Fld Z h21 a1 sN0 "negative" "Z" ng := F_negative_a1.other W21 (Or.inr (slot_ne (Or.inl (hw _ (List.mem_of_getElem? (i := 32) rfl))) (Or.inl (hw _ (List.mem_of_getElem? (i := 38) rfl))) (by decide) (t := .boolean) (t' := .long) (by decide) (by decide)))
    have f21_F_digitRead_a1 : Fld Z h21 a1 sN0 "digitRead" "Z" (.int dr) := F_digitRead_a1.other W21 (Or.inr (slot_ne (Or.inl (hw _ (List.mem_of_getElem? (i := 34) rfl))) (Or.inl (hw _ (List.mem_of_getElem? (i := 38) rfl))) (by decide) (t := .boolean) (t' := .long) (by decide) (by decide)))
    have f21_F_integerDigits_a1 : Fld Z h21 a1 sN0 "integerDigits" "J" (.long id) := F_integerDigits_a1.other W21 (Or.inr (slot_ne (Or.inl (hw _ (List.mem_of_getElem? (i := 36) rfl))) (Or.inl (hw _ (List.mem_of_getElem? (i := 38) rfl))) (by decide) (t := .long) (t' := .long) (by decide) (by decide)))
    have f21_F_pendingZeros_a1 : Fld Z h21 a1 sN0 "pendingZeros" "J" (.long pz) := F_pendingZeros_a1.other W21 (Or.inr (slot_ne (Or.inl (hw _ (List.mem_of_getElem? (i := 40) rfl))) (Or.inl (hw _ (List.mem_of_getElem? (i := 38) rfl))) (by decide) (t := .long) (t' := .long) (by decide) (by decide)))
    have f21_F_unscaled_a1 : Fld Z h21 a1 sN0 "unscaled" "J" (.long us) := F_unscaled_a1.other W21 (Or.inr (slot_ne (Or.inl (hw _ (List.mem_of_getElem? (i := 42) rfl))) (Or.inl (hw _ (List.mem_of_getElem? (i := 38) rfl))) (by decide) (t := .long) (t' := .long) (by decide) (by decide)))
    have z21 : n0 ≤ h21.size := by rw [W21.size]; exact Z0
    have K21 : Keep h0 h21 [a1] := (Keep.refl h0 [a1]).wr W21 (Or.inl (List.mem_of_getElem? (i := 0) rfl))
    have N21 := Fr.snoc X21 N0 g_a1
    have R22 : ∀ t, Steps p.tables e below (T21.setTop (mkF m 74 #[rv a1, iv p2] [])) t → Steps p.tables e below (s₁.setTop f0) t := fun t k => R20 t (st21 t k)
    have R23 : ∀ t, Steps p.tables e below (T21.setTop (mkF m 76 #[rv a1, iv p2] [(.ref a1), (.ref a1)])) t → Steps p.tables e below (s₁.setTop f0) t := fun t k => R22 t (by
      show Steps p.tables e below (T21.setTop (mkF m 74 #[rv a1, iv p2] [])) _
      refine XS.aloadN X21.here hx rfl (hb hby d7_74) rfl rfl ?_
      refine XS.aloadN X21.here hx rfl (hb hby d7_75) rfl rfl ?_
      exact k)
    obtain ⟨T24, X24, e24, st24⟩ := getF X21 hx hZ hown (host := "") (Or.inl (hw _ (List.mem_of_getElem? (i := 39) rfl))) Via.refl e21 f21_F_pendingZeros_a1 (g := (mkF m 76 #[rv a1, iv p2] [(.ref a1), (.ref a1)])) rfl rfl (hb hby d7_76)
    have R25 : ∀ t, Steps p.tables e below (T24.setTop (mkF m 79 #[rv a1, iv p2] [(.long pz), (.ref a1)])) t → Steps p.tables e below (s₁.setTop f0) t := fun t k => R23 t (st24 t k)
    have R26 : ∀ t, Steps p.tables e below (T24.setTop (mkF m 80 #[rv a1, iv p2] [(.int p2), (.long pz), (.ref a1)])) t → Steps p.tables e below (s₁.setTop f0) t := fun t k => R25 t (by
      show Steps p.tables e below (T24.setTop (mkF m 79 #[rv a1, iv p2] [(.long pz), (.ref a1)])) _
      refine XS.iloadN X24.here hx rfl (hb hby d7_79) rfl  ?_
      exact k)
    obtain ⟨cq27, q27, q27'⟩ := f21_E_a1.cell
    obtain ⟨_, _, ⟨T27, L27, k27, n27⟩, -, X27, ⟨Lc27, hQ27, l27, y27, z27⟩, st27⟩ := X24.privateBack hx (y := (⟨sN0, "append", "(JI)V"⟩ : MethodName)) hown (mvT hZ (hw _ (List.mem_of_getElem? (i := 62) rfl))) (mvT hZ (hw _ (List.mem_of_getElem? (i := 63) rfl))) (own_selp (w := (⟨sN0, "start", sN6⟩ : MethodName)) (mvT hZ (hw _ (List.mem_of_getElem? (i := 20) rfl))) rfl (Cond.privateMethod_at (mvP hZ (hw _ (List.mem_of_getElem? (i := 64) rfl)) (args := #[]))) (mvT hZ (hw _ (List.mem_of_getElem? (i := 63) rfl))) (by decide)) (Cond.privateMethod_at (mvP hZ (hw _ (List.mem_of_getElem? (i := 64) rfl)) (args := #[]))) (mvT hZ (hw _ (List.mem_of_getElem? (i := 65) rfl))) (by decide) (backOf (W := 0) (rmApp l Z a0 hw [] a1 pz p2 io sF ng dr id (fd + (pz + (1 : Int64))) pz us h21 n0 z21 f21_E_a1 g_a1 (own_q4 hB hz) f21_F_integerOnly_a1 f21_F_part_a1 f21_F_negative_a1 f21_F_digitRead_a1 f21_F_integerDigits_a1 fw21 f21_F_pendingZeros_a1 f21_F_unscaled_a1) hZ (hw _ (List.mem_of_getElem? (i := 65) rfl)) (hw _ (List.mem_of_getElem? (i := 7) rfl)) (by decide) (by decide)) (g := (mkF m 80 #[rv a1, iv p2] [(.int p2), (.long pz), (.ref a1)])) rfl (by rw [hml]; rfl) (Steps.refl _) (a := a1) (by rw [e24]; exact q27) q27' (argsL := [(.long pz), (.int p2)]) (rest := []) (lenOf pd_2 rfl) rfl (by show 2 * 0 + _ ≤ _; exact Nat.le_of_eq rfl) (hb hby d7_80) (fun _ _ => ⟨rfl, e24, (by decide : 0 + 0 ≤ _), (by decide : 0 + 0 ≤ _)⟩)
    dsimp only [Pt.U, Pt.locs, Pt.cells, Pt.slots] at X27 l27 y27 z27 st27 hQ27
    subst l27 y27 z27
    obtain ⟨us2_27, rfl, N27q, p27_0, p27_1, p27_2, p27_3, p27_4, p27_5, p27_6, p27_7, p27_8⟩ := hQ27
    have N27 := Fr.app N21 N27q
    have f27_E_a1 : Exa Z T27.heap a1 sN0 := f21_E_a1.keep p27_0
    have f27_S_NumberText_Part_INTEGER : Sta Z T27.heap sN1 "INTEGER" sN2 (.ref sI) := own_sta_keep f21_S_NumberText_Part_INTEGER p27_0 (nsS f21_E_a1.nostat ns0)
    have z27 : n0 ≤ T27.heap.size := Nat.le_trans z21 p27_0.1
    have K27 : Keep h0 T27.heap [a1] := K21.trans p27_0 (allS (Or.inl (List.mem_of_getElem? (i := 0) rfl)) all0)
    have R28 : ∀ t, Steps p.tables e below (T27.setTop (mkF m 83 #[rv a1, iv p2] [])) t → Steps p.tables e below (s₁.setTop f0) t := fun t k => R26 t (st27.trans k)
    have R29 : ∀ t, Steps p.tables e below (T27.setTop (mkF m 85 #[rv a1, iv p2] [(.long (0 : Int64)), (.ref a1)])) t → Steps p.tables e below (s₁.setTop f0) t := fun t k => R28 t (by
      show Steps p.tables e below (T27.setTop (mkF m 83 #[rv a1, iv p2] [])) _
      refine XS.aloadN X27.here hx rfl (hb hby d7_83) rfl rfl ?_
      refine XS.lconst X27.here hx rfl (hb hby d7_84) ?_
      exact k)
    obtain ⟨T30, h30, X30, e30, W30, st30⟩ := putF X27 hx hZ hown (host := "") (Or.inl (hw _ (List.mem_of_getElem? (i := 39) rfl))) Via.refl rfl p27_7 f27_E_a1 (Or.inl (hw _ (List.mem_of_getElem? (i := 40) rfl))) (hw _ (List.mem_of_getElem? (i := 6) rfl)) (ty := .long) (by decide) rfl rfl (g := (mkF m 85 #[rv a1, iv p2] [(.long (0 : Int64)), (.ref a1)])) rfl rfl (hb hby d7_85)
    have fw30 : Fld Z h30 a1 sN0 "pendingZeros" "J" (.long (0 : Int64)) := p27_7.same W30
    have f30_E_a1 : Exa Z h30 a1 sN0 := f27_E_a1.wr W30
    have f30_S_NumberText_Part_INTEGER : Sta Z h30 sN1 "INTEGER" sN2 (.ref sI) := f27_S_NumberText_Part_INTEGER.wr W30
    have f30_F_integerOnly_a1 : Fld Z h30 a1 sN0 "integerOnly" "Z" (.int io) := p27_1.other W30 (Or.inr (slot_ne (Or.inl (hw _ (List.mem_of_getElem? (i := 25) rfl))) (Or.inl (hw _ (List.mem_of_getElem? (i := 40) rfl))) (by decide) (t := .boolean) (t' := .long) (by decide) (by decide)))
    have f30_F_part_a1 : Fld Z h30 a1 sN0 "part" sN2 (.ref sF) := p27_2.other W30 (Or.inr (slot_ne (Or.inl (hw _ (List.mem_of_getElem? (i := 30) rfl))) (Or.inl (hw _ (List.mem_of_getElem? (i := 40) rfl))) (by decide) (t := (.object sN1)) (t' := .long) (by decide) (by decide)))
    have f30_F_negative_a1 : Fld Z h30 a1 sN0 "negative" "Z" ng := p27_3.other W30 (Or.inr (slot_ne (Or.inl (hw _ (List.mem_of_getElem? (i := 32) rfl))) (Or.inl (hw _ (List.mem_of_getElem? (i := 40) rfl))) (by decide) (t := .boolean) (t' := .long) (by decide) (by decide)))
    have f30_F_digitRead_a1 : Fld Z h30 a1 sN0 "digitRead" "Z" (.int dr) := p27_4.other W30 (Or.inr (slot_ne (Or.inl (hw _ (List.mem_of_getElem? (i := 34) rfl))) (Or.inl (hw _ (List.mem_of_getElem? (i := 40) rfl))) (by decide) (t := .boolean) (t' := .long) (by decide) (by decide)))
    have f30_F_integerDigits_a1 : Fld Z h30 a1 sN0 "integerDigits" "J" (.long id) := p27_5.other W30 (Or.inr (slot_ne (Or.inl (hw _ (List.mem_of_getElem? (i := 36) rfl))) (Or.inl (hw _ (List.mem_of_getElem? (i := 40) rfl))) (by decide) (t := .long) (t' := .long) (by decide) (by decide)))
    have f30_F_fractionDigits_a1 : Fld Z h30 a1 sN0 "fractionDigits" "J" (.long (fd + (pz + (1 : Int64)))) := p27_6.other W30 (Or.inr (slot_ne (Or.inl (hw _ (List.mem_of_getElem? (i := 38) rfl))) (Or.inl (hw _ (List.mem_of_getElem? (i := 40) rfl))) (by decide) (t := .long) (t' := .long) (by decide) (by decide)))
    have f30_F_unscaled_a1 : Fld Z h30 a1 sN0 "unscaled" "J" (.long us2_27) := p27_8.other W30 (Or.inr (slot_ne (Or.inl (hw _ (List.mem_of_getElem? (i := 42) rfl))) (Or.inl (hw _ (List.mem_of_getElem? (i := 40) rfl))) (by decide) (t := .long) (t' := .long) (by decide) (by decide)))
    have z30 : n0 ≤ h30.size := by rw [W30.size]; exact z27
    have K30 : Keep h0 h30 [a1] := K27.wr W30 (Or.inl (List.mem_of_getElem? (i := 0) rfl))
    have N30 := Fr.snoc X30 N27 g_a1
    have R31 : ∀ t, Steps p.tables e below (T30.setTop (mkF m 88 #[rv a1, iv p2] [])) t → Steps p.tables e below (s₁.setTop f0) t := fun t k => R29 t (st30 t k)
    obtain ⟨fs, hr, hrun, hended, hW, hsame⟩ := X30.leave (v := none) (fun _ => rfl)
    refine ⟨_, _, pre0 _ (R31 _ ?_), hrun, hended, _, _, rfl, ?_, ⟨_, rfl⟩, hW, hsame.mono (by decide) (by decide)⟩
    · show Steps p.tables e below (T30.setTop (mkF m 88 #[rv a1, iv p2] [])) _
      exact X30.returnOut hx Bd.returns (hb hby d7_88) hr
    · show Q_rmDigitF Z a1 p2 io ng dr id fd pz us sI sF B h0 n0 _ T30.heap _
      rw [e30]
      exact ⟨id, (fd + (pz + (1 : Int64))), (0 : Int64), us2_27, rfl, N30, K30, f30_F_integerOnly_a1, f30_F_part_a1, f30_F_negative_a1, f30_F_digitRead_a1, f30_F_integerDigits_a1, f30_F_fractionDigits_a1, fw30, f30_F_unscaled_a1, (own_pz0 hz)⟩
theorem ef_rmTake (m : MethodId) (x0 : Addr) (x1 : Int32) : entryFrame m #[(.ref x0), (.int x1)] 2 = mkF m 0 #[rv x0, iv x1] [] := by first | (simp [entryFrame, mkF, argsToLocals, Value.category]; done) | rfl
def Q_rmTake (Z : State) (a1 : Addr) (p2 : Int32) (sc : Nat) (io : Int32) (ng : Value) (dr : Int32) (id : Int64) (fd : Int64) (pz : Int64) (us : Int64) (sS : Addr) (sI : Addr) (sF : Addr) (sB : Addr) (B : Int) (h0 : Heap) (n0 : Nat) (v : Option Value) (h : Heap) (L : List Loc) : Prop := ∃ ng2 : Value, ∃ id2 : Int64, ∃ fd2 : Int64, ∃ pz2 : Int64, ∃ us2 : Int64, v = none ∧ Fr n0 L ∧ Keep h0 h [a1] ∧ (Fld Z h a1 sN0 "integerOnly" "Z" (.int io)) ∧ (Fld Z h a1 sN0 "part" sN2 (.ref (own_ad sS sI sF sB (own_nx sc p2 io)))) ∧ (Fld Z h a1 sN0 "negative" "Z" ng2) ∧ (Fld Z h a1 sN0 "digitRead" "Z" (.int (own_dr sc p2 dr))) ∧ (Fld Z h a1 sN0 "integerDigits" "J" (.long id2)) ∧ (Fld Z h a1 sN0 "fractionDigits" "J" (.long fd2)) ∧ (Fld Z h a1 sN0 "pendingZeros" "J" (.long pz2)) ∧ (Fld Z h a1 sN0 "unscaled" "J" (.long us2)) ∧ (0 ≤ pz2.toInt ∧ pz2.toInt ≤ B + 1)
set_option maxRecDepth 65536 in
set_option maxHeartbeats 40000000 in
theorem rmTake (l : Launch) (Z : State) (a0 : Array Value) (hw : ∀ d ∈ tables_1, d.before a0 Z = true) (ws : List Jvm.Cond) (a1 : Addr) (p2 : Int32) (sc : Nat) (io : Int32) (ng : Value) (dr : Int32) (id : Int64) (fd : Int64) (pz : Int64) (us : Int64) (sS : Addr) (sI : Addr) (sF : Addr) (sB : Addr) (B : Int) (h0 : Heap) (n0 : Nat) (Z0 : n0 ≤ h0.size) (E_a1 : Exa Z h0 a1 sN0) (g_a1 : n0 ≤ a1) (S_NumberText_Part_SIGN : Sta Z h0 sN1 "SIGN" sN2 (.ref sS)) (S_NumberText_Part_INTEGER : Sta Z h0 sN1 "INTEGER" sN2 (.ref sI)) (S_NumberText_Part_FRACTION : Sta Z h0 sN1 "FRACTION" sN2 (.ref sF)) (S_NumberText_Part_BROKEN : Sta Z h0 sN1 "BROKEN" sN2 (.ref sB)) (ne_sS_sI : sS ≠ sI) (ne_sS_sF : sS ≠ sF) (ne_sS_sB : sS ≠ sB) (ne_sI_sF : sI ≠ sF) (ne_sI_sB : sI ≠ sB) (ne_sF_sB : sF ≠ sB) (hs : sc < 4) (hB : B ≤ 3) (hz : 0 ≤ pz.toInt ∧ pz.toInt ≤ B) (F_integerOnly_a1 : Fld Z h0 a1 sN0 "integerOnly" "Z" (.int io)) (F_part_a1 : Fld Z h0 a1 sN0 "part" sN2 (.ref (own_ad sS sI sF sB sc))) (F_negative_a1 : Fld Z h0 a1 sN0 "negative" "Z" ng) (F_digitRead_a1 : Fld Z h0 a1 sN0 "digitRead" "Z" (.int dr)) (F_integerDigits_a1 : Fld Z h0 a1 sN0 "integerDigits" "J" (.long id)) (F_fractionDigits_a1 : Fld Z h0 a1 sN0 "fractionDigits" "J" (.long fd)) (F_pendingZeros_a1 : Fld Z h0 a1 sN0 "pendingZeros" "J" (.long pz)) (F_unscaled_a1 : Fld Z h0 a1 sN0 "unscaled" "J" (.long us)) :
    MetFree l (⟨sN0, "take", "(C)V"⟩ : MethodName) (head1 (Jvm.Cond.code (⟨sN0, "take", "(C)V"⟩ : MethodName) prog_10_method_3_code 2 none :: ws) ({ frames := 3, cells := 0, slots := 0, locals := 42 } : Room)) (fun a U => a = #[(.ref a1), (.int p2)] ∧ Z.Warmed39 U.vm ∧ U.heap = h0) (fun _ _ _ _ _ => True) (fun _ U o U' => ∃ v L, o = .returned v ∧ Q_rmTake Z a1 p2 sc io ng dr id fd pz us sS sI sF sB B h0 n0 v U'.heap L ∧ FrameEnd U o U' L ({ frames := 3, cells := 0, slots := 0, locals := 42 } : Room).cells ({ frames := 3, cells := 0, slots := 0, locals := 42 } : Room).slots) := by
  refine MetFree.of_bodySF (plainFor_of_name pn_0) hisR ?_
  intro p e s m args below meth c s₁ Bd hml0 hP hK
  obtain ⟨rfl, hZ, hh⟩ := hP
  have hx := Bd.exec
  have hby := Bd.bytes
  have hml : c.maxLocals = 2 := hml0
  have hown : s.vm.findClass sN0 = some m.cls := findClass_of_methodNamed Bd.named
  have hnm := (name_of_methodNamed Bd.named Bd.method).1
  have X0 : Stand p l e ({ frames := 3, cells := 0, slots := 0, locals := 42 } : Room) s m #[(.ref a1), (.int p2)] below meth c s₁ [] 0 0 := Stand.of_body Bd
  have e0 : s₁.heap = h0 := by rw [← hh, Bd.state]; rfl
  have N0 := Fr.nil n0
  obtain ⟨f0, hf0⟩ : ∃ f : JFrame, f = mkF m 0 #[rv a1, iv p2] [] := ⟨_, rfl⟩
  have pre0 : ∀ t, Steps p.tables e below (s₁.setTop f0) t → Steps p.tables e below (s₁.setTop (entryFrame m #[(.ref a1), (.int p2)] 2)) t := fun t k => castTop ((ef_rmTake m a1 p2).trans hf0.symm) k
  have R0 : ∀ t, Steps p.tables e below (s₁.setTop (mkF m 0 #[rv a1, iv p2] [])) t → Steps p.tables e below (s₁.setTop f0) t := by rw [hf0]; exact fun t k => k
  rcases own_s4 hs with rfl | rfl | rfl | rfl
  · skip
    have Fp0 : Fld Z h0 a1 sN0 "part" sN2 (.ref sS) := F_part_a1
    have R1 : ∀ t, Steps p.tables e below (s₁.setTop (mkF m 1 #[rv a1, iv p2] [(.ref a1)])) t → Steps p.tables e below (s₁.setTop f0) t := fun t k => R0 t (by
      show Steps p.tables e below (s₁.setTop (mkF m 0 #[rv a1, iv p2] [])) _
      refine XS.aloadN X0.here hx rfl (hb hby d6_0) rfl rfl ?_
      exact k)
    obtain ⟨T2, X2, e2, st2⟩ := getF X0 hx hZ hown (host := "") (Or.inl (hw _ (List.mem_of_getElem? (i := 29) rfl))) Via.refl e0 Fp0 (g := (mkF m 1 #[rv a1, iv p2] [(.ref a1)])) rfl rfl (hb hby d6_1)
    have R3 : ∀ t, Steps p.tables e below (T2.setTop (mkF m 4 #[rv a1, iv p2] [(.ref sS)])) t → Steps p.tables e below (s₁.setTop f0) t := fun t k => R1 t (st2 t k)
    obtain ⟨T4, X4, e4, st4⟩ := getS2 X2 hx hZ hown (host := "") (Or.inl (hw _ (List.mem_of_getElem? (i := 48) rfl))) Via.refl e2 S_NumberText_Part_BROKEN (g := (mkF m 4 #[rv a1, iv p2] [(.ref sS)])) rfl (hb hby d6_4)
    have R5 : ∀ t, Steps p.tables e below (T4.setTop (mkF m 7 #[rv a1, iv p2] [(.ref sB), (.ref sS)])) t → Steps p.tables e below (s₁.setTop f0) t := fun t k => R3 t (st4 t k)
    have R6 : ∀ t, Steps p.tables e below (T4.setTop (mkF m 12 #[rv a1, iv p2] [(.ref a1)])) t → Steps p.tables e below (s₁.setTop f0) t := fun t k => R5 t (by
      show Steps p.tables e below (T4.setTop (mkF m 7 #[rv a1, iv p2] [(.ref sB), (.ref sS)])) _
      refine Jvm.RoadKit.acmp (g := (mkF m 7 #[rv a1, iv p2] [(.ref sB), (.ref sS)])) X4 hx rfl rfl rfl (pc0 := 7) (pc' := 11) (same := false) rfl (hb hby d6_7) rfl (decide_eq_false fun q => ne_sS_sB (Value.ref.inj q)) (by decide) (by decide) ?_
      refine XS.aloadN X4.here hx rfl (hb hby d6_11) rfl rfl ?_
      exact k)
    obtain ⟨T7, X7, e7, st7⟩ := getF X4 hx hZ hown (host := "") (Or.inl (hw _ (List.mem_of_getElem? (i := 29) rfl))) Via.refl e4 Fp0 (g := (mkF m 12 #[rv a1, iv p2] [(.ref a1)])) rfl rfl (hb hby d6_12)
    have R8 : ∀ t, Steps p.tables e below (T7.setTop (mkF m 15 #[rv a1, iv p2] [(.ref sS)])) t → Steps p.tables e below (s₁.setTop f0) t := fun t k => R6 t (st7 t k)
    obtain ⟨T9, X9, e9, st9⟩ := getS2 X7 hx hZ hown (host := "") (Or.inl (hw _ (List.mem_of_getElem? (i := 26) rfl))) Via.refl e7 S_NumberText_Part_SIGN (g := (mkF m 15 #[rv a1, iv p2] [(.ref sS)])) rfl (hb hby d6_15)
    have R10 : ∀ t, Steps p.tables e below (T9.setTop (mkF m 18 #[rv a1, iv p2] [(.ref sS), (.ref sS)])) t → Steps p.tables e below (s₁.setTop f0) t := fun t k => R8 t (st9 t k)
    have R11 : ∀ t, Steps p.tables e below (T9.setTop (mkF m 22 #[rv a1, iv p2] [(.ref a1)])) t → Steps p.tables e below (s₁.setTop f0) t := fun t k => R10 t (by
      show Steps p.tables e below (T9.setTop (mkF m 18 #[rv a1, iv p2] [(.ref sS), (.ref sS)])) _
      refine Jvm.RoadKit.acmp (g := (mkF m 18 #[rv a1, iv p2] [(.ref sS), (.ref sS)])) X9 hx rfl rfl rfl (pc0 := 18) (pc' := 21) (same := true) rfl (hb hby d6_18) rfl (decide_eq_true rfl) (by decide) (by decide) ?_
      refine XS.aloadN X9.here hx rfl (hb hby d6_21) rfl rfl ?_
      exact k)
    obtain ⟨T12, X12, e12, st12⟩ := getS2 X9 hx hZ hown (host := "") (Or.inl (hw _ (List.mem_of_getElem? (i := 56) rfl))) Via.refl e9 S_NumberText_Part_INTEGER (g := (mkF m 22 #[rv a1, iv p2] [(.ref a1)])) rfl (hb hby d6_22)
    have R13 : ∀ t, Steps p.tables e below (T12.setTop (mkF m 25 #[rv a1, iv p2] [(.ref sI), (.ref a1)])) t → Steps p.tables e below (s₁.setTop f0) t := fun t k => R11 t (st12 t k)
    obtain ⟨T14, h14, X14, e14, W14, st14⟩ := putF X12 hx hZ hown (host := "") (Or.inl (hw _ (List.mem_of_getElem? (i := 29) rfl))) Via.refl e12 Fp0 E_a1 (Or.inl (hw _ (List.mem_of_getElem? (i := 30) rfl))) (hw _ (List.mem_of_getElem? (i := 6) rfl)) (ty := (.object sN1)) (by decide) rfl rfl (g := (mkF m 25 #[rv a1, iv p2] [(.ref sI), (.ref a1)])) rfl rfl (hb hby d6_25)
    have fw14 : Fld Z h14 a1 sN0 "part" sN2 (.ref sI) := Fp0.same W14
    have f14_E_a1 : Exa Z h14 a1 sN0 := E_a1.wr W14
    have f14_S_NumberText_Part_SIGN : Sta Z h14 sN1 "SIGN" sN2 (.ref sS) := S_NumberText_Part_SIGN.wr W14
    have f14_S_NumberText_Part_INTEGER : Sta Z h14 sN1 "INTEGER" sN2 (.ref sI) := S_NumberText_Part_INTEGER.wr W14
    have f14_S_NumberText_Part_FRACTION : Sta Z h14 sN1 "FRACTION" sN2 (.ref sF) := S_NumberText_Part_FRACTION.wr W14
    have f14_S_NumberText_Part_BROKEN : Sta Z h14 sN1 "BROKEN" sN2 (.ref sB) := S_NumberText_Part_BROKEN.wr W14
    have f14_F_integerOnly_a1 : Fld Z h14 a1 sN0 "integerOnly" "Z" (.int io) := F_integerOnly_a1.other W14 (Or.inr (slot_ne (Or.inl (hw _ (List.mem_of_getElem? (i := 25) rfl))) (Or.inl (hw _ (List.mem_of_getElem? (i := 30) rfl))) (by decide) (t := .boolean) (t' := (.object sN1)) (by decide) (by decide)))
    have f14_F_negative_a1 : Fld Z h14 a1 sN0 "negative" "Z" ng := F_negative_a1.other W14 (Or.inr (slot_ne (Or.inl (hw _ (List.mem_of_getElem? (i := 32) rfl))) (Or.inl (hw _ (List.mem_of_getElem? (i := 30) rfl))) (by decide) (t := .boolean) (t' := (.object sN1)) (by decide) (by decide)))
    have f14_F_digitRead_a1 : Fld Z h14 a1 sN0 "digitRead" "Z" (.int dr) := F_digitRead_a1.other W14 (Or.inr (slot_ne (Or.inl (hw _ (List.mem_of_getElem? (i := 34) rfl))) (Or.inl (hw _ (List.mem_of_getElem? (i := 30) rfl))) (by decide) (t := .boolean) (t' := (.object sN1)) (by decide) (by decide)))
    have f14_F_integerDigits_a1 : Fld Z h14 a1 sN0 "integerDigits" "J" (.long id) := F_integerDigits_a1.other W14 (Or.inr (slot_ne (Or.inl (hw _ (List.mem_of_getElem? (i := 36) rfl))) (Or.inl (hw _ (List.mem_of_getElem? (i := 30) rfl))) (by decide) (t := .long) (t' := (.object sN1)) (by decide) (by decide)))
    have f14_F_fractionDigits_a1 : Fld Z h14 a1 sN0 "fractionDigits" "J" (.long fd) := F_fractionDigits_a1.other W14 (Or.inr (slot_ne (Or.inl (hw _ (List.mem_of_getElem? (i := 38) rfl))) (Or.inl (hw _ (List.mem_of_getElem? (i := 30) rfl))) (by decide) (t := .long) (t' := (.object sN1)) (by decide) (by decide)))
    have f14_F_pendingZeros_a1 : Fld Z h14 a1 sN0 "pendingZeros" "J" (.long pz) := F_pendingZeros_a1.other W14 (Or.inr (slot_ne (Or.inl (hw _ (List.mem_of_getElem? (i := 40) rfl))) (Or.inl (hw _ (List.mem_of_getElem? (i := 30) rfl))) (by decide) (t := .long) (t' := (.object sN1)) (by decide) (by decide)))
    have f14_F_unscaled_a1 : Fld Z h14 a1 sN0 "unscaled" "J" (.long us) := F_unscaled_a1.other W14 (Or.inr (slot_ne (Or.inl (hw _ (List.mem_of_getElem? (i := 42) rfl))) (Or.inl (hw _ (List.mem_of_getElem? (i := 30) rfl))) (by decide) (t := .long) (t' := (.object sN1)) (by decide) (by decide)))
    have z14 : n0 ≤ h14.size := by rw [W14.size]; exact Z0
    have K14 : Keep h0 h14 [a1] := (Keep.refl h0 [a1]).wr W14 (Or.inl (List.mem_of_getElem? (i := 0) rfl))
    have N14 := Fr.snoc X14 N0 g_a1
    have R15 : ∀ t, Steps p.tables e below (T14.setTop (mkF m 28 #[rv a1, iv p2] [])) t → Steps p.tables e below (s₁.setTop f0) t := fun t k => R13 t (st14 t k)
    have R16 : ∀ t, Steps p.tables e below (T14.setTop (mkF m 31 #[rv a1, iv p2] [(.int (45 : Int32)), (.int p2)])) t → Steps p.tables e below (s₁.setTop f0) t := fun t k => R15 t (by
      show Steps p.tables e below (T14.setTop (mkF m 28 #[rv a1, iv p2] [])) _
      refine XS.iloadN X14.here hx rfl (hb hby d6_28) rfl  ?_
      refine XS.bipush X14.here hx rfl (hb hby d6_29) ?_
      exact k)
    by_cases hs1 : p2 = (45 : Int32)
    · skip
      have R17 : ∀ t, Steps p.tables e below (T14.setTop (mkF m 52 #[rv a1, iv p2] [(.int (1 : Int32)), (.ref a1)])) t → Steps p.tables e below (s₁.setTop f0) t := fun t k => R16 t (by
        show Steps p.tables e below (T14.setTop (mkF m 31 #[rv a1, iv p2] [(.int (45 : Int32)), (.int p2)])) _
        refine XS.icmpYes X14.here hx rfl (pc0 := 31) (pc' := 40) rfl (hb hby d6_31) rfl (teq hs1).1 (by decide) (by decide) ?_
        refine XS.aloadN X14.here hx rfl (hb hby d6_40) rfl rfl ?_
        show Steps p.tables e below (T14.setTop (mkF m 41 #[rv a1, iv p2] [(.ref a1)])) _
        refine XS.iloadN X14.here hx rfl (hb hby d6_41) rfl  ?_
        refine XS.bipush X14.here hx rfl (hb hby d6_42) ?_
        show Steps p.tables e below (T14.setTop (mkF m 44 #[rv a1, iv p2] [(.int (45 : Int32)), (.int p2), (.ref a1)])) _
        refine XS.icmpNo X14.here hx rfl (hb hby d6_44) rfl (teq hs1).2 ?_
        refine XS.iconst X14.here hx rfl (hb hby d6_47) ?_
        show Steps p.tables e below (T14.setTop (mkF m 48 #[rv a1, iv p2] [(.int (1 : Int32)), (.ref a1)])) _
        refine XS.goto X14.here hx rfl (pc0 := 48) (pc' := 52) rfl (hb hby d6_48) (by decide) (by decide) ?_
        exact k)
      obtain ⟨T18, h18, X18, e18, W18, st18⟩ := putFN X14 hx hZ hown (hw _ (List.mem_of_getElem? (i := 31) rfl)) Via.refl e14 f14_F_negative_a1 f14_E_a1 (Or.inl (hw _ (List.mem_of_getElem? (i := 32) rfl))) (hw _ (List.mem_of_getElem? (i := 6) rfl)) (ty := .boolean) (v' := (.int (1 : Int32))) (by decide) rfl rfl (g := (mkF m 52 #[rv a1, iv p2] [(.int (1 : Int32)), (.ref a1)])) rfl rfl (hb hby d6_52)
      have fw18 : Fld Z h18 a1 sN0 "negative" "Z" (.int (1 : Int32)) := f14_F_negative_a1.same W18
      have f18_E_a1 : Exa Z h18 a1 sN0 := f14_E_a1.wr W18
      have f18_S_NumberText_Part_SIGN : Sta Z h18 sN1 "SIGN" sN2 (.ref sS) := f14_S_NumberText_Part_SIGN.wr W18
      have f18_S_NumberText_Part_INTEGER : Sta Z h18 sN1 "INTEGER" sN2 (.ref sI) := f14_S_NumberText_Part_INTEGER.wr W18
      have f18_S_NumberText_Part_FRACTION : Sta Z h18 sN1 "FRACTION" sN2 (.ref sF) := f14_S_NumberText_Part_FRACTION.wr W18
      have f18_S_NumberText_Part_BROKEN : Sta Z h18 sN1 "BROKEN" sN2 (.ref sB) := f14_S_NumberText_Part_BROKEN.wr W18
      have f18_F_integerOnly_a1 : Fld Z h18 a1 sN0 "integerOnly" "Z" (.int io) := f14_F_integerOnly_a1.other W18 (Or.inr (slot_ne (Or.inl (hw _ (List.mem_of_getElem? (i := 25) rfl))) (Or.inl (hw _ (List.mem_of_getElem? (i := 32) rfl))) (by decide) (t := .boolean) (t' := .boolean) (by decide) (by decide)))
      have f18_F_part_a1 : Fld Z h18 a1 sN0 "part" sN2 (.ref sI) := fw14.other W18 (Or.inr (slot_ne (Or.inl (hw _ (List.mem_of_getElem? (i := 30) rfl))) (Or.inl (hw _ (List.mem_of_getElem? (i := 32) rfl))) (by decide) (t := (.object sN1)) (t' := .boolean) (by decide) (by decide)))
      have f18_F_digitRead_a1 : Fld Z h18 a1 sN0 "digitRead" "Z" (.int dr) := f14_F_digitRead_a1.other W18 (Or.inr (slot_ne (Or.inl (hw _ (List.mem_of_getElem? (i := 34) rfl))) (Or.inl (hw _ (List.mem_of_getElem? (i := 32) rfl))) (by decide) (t := .boolean) (t' := .boolean) (by decide) (by decide)))
      have f18_F_integerDigits_a1 : Fld Z h18 a1 sN0 "integerDigits" "J" (.long id) := f14_F_integerDigits_a1.other W18 (Or.inr (slot_ne (Or.inl (hw _ (List.mem_of_getElem? (i := 36) rfl))) (Or.inl (hw _ (List.mem_of_getElem? (i := 32) rfl))) (by decide) (t := .long) (t' := .boolean) (by decide) (by decide)))
      have f18_F_fractionDigits_a1 : Fld Z h18 a1 sN0 "fractionDigits" "J" (.long fd) := f14_F_fractionDigits_a1.other W18 (Or.inr (slot_ne (Or.inl (hw _ (List.mem_of_getElem? (i := 38) rfl))) (Or.inl (hw _ (List.mem_of_getElem? (i := 32) rfl))) (by decide) (t := .long) (t' := .boolean) (by decide) (by decide)))
      have f18_F_pendingZeros_a1 : Fld Z h18 a1 sN0 "pendingZeros" "J" (.long pz) := f14_F_pendingZeros_a1.other W18 (Or.inr (slot_ne (Or.inl (hw _ (List.mem_of_getElem? (i := 40) rfl))) (Or.inl (hw _ (List.mem_of_getElem? (i := 32) rfl))) (by decide) (t := .long) (t' := .boolean) (by decide) (by decide)))
      have f18_F_unscaled_a1 : Fld Z h18 a1 sN0 "unscaled" "J" (.long us) := f14_F_unscaled_a1.other W18 (Or.inr (slot_ne (Or.inl (hw _ (List.mem_of_getElem? (i := 42) rfl))) (Or.inl (hw _ (List.mem_of_getElem? (i := 32) rfl))) (by decide) (t := .long) (t' := .boolean) (by decide) (by decide)))
      have z18 : n0 ≤ h18.size := by rw [W18.size]; exact z14
      have K18 : Keep h0 h18 [a1] := K14.wr W18 (Or.inl (List.mem_of_getElem? (i := 0) rfl))
      have N18 := Fr.snoc X18 N14 g_a1
      have R19 : ∀ t, Steps p.tables e below (T18.setTop (mkF m 55 #[rv a1, iv p2] [])) t → Steps p.tables e below (s₁.setTop f0) t := fun t k => R17 t (st18 t k)
      obtain ⟨fs, hr, hrun, hended, hW, hsame⟩ := X18.leave (v := none) (fun _ => rfl)
      refine ⟨_, _, pre0 _ (R19 _ ?_), hrun, hended, _, _, rfl, ?_, ⟨_, rfl⟩, hW, hsame.mono (by decide) (by decide)⟩
      · show Steps p.tables e below (T18.setTop (mkF m 55 #[rv a1, iv p2] [])) _
        exact X18.returnOut hx Bd.returns (hb hby d6_55) hr
      · show Q_rmTake Z a1 p2 0 io ng dr id fd pz us sS sI sF sB B h0 n0 _ T18.heap _
        rw [e18]
        exact ⟨(.int (1 : Int32)), id, fd, pz, us, rfl, N18, K18, f18_F_integerOnly_a1, (by rw [show own_nx 0 p2 io = 1 from by simp [own_nx, own_nxB, own_dr, own_drB, own_D, own_P, own_G, hs1]]; exact f18_F_part_a1), fw18, (by rw [show own_dr 0 p2 dr = dr from by simp [own_nx, own_nxB, own_dr, own_drB, own_D, own_P, own_G, hs1]]; exact f18_F_digitRead_a1), f18_F_integerDigits_a1, f18_F_fractionDigits_a1, f18_F_pendingZeros_a1, f18_F_unscaled_a1, ⟨hz.1, by have := hz.2; omega⟩⟩
    · skip
      have R20 : ∀ t, Steps p.tables e below (T14.setTop (mkF m 37 #[rv a1, iv p2] [(.int (43 : Int32)), (.int p2)])) t → Steps p.tables e below (s₁.setTop f0) t := fun t k => R16 t (by
        show Steps p.tables e below (T14.setTop (mkF m 31 #[rv a1, iv p2] [(.int (45 : Int32)), (.int p2)])) _
        refine XS.icmpNo X14.here hx rfl (hb hby d6_31) rfl (feq hs1).1 ?_
        refine XS.iloadN X14.here hx rfl (hb hby d6_34) rfl  ?_
        show Steps p.tables e below (T14.setTop (mkF m 35 #[rv a1, iv p2] [(.int p2)])) _
        refine XS.bipush X14.here hx rfl (hb hby d6_35) ?_
        exact k)
      by_cases hs2 : p2 = (43 : Int32)
      · skip
        have R21 : ∀ t, Steps p.tables e below (T14.setTop (mkF m 52 #[rv a1, iv p2] [(.int (0 : Int32)), (.ref a1)])) t → Steps p.tables e below (s₁.setTop f0) t := fun t k => R20 t (by
          show Steps p.tables e below (T14.setTop (mkF m 37 #[rv a1, iv p2] [(.int (43 : Int32)), (.int p2)])) _
          refine XS.icmpNo X14.here hx rfl (hb hby d6_37) rfl (teq hs2).2 ?_
          refine XS.aloadN X14.here hx rfl (hb hby d6_40) rfl rfl ?_
          show Steps p.tables e below (T14.setTop (mkF m 41 #[rv a1, iv p2] [(.ref a1)])) _
          refine XS.iloadN X14.here hx rfl (hb hby d6_41) rfl  ?_
          refine XS.bipush X14.here hx rfl (hb hby d6_42) ?_
          show Steps p.tables e below (T14.setTop (mkF m 44 #[rv a1, iv p2] [(.int (45 : Int32)), (.int p2), (.ref a1)])) _
          refine XS.icmpYes X14.here hx rfl (pc0 := 44) (pc' := 51) rfl (hb hby d6_44) rfl (feq hs1).2 (by decide) (by decide) ?_
          refine XS.iconst X14.here hx rfl (hb hby d6_51) ?_
          exact k)
        obtain ⟨T22, h22, X22, e22, W22, st22⟩ := putFN X14 hx hZ hown (hw _ (List.mem_of_getElem? (i := 31) rfl)) Via.refl e14 f14_F_negative_a1 f14_E_a1 (Or.inl (hw _ (List.mem_of_getElem? (i := 32) rfl))) (hw _ (List.mem_of_getElem? (i := 6) rfl)) (ty := .boolean) (v' := (.int (0 : Int32))) (by decide) rfl rfl (g := (mkF m 52 #[rv a1, iv p2] [(.int (0 : Int32)), (.ref a1)])) rfl rfl (hb hby d6_52)
        have fw22 : Fld Z h22 a1 sN0 "negative" "Z" (.int (0 : Int32)) := f14_F_negative_a1.same W22
        have f22_E_a1 : Exa Z h22 a1 sN0 := f14_E_a1.wr W22
        have f22_S_NumberText_Part_SIGN : Sta Z h22 sN1 "SIGN" sN2 (.ref sS) := f14_S_NumberText_Part_SIGN.wr W22
        have f22_S_NumberText_Part_INTEGER : Sta Z h22 sN1 "INTEGER" sN2 (.ref sI) := f14_S_NumberText_Part_INTEGER.wr W22
        have f22_S_NumberText_Part_FRACTION : Sta Z h22 sN1 "FRACTION" sN2 (.ref sF) := f14_S_NumberText_Part_FRACTION.wr W22
        have f22_S_NumberText_Part_BROKEN : Sta Z h22 sN1 "BROKEN" sN2 (.ref sB) := f14_S_NumberText_Part_BROKEN.wr W22
        have f22_F_integerOnly_a1 : Fld Z h22 a1 sN0 "integerOnly" "Z" (.int io) := f14_F_integerOnly_a1.other W22 (Or.inr (slot_ne (Or.inl (hw _ (List.mem_of_getElem? (i := 25) rfl))) (Or.inl (hw _ (List.mem_of_getElem? (i := 32) rfl))) (by decide) (t := .boolean) (t' := .boolean) (by decide) (by decide)))
        have f22_F_part_a1 : Fld Z h22 a1 sN0 "part" sN2 (.ref sI) := fw14.other W22 (Or.inr (slot_ne (Or.inl (hw _ (List.mem_of_getElem? (i := 30) rfl))) (Or.inl (hw _ (List.mem_of_getElem? (i := 32) rfl))) (by decide) (t := (.object sN1)) (t' := .boolean) (by decide) (by decide)))
        have f22_F_digitRead_a1 : Fld Z h22 a1 sN0 "digitRead" "Z" (.int dr) := f14_F_digitRead_a1.other W22 (Or.inr (slot_ne (Or.inl (hw _ (List.mem_of_getElem? (i := 34) rfl))) (Or.inl (hw _ (List.mem_of_getElem? (i := 32) rfl))) (by decide) (t := .boolean) (t' := .boolean) (by decide) (by decide)))
        have f22_F_integerDigits_a1 : Fld Z h22 a1 sN0 "integerDigits" "J" (.long id) := f14_F_integerDigits_a1.other W22 (Or.inr (slot_ne (Or.inl (hw _ (List.mem_of_getElem? (i := 36) rfl))) (Or.inl (hw _ (List.mem_of_getElem? (i := 32) rfl))) (by decide) (t := .long) (t' := .boolean) (by decide) (by decide)))
        have f22_F_fractionDigits_a1 : Fld Z h22 a1 sN0 "fractionDigits" "J" (.long fd) := f14_F_fractionDigits_a1.other W22 (Or.inr (slot_ne (Or.inl (hw _ (List.mem_of_getElem? (i := 38) rfl))) (Or.inl (hw _ (List.mem_of_getElem? (i := 32) rfl))) (by decide) (t := .long) (t' := .boolean) (by decide) (by decide)))
        have f22_F_pendingZeros_a1 : Fld Z h22 a1 sN0 "pendingZeros" "J" (.long pz) := f14_F_pendingZeros_a1.other W22 (Or.inr (slot_ne (Or.inl (hw _ (List.mem_of_getElem? (i := 40) rfl))) (Or.inl (hw _ (List.mem_of_getElem? (i := 32) rfl))) (by decide) (t := .long) (t' := .boolean) (by decide) (by decide)))
        have f22_F_unscaled_a1 : Fld Z h22 a1 sN0 "unscaled" "J" (.long us) := f14_F_unscaled_a1.other W22 (Or.inr (slot_ne (Or.inl (hw _ (List.mem_of_getElem? (i := 42) rfl))) (Or.inl (hw _ (List.mem_of_getElem? (i := 32) rfl))) (by decide) (t := .long) (t' := .boolean) (by decide) (by decide)))
        have z22 : n0 ≤ h22.size := by rw [W22.size]; exact z14
        have K22 : Keep h0 h22 [a1] := K14.wr W22 (Or.inl (List.mem_of_getElem? (i := 0) rfl))
        have N22 := Fr.snoc X22 N14 g_a1
        have R23 : ∀ t, Steps p.tables e below (T22.setTop (mkF m 55 #[rv a1, iv p2] [])) t → Steps p.tables e below (s₁.setTop f0) t := fun t k => R21 t (st22 t k)
        obtain ⟨fs, hr, hrun, hended, hW, hsame⟩ := X22.leave (v := none) (fun _ => rfl)
        refine ⟨_, _, pre0 _ (R23 _ ?_), hrun, hended, _, _, rfl, ?_, ⟨_, rfl⟩, hW, hsame.mono (by decide) (by decide)⟩
        · show Steps p.tables e below (T22.setTop (mkF m 55 #[rv a1, iv p2] [])) _
          exact X22.returnOut hx Bd.returns (hb hby d6_55) hr
        · show Q_rmTake Z a1 p2 0 io ng dr id fd pz us sS sI sF sB B h0 n0 _ T22.heap _
          rw [e22]
          exact ⟨(.int (0 : Int32)), id, fd, pz, us, rfl, N22, K22, f22_F_integerOnly_a1, (by rw [show own_nx 0 p2 io = 1 from by simp [own_nx, own_nxB, own_dr, own_drB, own_D, own_P, own_G, hs1, hs2]]; exact f22_F_part_a1), fw22, (by rw [show own_dr 0 p2 dr = dr from by simp [own_nx, own_nxB, own_dr, own_drB, own_D, own_P, own_G, hs1, hs2]]; exact f22_F_digitRead_a1), f22_F_integerDigits_a1, f22_F_fractionDigits_a1, f22_F_pendingZeros_a1, f22_F_unscaled_a1, ⟨hz.1, by have := hz.2; omega⟩⟩
      · skip
        have R24 : ∀ t, Steps p.tables e below (T14.setTop (mkF m 59 #[rv a1, iv p2] [(.int (48 : Int32)), (.int p2)])) t → Steps p.tables e below (s₁.setTop f0) t := fun t k => R20 t (by
          show Steps p.tables e below (T14.setTop (mkF m 37 #[rv a1, iv p2] [(.int (43 : Int32)), (.int p2)])) _
          refine XS.icmpYes X14.here hx rfl (pc0 := 37) (pc' := 56) rfl (hb hby d6_37) rfl (feq hs2).2 (by decide) (by decide) ?_
          refine XS.iloadN X14.here hx rfl (hb hby d6_56) rfl  ?_
          show Steps p.tables e below (T14.setTop (mkF m 57 #[rv a1, iv p2] [(.int p2)])) _
          refine XS.bipush X14.here hx rfl (hb hby d6_57) ?_
          exact k)
        by_cases hs3 : p2 < (48 : Int32)
        · skip
          have R25 : ∀ t, Steps p.tables e below (T14.setTop (mkF m 87 #[rv a1, iv p2] [(.int (46 : Int32)), (.int p2)])) t → Steps p.tables e below (s₁.setTop f0) t := fun t k => R24 t (by
            show Steps p.tables e below (T14.setTop (mkF m 59 #[rv a1, iv p2] [(.int (48 : Int32)), (.int p2)])) _
            refine XS.icmpYes X14.here hx rfl (pc0 := 59) (pc' := 84) rfl (hb hby d6_59) rfl (tlt hs3).1 (by decide) (by decide) ?_
            refine XS.iloadN X14.here hx rfl (hb hby d6_84) rfl  ?_
            show Steps p.tables e below (T14.setTop (mkF m 85 #[rv a1, iv p2] [(.int p2)])) _
            refine XS.bipush X14.here hx rfl (hb hby d6_85) ?_
            exact k)
          by_cases hs4 : p2 = (46 : Int32)
          · skip
            have R26 : ∀ t, Steps p.tables e below (T14.setTop (mkF m 91 #[rv a1, iv p2] [(.ref a1)])) t → Steps p.tables e below (s₁.setTop f0) t := fun t k => R25 t (by
              show Steps p.tables e below (T14.setTop (mkF m 87 #[rv a1, iv p2] [(.int (46 : Int32)), (.int p2)])) _
              refine XS.icmpNo X14.here hx rfl (hb hby d6_87) rfl (teq hs4).2 ?_
              refine XS.aloadN X14.here hx rfl (hb hby d6_90) rfl rfl ?_
              exact k)
            obtain ⟨T27, X27, e27, st27⟩ := getF X14 hx hZ hown (host := "") (Or.inl (hw _ (List.mem_of_getElem? (i := 29) rfl))) Via.refl e14 fw14 (g := (mkF m 91 #[rv a1, iv p2] [(.ref a1)])) rfl rfl (hb hby d6_91)
            have R28 : ∀ t, Steps p.tables e below (T27.setTop (mkF m 94 #[rv a1, iv p2] [(.ref sI)])) t → Steps p.tables e below (s₁.setTop f0) t := fun t k => R26 t (st27 t k)
            obtain ⟨T29, X29, e29, st29⟩ := getS2 X27 hx hZ hown (host := "") (Or.inl (hw _ (List.mem_of_getElem? (i := 56) rfl))) Via.refl e27 f14_S_NumberText_Part_INTEGER (g := (mkF m 94 #[rv a1, iv p2] [(.ref sI)])) rfl (hb hby d6_94)
            have R30 : ∀ t, Steps p.tables e below (T29.setTop (mkF m 97 #[rv a1, iv p2] [(.ref sI), (.ref sI)])) t → Steps p.tables e below (s₁.setTop f0) t := fun t k => R28 t (st29 t k)
            have R31 : ∀ t, Steps p.tables e below (T29.setTop (mkF m 101 #[rv a1, iv p2] [(.ref a1)])) t → Steps p.tables e below (s₁.setTop f0) t := fun t k => R30 t (by
              show Steps p.tables e below (T29.setTop (mkF m 97 #[rv a1, iv p2] [(.ref sI), (.ref sI)])) _
              refine Jvm.RoadKit.acmp (g := (mkF m 97 #[rv a1, iv p2] [(.ref sI), (.ref sI)])) X29 hx rfl rfl rfl (pc0 := 97) (pc' := 100) (same := true) rfl (hb hby d6_97) rfl (decide_eq_true rfl) (by decide) (by decide) ?_
              refine XS.aloadN X29.here hx rfl (hb hby d6_100) rfl rfl ?_
              exact k)
            obtain ⟨T32, X32, e32, st32⟩ := getF X29 hx hZ hown (host := "") (Or.inl (hw _ (List.mem_of_getElem? (i := 24) rfl))) Via.refl e29 f14_F_integerOnly_a1 (g := (mkF m 101 #[rv a1, iv p2] [(.ref a1)])) rfl rfl (hb hby d6_101)
            have R33 : ∀ t, Steps p.tables e below (T32.setTop (mkF m 104 #[rv a1, iv p2] [(.int io)])) t → Steps p.tables e below (s₁.setTop f0) t := fun t k => R31 t (st32 t k)
            by_cases hs5 : io = (0 : Int32)
            · skip
              have R34 : ∀ t, Steps p.tables e below (T32.setTop (mkF m 108 #[rv a1, iv p2] [(.ref a1)])) t → Steps p.tables e below (s₁.setTop f0) t := fun t k => R33 t (by
                show Steps p.tables e below (T32.setTop (mkF m 104 #[rv a1, iv p2] [(.int io)])) _
                refine XS.ifNo X32.here hx rfl (hb hby d6_104) rfl ((if0 _ _).trans (teq hs5).2) ?_
                refine XS.aloadN X32.here hx rfl (hb hby d6_107) rfl rfl ?_
                exact k)
              obtain ⟨T35, X35, e35, st35⟩ := getS2 X32 hx hZ hown (host := "") (Or.inl (hw _ (List.mem_of_getElem? (i := 79) rfl))) Via.refl e32 f14_S_NumberText_Part_FRACTION (g := (mkF m 108 #[rv a1, iv p2] [(.ref a1)])) rfl (hb hby d6_108)
              have R36 : ∀ t, Steps p.tables e below (T35.setTop (mkF m 111 #[rv a1, iv p2] [(.ref sF), (.ref a1)])) t → Steps p.tables e below (s₁.setTop f0) t := fun t k => R34 t (st35 t k)
              obtain ⟨T37, h37, X37, e37, W37, st37⟩ := putF X35 hx hZ hown (host := "") (Or.inl (hw _ (List.mem_of_getElem? (i := 29) rfl))) Via.refl e35 fw14 f14_E_a1 (Or.inl (hw _ (List.mem_of_getElem? (i := 30) rfl))) (hw _ (List.mem_of_getElem? (i := 6) rfl)) (ty := (.object sN1)) (by decide) rfl rfl (g := (mkF m 111 #[rv a1, iv p2] [(.ref sF), (.ref a1)])) rfl rfl (hb hby d6_111)
              have fw37 : Fld Z h37 a1 sN0 "part" sN2 (.ref sF) := fw14.same W37
              have f37_E_a1 : Exa Z h37 a1 sN0 := f14_E_a1.wr W37
              have f37_S_NumberText_Part_SIGN : Sta Z h37 sN1 "SIGN" sN2 (.ref sS) := f14_S_NumberText_Part_SIGN.wr W37
              have f37_S_NumberText_Part_INTEGER : Sta Z h37 sN1 "INTEGER" sN2 (.ref sI) := f14_S_NumberText_Part_INTEGER.wr W37
              have f37_S_NumberText_Part_FRACTION : Sta Z h37 sN1 "FRACTION" sN2 (.ref sF) := f14_S_NumberText_Part_FRACTION.wr W37
              have f37_S_NumberText_Part_BROKEN : Sta Z h37 sN1 "BROKEN" sN2 (.ref sB) := f14_S_NumberText_Part_BROKEN.wr W37
              have f37_F_integerOnly_a1 : Fld Z h37 a1 sN0 "integerOnly" "Z" (.int io) := f14_F_integerOnly_a1.other W37 (Or.inr (slot_ne (Or.inl (hw _ (List.mem_of_getElem? (i := 25) rfl))) (Or.inl (hw _ (List.mem_of_getElem? (i := 30) rfl))) (by decide) (t := .boolean) (t' := (.object sN1)) (by decide) (by decide)))
              have f37_F_negative_a1 : Fld Z h37 a1 sN0 "negative" "Z" ng := f14_F_negative_a1.other W37 (Or.inr (slot_ne (Or.inl (hw _ (List.mem_of_getElem? (i := 32) rfl))) (Or.inl (hw _ (List.mem_of_getElem? (i := 30) rfl))) (by decide) (t := .boolean) (t' := (.object sN1)) (by decide) (by decide)))
              have f37_F_digitRead_a1 : Fld Z h37 a1 sN0 "digitRead" "Z" (.int dr) := f14_F_digitRead_a1.other W37 (Or.inr (slot_ne (Or.inl (hw _ (List.mem_of_getElem? (i := 34) rfl))) (Or.inl (hw _ (List.mem_of_getElem? (i := 30) rfl))) (by decide) (t := .boolean) (t' := (.object sN1)) (by decide) (by decide)))
              have f37_F_integerDigits_a1 : Fld Z h37 a1 sN0 "integerDigits" "J" (.long id) := f14_F_integerDigits_a1.other W37 (Or.inr (slot_ne (Or.inl (hw _ (List.mem_of_getElem? (i := 36) rfl))) (Or.inl (hw _ (List.mem_of_getElem? (i := 30) rfl))) (by decide) (t := .long) (t' := (.object sN1)) (by decide) (by decide)))
              have f37_F_fractionDigits_a1 : Fld Z h37 a1 sN0 "fractionDigits" "J" (.long fd) := f14_F_fractionDigits_a1.other W37 (Or.inr (slot_ne (Or.inl (hw _ (List.mem_of_getElem? (i := 38) rfl))) (Or.inl (hw _ (List.mem_of_getElem? (i := 30) rfl))) (by decide) (t := .long) (t' := (.object sN1)) (by decide) (by decide)))
              have f37_F_pendingZeros_a1 : Fld Z h37 a1 sN0 "pendingZeros" "J" (.long pz) := f14_F_pendingZeros_a1.other W37 (Or.inr (slot_ne (Or.inl (hw _ (List.mem_of_getElem? (i := 40) rfl))) (Or.inl (hw _ (List.mem_of_getElem? (i := 30) rfl))) (by decide) (t := .long) (t' := (.object sN1)) (by decide) (by decide)))
              have f37_F_unscaled_a1 : Fld Z h37 a1 sN0 "unscaled" "J" (.long us) := f14_F_unscaled_a1.other W37 (Or.inr (slot_ne (Or.inl (hw _ (List.mem_of_getElem? (i := 42) rfl))) (Or.inl (hw _ (List.mem_of_getElem? (i := 30) rfl))) (by decide) (t := .long) (t' := (.object sN1)) (by decide) (by decide)))
              have z37 : n0 ≤ h37.size := by rw [W37.size]; exact z14
              have K37 : Keep h0 h37 [a1] := K14.wr W37 (Or.inl (List.mem_of_getElem? (i := 0) rfl))
              have N37 := Fr.snoc X37 N14 g_a1
              have R38 : ∀ t, Steps p.tables e below (T37.setTop (mkF m 114 #[rv a1, iv p2] [])) t → Steps p.tables e below (s₁.setTop f0) t := fun t k => R36 t (st37 t k)
              have R39 : ∀ t, Steps p.tables e below (T37.setTop (mkF m 124 #[rv a1, iv p2] [])) t → Steps p.tables e below (s₁.setTop f0) t := fun t k => R38 t (by
                show Steps p.tables e below (T37.setTop (mkF m 114 #[rv a1, iv p2] [])) _
                refine XS.goto X37.here hx rfl (pc0 := 114) (pc' := 124) rfl (hb hby d6_114) (by decide) (by decide) ?_
                exact k)
              obtain ⟨fs, hr, hrun, hended, hW, hsame⟩ := X37.leave (v := none) (fun _ => rfl)
              refine ⟨_, _, pre0 _ (R39 _ ?_), hrun, hended, _, _, rfl, ?_, ⟨_, rfl⟩, hW, hsame.mono (by decide) (by decide)⟩
              · show Steps p.tables e below (T37.setTop (mkF m 124 #[rv a1, iv p2] [])) _
                exact X37.returnOut hx Bd.returns (hb hby d6_124) hr
              · show Q_rmTake Z a1 p2 0 io ng dr id fd pz us sS sI sF sB B h0 n0 _ T37.heap _
                rw [e37]
                exact ⟨ng, id, fd, pz, us, rfl, N37, K37, f37_F_integerOnly_a1, (by rw [show own_nx 0 p2 io = 2 from by simp [own_nx, own_nxB, own_dr, own_drB, own_D, own_P, own_G, hs1, hs2, hs3, hs4, hs5]]; exact fw37), f37_F_negative_a1, (by rw [show own_dr 0 p2 dr = dr from by simp [own_nx, own_nxB, own_dr, own_drB, own_D, own_P, own_G, hs1, hs2, hs3, hs4, hs5]]; exact f37_F_digitRead_a1), f37_F_integerDigits_a1, f37_F_fractionDigits_a1, f37_F_pendingZeros_a1, f37_F_unscaled_a1, ⟨hz.1, by have := hz.2; omega⟩⟩
            · skip
              have R40 : ∀ t, Steps p.tables e below (T32.setTop (mkF m 118 #[rv a1, iv p2] [(.ref a1)])) t → Steps p.tables e below (s₁.setTop f0) t := fun t k => R33 t (by
                show Steps p.tables e below (T32.setTop (mkF m 104 #[rv a1, iv p2] [(.int io)])) _
                refine XS.ifYes X32.here hx rfl (pc0 := 104) (pc' := 117) rfl (hb hby d6_104) rfl ((if0 _ _).trans (feq hs5).2) (by decide) (by decide) ?_
                refine XS.aloadN X32.here hx rfl (hb hby d6_117) rfl rfl ?_
                exact k)
              obtain ⟨T41, X41, e41, st41⟩ := getS2 X32 hx hZ hown (host := "") (Or.inl (hw _ (List.mem_of_getElem? (i := 48) rfl))) Via.refl e32 f14_S_NumberText_Part_BROKEN (g := (mkF m 118 #[rv a1, iv p2] [(.ref a1)])) rfl (hb hby d6_118)
              have R42 : ∀ t, Steps p.tables e below (T41.setTop (mkF m 121 #[rv a1, iv p2] [(.ref sB), (.ref a1)])) t → Steps p.tables e below (s₁.setTop f0) t := fun t k => R40 t (st41 t k)
              obtain ⟨T43, h43, X43, e43, W43, st43⟩ := putF X41 hx hZ hown (host := "") (Or.inl (hw _ (List.mem_of_getElem? (i := 29) rfl))) Via.refl e41 fw14 f14_E_a1 (Or.inl (hw _ (List.mem_of_getElem? (i := 30) rfl))) (hw _ (List.mem_of_getElem? (i := 6) rfl)) (ty := (.object sN1)) (by decide) rfl rfl (g := (mkF m 121 #[rv a1, iv p2] [(.ref sB), (.ref a1)])) rfl rfl (hb hby d6_121)
              have fw43 : Fld Z h43 a1 sN0 "part" sN2 (.ref sB) := fw14.same W43
              have f43_E_a1 : Exa Z h43 a1 sN0 := f14_E_a1.wr W43
              have f43_S_NumberText_Part_SIGN : Sta Z h43 sN1 "SIGN" sN2 (.ref sS) := f14_S_NumberText_Part_SIGN.wr W43
              have f43_S_NumberText_Part_INTEGER : Sta Z h43 sN1 "INTEGER" sN2 (.ref sI) := f14_S_NumberText_Part_INTEGER.wr W43
              have f43_S_NumberText_Part_FRACTION : Sta Z h43 sN1 "FRACTION" sN2 (.ref sF) := f14_S_NumberText_Part_FRACTION.wr W43
              have f43_S_NumberText_Part_BROKEN : Sta Z h43 sN1 "BROKEN" sN2 (.ref sB) := f14_S_NumberText_Part_BROKEN.wr W43
              have f43_F_integerOnly_a1 : Fld Z h43 a1 sN0 "integerOnly" "Z" (.int io) := f14_F_integerOnly_a1.other W43 (Or.inr (slot_ne (Or.inl (hw _ (List.mem_of_getElem? (i := 25) rfl))) (Or.inl (hw _ (List.mem_of_getElem? (i := 30) rfl))) (by decide) (t := .boolean) (t' := (.object sN1)) (by decide) (by decide)))
              have f43_F_negative_a1 : Fld Z h43 a1 sN0 "negative" "Z" ng := f14_F_negative_a1.other W43 (Or.inr (slot_ne (Or.inl (hw _ (List.mem_of_getElem? (i := 32) rfl))) (Or.inl (hw _ (List.mem_of_getElem? (i := 30) rfl))) (by decide) (t := .boolean) (t' := (.object sN1)) (by decide) (by decide)))
              have f43_F_digitRead_a1 : Fld Z h43 a1 sN0 "digitRead" "Z" (.int dr) := f14_F_digitRead_a1.other W43 (Or.inr (slot_ne (Or.inl (hw _ (List.mem_of_getElem? (i := 34) rfl))) (Or.inl (hw _ (List.mem_of_getElem? (i := 30) rfl))) (by decide) (t := .boolean) (t' := (.object sN1)) (by decide) (by decide)))
              have f43_F_integerDigits_a1 : Fld Z h43 a1 sN0 "integerDigits" "J" (.long id) := f14_F_integerDigits_a1.other W43 (Or.inr (slot_ne (Or.inl (hw _ (List.mem_of_getElem? (i := 36) rfl))) (Or.inl (hw _ (List.mem_of_getElem? (i := 30) rfl))) (by decide) (t := .long) (t' := (.object sN1)) (by decide) (by decide)))
              have f43_F_fractionDigits_a1 : Fld Z h43 a1 sN0 "fractionDigits" "J" (.long fd) := f14_F_fractionDigits_a1.other W43 (Or.inr (slot_ne (Or.inl (hw _ (List.mem_of_getElem? (i := 38) rfl))) (Or.inl (hw _ (List.mem_of_getElem? (i := 30) rfl))) (by decide) (t := .long) (t' := (.object sN1)) (by decide) (by decide)))
              have f43_F_pendingZeros_a1 : Fld Z h43 a1 sN0 "pendingZeros" "J" (.long pz) := f14_F_pendingZeros_a1.other W43 (Or.inr (slot_ne (Or.inl (hw _ (List.mem_of_getElem? (i := 40) rfl))) (Or.inl (hw _ (List.mem_of_getElem? (i := 30) rfl))) (by decide) (t := .long) (t' := (.object sN1)) (by decide) (by decide)))
              have f43_F_unscaled_a1 : Fld Z h43 a1 sN0 "unscaled" "J" (.long us) := f14_F_unscaled_a1.other W43 (Or.inr (slot_ne (Or.inl (hw _ (List.mem_of_getElem? (i := 42) rfl))) (Or.inl (hw _ (List.mem_of_getElem? (i := 30) rfl))) (by decide) (t := .long) (t' := (.object sN1)) (by decide) (by decide)))
              have z43 : n0 ≤ h43.size := by rw [W43.size]; exact z14
              have K43 : Keep h0 h43 [a1] := K14.wr W43 (Or.inl (List.mem_of_getElem? (i := 0) rfl))
              have N43 := Fr.snoc X43 N14 g_a1
              have R44 : ∀ t, Steps p.tables e below (T43.setTop (mkF m 124 #[rv a1, iv p2] [])) t → Steps p.tables e below (s₁.setTop f0) t := fun t k => R42 t (st43 t k)
              obtain ⟨fs, hr, hrun, hended, hW, hsame⟩ := X43.leave (v := none) (fun _ => rfl)
              refine ⟨_, _, pre0 _ (R44 _ ?_), hrun, hended, _, _, rfl, ?_, ⟨_, rfl⟩, hW, hsame.mono (by decide) (by decide)⟩
              · show Steps p.tables e below (T43.setTop (mkF m 124 #[rv a1, iv p2] [])) _
                exact X43.returnOut hx Bd.returns (hb hby d6_124) hr
              · show Q_rmTake Z a1 p2 0 io ng dr id fd pz us sS sI sF sB B h0 n0 _ T43.heap _
                rw [e43]
                exact ⟨ng, id, fd, pz, us, rfl, N43, K43, f43_F_integerOnly_a1, (by rw [show own_nx 0 p2 io = 3 from by simp [own_nx, own_nxB, own_dr, own_drB, own_D, own_P, own_G, hs1, hs2, hs3, hs4, hs5]]; exact fw43), f43_F_negative_a1, (by rw [show own_dr 0 p2 dr = dr from by simp [own_nx, own_nxB, own_dr, own_drB, own_D, own_P, own_G, hs1, hs2, hs3, hs4, hs5]]; exact f43_F_digitRead_a1), f43_F_integerDigits_a1, f43_F_fractionDigits_a1, f43_F_pendingZeros_a1, f43_F_unscaled_a1, ⟨hz.1, by have := hz.2; omega⟩⟩
          · skip
            have R45 : ∀ t, Steps p.tables e below (T14.setTop (mkF m 118 #[rv a1, iv p2] [(.ref a1)])) t → Steps p.tables e below (s₁.setTop f0) t := fun t k => R25 t (by
              show Steps p.tables e below (T14.setTop (mkF m 87 #[rv a1, iv p2] [(.int (46 : Int32)), (.int p2)])) _
              refine XS.icmpYes X14.here hx rfl (pc0 := 87) (pc' := 117) rfl (hb hby d6_87) rfl (feq hs4).2 (by decide) (by decide) ?_
              refine XS.aloadN X14.here hx rfl (hb hby d6_117) rfl rfl ?_
              exact k)
            obtain ⟨T46, X46, e46, st46⟩ := getS2 X14 hx hZ hown (host := "") (Or.inl (hw _ (List.mem_of_getElem? (i := 48) rfl))) Via.refl e14 f14_S_NumberText_Part_BROKEN (g := (mkF m 118 #[rv a1, iv p2] [(.ref a1)])) rfl (hb hby d6_118)
            have R47 : ∀ t, Steps p.tables e below (T46.setTop (mkF m 121 #[rv a1, iv p2] [(.ref sB), (.ref a1)])) t → Steps p.tables e below (s₁.setTop f0) t := fun t k => R45 t (st46 t k)
            obtain ⟨T48, h48, X48, e48, W48, st48⟩ := putF X46 hx hZ hown (host := "") (Or.inl (hw _ (List.mem_of_getElem? (i := 29) rfl))) Via.refl e46 fw14 f14_E_a1 (Or.inl (hw _ (List.mem_of_getElem? (i := 30) rfl))) (hw _ (List.mem_of_getElem? (i := 6) rfl)) (ty := (.object sN1)) (by decide) rfl rfl (g := (mkF m 121 #[rv a1, iv p2] [(.ref sB), (.ref a1)])) rfl rfl (hb hby d6_121)
            have fw48 : Fld Z h48 a1 sN0 "part" sN2 (.ref sB) := fw14.same W48
            have f48_E_a1 : Exa Z h48 a1 sN0 := f14_E_a1.wr W48
            have f48_S_NumberText_Part_SIGN : Sta Z h48 sN1 "SIGN" sN2 (.ref sS) := f14_S_NumberText_Part_SIGN.wr W48
            have f48_S_NumberText_Part_INTEGER : Sta Z h48 sN1 "INTEGER" sN2 (.ref sI) := f14_S_NumberText_Part_INTEGER.wr W48
            have f48_S_NumberText_Part_FRACTION : Sta Z h48 sN1 "FRACTION" sN2 (.ref sF) := f14_S_NumberText_Part_FRACTION.wr W48
            have f48_S_NumberText_Part_BROKEN : Sta Z h48 sN1 "BROKEN" sN2 (.ref sB) := f14_S_NumberText_Part_BROKEN.wr W48
            have f48_F_integerOnly_a1 : Fld Z h48 a1 sN0 "integerOnly" "Z" (.int io) := f14_F_integerOnly_a1.other W48 (Or.inr (slot_ne (Or.inl (hw _ (List.mem_of_getElem? (i := 25) rfl))) (Or.inl (hw _ (List.mem_of_getElem? (i := 30) rfl))) (by decide) (t := .boolean) (t' := (.object sN1)) (by decide) (by decide)))
            have f48_F_negative_a1 : Fld Z h48 a1 sN0 "negative" "Z" ng := f14_F_negative_a1.other W48 (Or.inr (slot_ne (Or.inl (hw _ (List.mem_of_getElem? (i := 32) rfl))) (Or.inl (hw _ (List.mem_of_getElem? (i := 30) rfl))) (by decide) (t := .boolean) (t' := (.object sN1)) (by decide) (by decide)))
            have f48_F_digitRead_a1 : Fld Z h48 a1 sN0 "digitRead" "Z" (.int dr) := f14_F_digitRead_a1.other W48 (Or.inr (slot_ne (Or.inl (hw _ (List.mem_of_getElem? (i := 34) rfl))) (Or.inl (hw _ (List.mem_of_getElem? (i := 30) rfl))) (by decide) (t := .boolean) (t' := (.object sN1)) (by decide) (by decide)))
            have f48_F_integerDigits_a1 : Fld Z h48 a1 sN0 "integerDigits" "J" (.long id) := f14_F_integerDigits_a1.other W48 (Or.inr (slot_ne (Or.inl (hw _ (List.mem_of_getElem? (i := 36) rfl))) (Or.inl (hw _ (List.mem_of_getElem? (i := 30) rfl))) (by decide) (t := .long) (t' := (.object sN1)) (by decide) (by decide)))
            have f48_F_fractionDigits_a1 : Fld Z h48 a1 sN0 "fractionDigits" "J" (.long fd) := f14_F_fractionDigits_a1.other W48 (Or.inr (slot_ne (Or.inl (hw _ (List.mem_of_getElem? (i := 38) rfl))) (Or.inl (hw _ (List.mem_of_getElem? (i := 30) rfl))) (by decide) (t := .long) (t' := (.object sN1)) (by decide) (by decide)))
            have f48_F_pendingZeros_a1 : Fld Z h48 a1 sN0 "pendingZeros" "J" (.long pz) := f14_F_pendingZeros_a1.other W48 (Or.inr (slot_ne (Or.inl (hw _ (List.mem_of_getElem? (i := 40) rfl))) (Or.inl (hw _ (List.mem_of_getElem? (i := 30) rfl))) (by decide) (t := .long) (t' := (.object sN1)) (by decide) (by decide)))
            have f48_F_unscaled_a1 : Fld Z h48 a1 sN0 "unscaled" "J" (.long us) := f14_F_unscaled_a1.other W48 (Or.inr (slot_ne (Or.inl (hw _ (List.mem_of_getElem? (i := 42) rfl))) (Or.inl (hw _ (List.mem_of_getElem? (i := 30) rfl))) (by decide) (t := .long) (t' := (.object sN1)) (by decide) (by decide)))
            have z48 : n0 ≤ h48.size := by rw [W48.size]; exact z14
            have K48 : Keep h0 h48 [a1] := K14.wr W48 (Or.inl (List.mem_of_getElem? (i := 0) rfl))
            have N48 := Fr.snoc X48 N14 g_a1
            have R49 : ∀ t, Steps p.tables e below (T48.setTop (mkF m 124 #[rv a1, iv p2] [])) t → Steps p.tables e below (s₁.setTop f0) t := fun t k => R47 t (st48 t k)
            obtain ⟨fs, hr, hrun, hended, hW, hsame⟩ := X48.leave (v := none) (fun _ => rfl)
            refine ⟨_, _, pre0 _ (R49 _ ?_), hrun, hended, _, _, rfl, ?_, ⟨_, rfl⟩, hW, hsame.mono (by decide) (by decide)⟩
            · show Steps p.tables e below (T48.setTop (mkF m 124 #[rv a1, iv p2] [])) _
              exact X48.returnOut hx Bd.returns (hb hby d6_124) hr
            · show Q_rmTake Z a1 p2 0 io ng dr id fd pz us sS sI sF sB B h0 n0 _ T48.heap _
              rw [e48]
              exact ⟨ng, id, fd, pz, us, rfl, N48, K48, f48_F_integerOnly_a1, (by rw [show own_nx 0 p2 io = 3 from by simp [own_nx, own_nxB, own_dr, own_drB, own_D, own_P, own_G, hs1, hs2, hs3, hs4]]; exact fw48), f48_F_negative_a1, (by rw [show own_dr 0 p2 dr = dr from by simp [own_nx, own_nxB, own_dr, own_drB, own_D, own_P, own_G, hs1, hs2, hs3, hs4]]; exact f48_F_digitRead_a1), f48_F_integerDigits_a1, f48_F_fractionDigits_a1, f48_F_pendingZeros_a1, f48_F_unscaled_a1, ⟨hz.1, by have := hz.2; omega⟩⟩
        · skip
          have R50 : ∀ t, Steps p.tables e below (T14.setTop (mkF m 65 #[rv a1, iv p2] [(.int (57 : Int32)), (.int p2)])) t → Steps p.tables e below (s₁.setTop f0) t := fun t k => R24 t (by
            show Steps p.tables e below (T14.setTop (mkF m 59 #[rv a1, iv p2] [(.int (48 : Int32)), (.int p2)])) _
            refine XS.icmpNo X14.here hx rfl (hb hby d6_59) rfl (flt hs3).1 ?_
            refine XS.iloadN X14.here hx rfl (hb hby d6_62) rfl  ?_
            show Steps p.tables e below (T14.setTop (mkF m 63 #[rv a1, iv p2] [(.int p2)])) _
            refine XS.bipush X14.here hx rfl (hb hby d6_63) ?_
            exact k)
          by_cases hs6 : (57 : Int32) < p2
          · skip
            have R51 : ∀ t, Steps p.tables e below (T14.setTop (mkF m 87 #[rv a1, iv p2] [(.int (46 : Int32)), (.int p2)])) t → Steps p.tables e below (s₁.setTop f0) t := fun t k => R50 t (by
              show Steps p.tables e below (T14.setTop (mkF m 65 #[rv a1, iv p2] [(.int (57 : Int32)), (.int p2)])) _
              refine XS.icmpYes X14.here hx rfl (pc0 := 65) (pc' := 84) rfl (hb hby d6_65) rfl (tlt hs6).2.2.1 (by decide) (by decide) ?_
              refine XS.iloadN X14.here hx rfl (hb hby d6_84) rfl  ?_
              show Steps p.tables e below (T14.setTop (mkF m 85 #[rv a1, iv p2] [(.int p2)])) _
              refine XS.bipush X14.here hx rfl (hb hby d6_85) ?_
              exact k)
            by_cases hs7 : p2 = (46 : Int32)
            · skip
              have R52 : ∀ t, Steps p.tables e below (T14.setTop (mkF m 91 #[rv a1, iv p2] [(.ref a1)])) t → Steps p.tables e below (s₁.setTop f0) t := fun t k => R51 t (by
                show Steps p.tables e below (T14.setTop (mkF m 87 #[rv a1, iv p2] [(.int (46 : Int32)), (.int p2)])) _
                refine XS.icmpNo X14.here hx rfl (hb hby d6_87) rfl (teq hs7).2 ?_
                refine XS.aloadN X14.here hx rfl (hb hby d6_90) rfl rfl ?_
                exact k)
              obtain ⟨T53, X53, e53, st53⟩ := getF X14 hx hZ hown (host := "") (Or.inl (hw _ (List.mem_of_getElem? (i := 29) rfl))) Via.refl e14 fw14 (g := (mkF m 91 #[rv a1, iv p2] [(.ref a1)])) rfl rfl (hb hby d6_91)
              have R54 : ∀ t, Steps p.tables e below (T53.setTop (mkF m 94 #[rv a1, iv p2] [(.ref sI)])) t → Steps p.tables e below (s₁.setTop f0) t := fun t k => R52 t (st53 t k)
              obtain ⟨T55, X55, e55, st55⟩ := getS2 X53 hx hZ hown (host := "") (Or.inl (hw _ (List.mem_of_getElem? (i := 56) rfl))) Via.refl e53 f14_S_NumberText_Part_INTEGER (g := (mkF m 94 #[rv a1, iv p2] [(.ref sI)])) rfl (hb hby d6_94)
              have R56 : ∀ t, Steps p.tables e below (T55.setTop (mkF m 97 #[rv a1, iv p2] [(.ref sI), (.ref sI)])) t → Steps p.tables e below (s₁.setTop f0) t := fun t k => R54 t (st55 t k)
              have R57 : ∀ t, Steps p.tables e below (T55.setTop (mkF m 101 #[rv a1, iv p2] [(.ref a1)])) t → Steps p.tables e below (s₁.setTop f0) t := fun t k => R56 t (by
                show Steps p.tables e below (T55.setTop (mkF m 97 #[rv a1, iv p2] [(.ref sI), (.ref sI)])) _
                refine Jvm.RoadKit.acmp (g := (mkF m 97 #[rv a1, iv p2] [(.ref sI), (.ref sI)])) X55 hx rfl rfl rfl (pc0 := 97) (pc' := 100) (same := true) rfl (hb hby d6_97) rfl (decide_eq_true rfl) (by decide) (by decide) ?_
                refine XS.aloadN X55.here hx rfl (hb hby d6_100) rfl rfl ?_
                exact k)
              obtain ⟨T58, X58, e58, st58⟩ := getF X55 hx hZ hown (host := "") (Or.inl (hw _ (List.mem_of_getElem? (i := 24) rfl))) Via.refl e55 f14_F_integerOnly_a1 (g := (mkF m 101 #[rv a1, iv p2] [(.ref a1)])) rfl rfl (hb hby d6_101)
              have R59 : ∀ t, Steps p.tables e below (T58.setTop (mkF m 104 #[rv a1, iv p2] [(.int io)])) t → Steps p.tables e below (s₁.setTop f0) t := fun t k => R57 t (st58 t k)
              by_cases hs8 : io = (0 : Int32)
              · skip
                have R60 : ∀ t, Steps p.tables e below (T58.setTop (mkF m 108 #[rv a1, iv p2] [(.ref a1)])) t → Steps p.tables e below (s₁.setTop f0) t := fun t k => R59 t (by
                  show Steps p.tables e below (T58.setTop (mkF m 104 #[rv a1, iv p2] [(.int io)])) _
                  refine XS.ifNo X58.here hx rfl (hb hby d6_104) rfl ((if0 _ _).trans (teq hs8).2) ?_
                  refine XS.aloadN X58.here hx rfl (hb hby d6_107) rfl rfl ?_
                  exact k)
                obtain ⟨T61, X61, e61, st61⟩ := getS2 X58 hx hZ hown (host := "") (Or.inl (hw _ (List.mem_of_getElem? (i := 79) rfl))) Via.refl e58 f14_S_NumberText_Part_FRACTION (g := (mkF m 108 #[rv a1, iv p2] [(.ref a1)])) rfl (hb hby d6_108)
                have R62 : ∀ t, Steps p.tables e below (T61.setTop (mkF m 111 #[rv a1, iv p2] [(.ref sF), (.ref a1)])) t → Steps p.tables e below (s₁.setTop f0) t := fun t k => R60 t (st61 t k)
                obtain ⟨T63, h63, X63, e63, W63, st63⟩ := putF X61 hx hZ hown (host := "") (Or.inl (hw _ (List.mem_of_getElem? (i := 29) rfl))) Via.refl e61 fw14 f14_E_a1 (Or.inl (hw _ (List.mem_of_getElem? (i := 30) rfl))) (hw _ (List.mem_of_getElem? (i := 6) rfl)) (ty := (.object sN1)) (by decide) rfl rfl (g := (mkF m 111 #[rv a1, iv p2] [(.ref sF), (.ref a1)])) rfl rfl (hb hby d6_111)
                have fw63 : Fld Z h63 a1 sN0 "part" sN2 (.ref sF) := fw14.same W63
                have f63_E_a1 : Exa Z h63 a1 sN0 := f14_E_a1.wr W63
                have f63_S_NumberText_Part_SIGN : Sta Z h63 sN1 "SIGN" sN2 (.ref sS) := f14_S_NumberText_Part_SIGN.wr W63
                have f63_S_NumberText_Part_INTEGER : Sta Z h63 sN1 "INTEGER" sN2 (.ref sI) := f14_S_NumberText_Part_INTEGER.wr W63
                have f63_S_NumberText_Part_FRACTION : Sta Z h63 sN1 "FRACTION" sN2 (.ref sF) := f14_S_NumberText_Part_FRACTION.wr W63
                have f63_S_NumberText_Part_BROKEN : Sta Z h63 sN1 "BROKEN" sN2 (.ref sB) := f14_S_NumberText_Part_BROKEN.wr W63
                have f63_F_integerOnly_a1 : Fld Z h63 a1 sN0 "integerOnly" "Z" (.int io) := f14_F_integerOnly_a1.other W63 (Or.inr (slot_ne (Or.inl (hw _ (List.mem_of_getElem? (i := 25) rfl))) (Or.inl (hw _ (List.mem_of_getElem? (i := 30) rfl))) (by decide) (t := .boolean) (t' := (.object sN1)) (by decide) (by decide)))
                have f63_F_negative_a1 : Fld Z h63 a1 sN0 "negative" "Z" ng := f14_F_negative_a1.other W63 (Or.inr (slot_ne (Or.inl (hw _ (List.mem_of_getElem? (i := 32) rfl))) (Or.inl (hw _ (List.mem_of_getElem? (i := 30) rfl))) (by decide) (t := .boolean) (t' := (.object sN1)) (by decide) (by decide)))
                have f63_F_digitRead_a1 : Fld Z h63 a1 sN0 "digitRead" "Z" (.int dr) := f14_F_digitRead_a1.other W63 (Or.inr (slot_ne (Or.inl (hw _ (List.mem_of_getElem? (i := 34) rfl))) (Or.inl (hw _ (List.mem_of_getElem? (i := 30) rfl))) (by decide) (t := .boolean) (t' := (.object sN1)) (by decide) (by decide)))
                have f63_F_integerDigits_a1 : Fld Z h63 a1 sN0 "integerDigits" "J" (.long id) := f14_F_integerDigits_a1.other W63 (Or.inr (slot_ne (Or.inl (hw _ (List.mem_of_getElem? (i := 36) rfl))) (Or.inl (hw _ (List.mem_of_getElem? (i := 30) rfl))) (by decide) (t := .long) (t' := (.object sN1)) (by decide) (by decide)))
                have f63_F_fractionDigits_a1 : Fld Z h63 a1 sN0 "fractionDigits" "J" (.long fd) := f14_F_fractionDigits_a1.other W63 (Or.inr (slot_ne (Or.inl (hw _ (List.mem_of_getElem? (i := 38) rfl))) (Or.inl (hw _ (List.mem_of_getElem? (i := 30) rfl))) (by decide) (t := .long) (t' := (.object sN1)) (by decide) (by decide)))
                have f63_F_pendingZeros_a1 : Fld Z h63 a1 sN0 "pendingZeros" "J" (.long pz) := f14_F_pendingZeros_a1.other W63 (Or.inr (slot_ne (Or.inl (hw _ (List.mem_of_getElem? (i := 40) rfl))) (Or.inl (hw _ (List.mem_of_getElem? (i := 30) rfl))) (by decide) (t := .long) (t' := (.object sN1)) (by decide) (by decide)))
                have f63_F_unscaled_a1 : Fld Z h63 a1 sN0 "unscaled" "J" (.long us) := f14_F_unscaled_a1.other W63 (Or.inr (slot_ne (Or.inl (hw _ (List.mem_of_getElem? (i := 42) rfl))) (Or.inl (hw _ (List.mem_of_getElem? (i := 30) rfl))) (by decide) (t := .long) (t' := (.object sN1)) (by decide) (by decide)))
                have z63 : n0 ≤ h63.size := by rw [W63.size]; exact z14
                have K63 : Keep h0 h63 [a1] := K14.wr W63 (Or.inl (List.mem_of_getElem? (i := 0) rfl))
                have N63 := Fr.snoc X63 N14 g_a1
                have R64 : ∀ t, Steps p.tables e below (T63.setTop (mkF m 114 #[rv a1, iv p2] [])) t → Steps p.tables e below (s₁.setTop f0) t := fun t k => R62 t (st63 t k)
                have R65 : ∀ t, Steps p.tables e below (T63.setTop (mkF m 124 #[rv a1, iv p2] [])) t → Steps p.tables e below (s₁.setTop f0) t := fun t k => R64 t (by
                  show Steps p.tables e below (T63.setTop (mkF m 114 #[rv a1, iv p2] [])) _
                  refine XS.goto X63.here hx rfl (pc0 := 114) (pc' := 124) rfl (hb hby d6_114) (by decide) (by decide) ?_
                  exact k)
                obtain ⟨fs, hr, hrun, hended, hW, hsame⟩ := X63.leave (v := none) (fun _ => rfl)
                refine ⟨_, _, pre0 _ (R65 _ ?_), hrun, hended, _, _, rfl, ?_, ⟨_, rfl⟩, hW, hsame.mono (by decide) (by decide)⟩
                · show Steps p.tables e below (T63.setTop (mkF m 124 #[rv a1, iv p2] [])) _
                  exact X63.returnOut hx Bd.returns (hb hby d6_124) hr
                · show Q_rmTake Z a1 p2 0 io ng dr id fd pz us sS sI sF sB B h0 n0 _ T63.heap _
                  rw [e63]
                  exact ⟨ng, id, fd, pz, us, rfl, N63, K63, f63_F_integerOnly_a1, (by rw [show own_nx 0 p2 io = 2 from by simp [own_nx, own_nxB, own_dr, own_drB, own_D, own_P, own_G, hs1, hs2, hs3, hs6, hs7, hs8]]; exact fw63), f63_F_negative_a1, (by rw [show own_dr 0 p2 dr = dr from by simp [own_nx, own_nxB, own_dr, own_drB, own_D, own_P, own_G, hs1, hs2, hs3, hs6, hs7, hs8]]; exact f63_F_digitRead_a1), f63_F_integerDigits_a1, f63_F_fractionDigits_a1, f63_F_pendingZeros_a1, f63_F_unscaled_a1, ⟨hz.1, by have := hz.2; omega⟩⟩
              · skip
                have R66 : ∀ t, Steps p.tables e below (T58.setTop (mkF m 118 #[rv a1, iv p2] [(.ref a1)])) t → Steps p.tables e below (s₁.setTop f0) t := fun t k => R59 t (by
                  show Steps p.tables e below (T58.setTop (mkF m 104 #[rv a1, iv p2] [(.int io)])) _
                  refine XS.ifYes X58.here hx rfl (pc0 := 104) (pc' := 117) rfl (hb hby d6_104) rfl ((if0 _ _).trans (feq hs8).2) (by decide) (by decide) ?_
                  refine XS.aloadN X58.here hx rfl (hb hby d6_117) rfl rfl ?_
                  exact k)
                obtain ⟨T67, X67, e67, st67⟩ := getS2 X58 hx hZ hown (host := "") (Or.inl (hw _ (List.mem_of_getElem? (i := 48) rfl))) Via.refl e58 f14_S_NumberText_Part_BROKEN (g := (mkF m 118 #[rv a1, iv p2] [(.ref a1)])) rfl (hb hby d6_118)
                have R68 : ∀ t, Steps p.tables e below (T67.setTop (mkF m 121 #[rv a1, iv p2] [(.ref sB), (.ref a1)])) t → Steps p.tables e below (s₁.setTop f0) t := fun t k => R66 t (st67 t k)
                obtain ⟨T69, h69, X69, e69, W69, st69⟩ := putF X67 hx hZ hown (host := "") (Or.inl (hw _ (List.mem_of_getElem? (i := 29) rfl))) Via.refl e67 fw14 f14_E_a1 (Or.inl (hw _ (List.mem_of_getElem? (i := 30) rfl))) (hw _ (List.mem_of_getElem? (i := 6) rfl)) (ty := (.object sN1)) (by decide) rfl rfl (g := (mkF m 121 #[rv a1, iv p2] [(.ref sB), (.ref a1)])) rfl rfl (hb hby d6_121)
                have fw69 : Fld Z h69 a1 sN0 "part" sN2 (.ref sB) := fw14.same W69
                have f69_E_a1 : Exa Z h69 a1 sN0 := f14_E_a1.wr W69
                have f69_S_NumberText_Part_SIGN : Sta Z h69 sN1 "SIGN" sN2 (.ref sS) := f14_S_NumberText_Part_SIGN.wr W69
                have f69_S_NumberText_Part_INTEGER : Sta Z h69 sN1 "INTEGER" sN2 (.ref sI) := f14_S_NumberText_Part_INTEGER.wr W69
                have f69_S_NumberText_Part_FRACTION : Sta Z h69 sN1 "FRACTION" sN2 (.ref sF) := f14_S_NumberText_Part_FRACTION.wr W69
                have f69_S_NumberText_Part_BROKEN : Sta Z h69 sN1 "BROKEN" sN2 (.ref sB) := f14_S_NumberText_Part_BROKEN.wr W69
                have f69_F_integerOnly_a1 : Fld Z h69 a1 sN0 "integerOnly" "Z" (.int io) := f14_F_integerOnly_a1.other W69 (Or.inr (slot_ne (Or.inl (hw _ (List.mem_of_getElem? (i := 25) rfl))) (Or.inl (hw _ (List.mem_of_getElem? (i := 30) rfl))) (by decide) (t := .boolean) (t' := (.object sN1)) (by decide) (by decide)))
                have f69_F_negative_a1 : Fld Z h69 a1 sN0 "negative" "Z" ng := f14_F_negative_a1.other W69 (Or.inr (slot_ne (Or.inl (hw _ (List.mem_of_getElem? (i := 32) rfl))) (Or.inl (hw _ (List.mem_of_getElem? (i := 30) rfl))) (by decide) (t := .boolean) (t' := (.object sN1)) (by decide) (by decide)))
                have f69_F_digitRead_a1 : Fld Z h69 a1 sN0 "digitRead" "Z" (.int dr) := f14_F_digitRead_a1.other W69 (Or.inr (slot_ne (Or.inl (hw _ (List.mem_of_getElem? (i := 34) rfl))) (Or.inl (hw _ (List.mem_of_getElem? (i := 30) rfl))) (by decide) (t := .boolean) (t' := (.object sN1)) (by decide) (by decide)))
                have f69_F_integerDigits_a1 : Fld Z h69 a1 sN0 "integerDigits" "J" (.long id) := f14_F_integerDigits_a1.other W69 (Or.inr (slot_ne (Or.inl (hw _ (List.mem_of_getElem? (i := 36) rfl))) (Or.inl (hw _ (List.mem_of_getElem? (i := 30) rfl))) (by decide) (t := .long) (t' := (.object sN1)) (by decide) (by decide)))
                have f69_F_fractionDigits_a1 : Fld Z h69 a1 sN0 "fractionDigits" "J" (.long fd) := f14_F_fractionDigits_a1.other W69 (Or.inr (slot_ne (Or.inl (hw _ (List.mem_of_getElem? (i := 38) rfl))) (Or.inl (hw _ (List.mem_of_getElem? (i := 30) rfl))) (by decide) (t := .long) (t' := (.object sN1)) (by decide) (by decide)))
                have f69_F_pendingZeros_a1 : Fld Z h69 a1 sN0 "pendingZeros" "J" (.long pz) := f14_F_pendingZeros_a1.other W69 (Or.inr (slot_ne (Or.inl (hw _ (List.mem_of_getElem? (i := 40) rfl))) (Or.inl (hw _ (List.mem_of_getElem? (i := 30) rfl))) (by decide) (t := .long) (t' := (.object sN1)) (by decide) (by decide)))
                have f69_F_unscaled_a1 : Fld Z h69 a1 sN0 "unscaled" "J" (.long us) := f14_F_unscaled_a1.other W69 (Or.inr (slot_ne (Or.inl (hw _ (List.mem_of_getElem? (i := 42) rfl))) (Or.inl (hw _ (List.mem_of_getElem? (i := 30) rfl))) (by decide) (t := .long) (t' := (.object sN1)) (by decide) (by decide)))
                have z69 : n0 ≤ h69.size := by rw [W69.size]; exact z14
                have K69 : Keep h0 h69 [a1] := K14.wr W69 (Or.inl (List.mem_of_getElem? (i := 0) rfl))
                have N69 := Fr.snoc X69 N14 g_a1
                have R70 : ∀ t, Steps p.tables e below (T69.setTop (mkF m 124 #[rv a1, iv p2] [])) t → Steps p.tables e below (s₁.setTop f0) t := fun t k => R68 t (st69 t k)
                obtain ⟨fs, hr, hrun, hended, hW, hsame⟩ := X69.leave (v := none) (fun _ => rfl)
                refine ⟨_, _, pre0 _ (R70 _ ?_), hrun, hended, _, _, rfl, ?_, ⟨_, rfl⟩, hW, hsame.mono (by decide) (by decide)⟩
                · show Steps p.tables e below (T69.setTop (mkF m 124 #[rv a1, iv p2] [])) _
                  exact X69.returnOut hx Bd.returns (hb hby d6_124) hr
                · show Q_rmTake Z a1 p2 0 io ng dr id fd pz us sS sI sF sB B h0 n0 _ T69.heap _
                  rw [e69]
                  exact ⟨ng, id, fd, pz, us, rfl, N69, K69, f69_F_integerOnly_a1, (by rw [show own_nx 0 p2 io = 3 from by simp [own_nx, own_nxB, own_dr, own_drB, own_D, own_P, own_G, hs1, hs2, hs3, hs6, hs7, hs8]]; exact fw69), f69_F_negative_a1, (by rw [show own_dr 0 p2 dr = dr from by simp [own_nx, own_nxB, own_dr, own_drB, own_D, own_P, own_G, hs1, hs2, hs3, hs6, hs7, hs8]]; exact f69_F_digitRead_a1), f69_F_integerDigits_a1, f69_F_fractionDigits_a1, f69_F_pendingZeros_a1, f69_F_unscaled_a1, ⟨hz.1, by have := hz.2; omega⟩⟩
            · skip
              have R71 : ∀ t, Steps p.tables e below (T14.setTop (mkF m 118 #[rv a1, iv p2] [(.ref a1)])) t → Steps p.tables e below (s₁.setTop f0) t := fun t k => R51 t (by
                show Steps p.tables e below (T14.setTop (mkF m 87 #[rv a1, iv p2] [(.int (46 : Int32)), (.int p2)])) _
                refine XS.icmpYes X14.here hx rfl (pc0 := 87) (pc' := 117) rfl (hb hby d6_87) rfl (feq hs7).2 (by decide) (by decide) ?_
                refine XS.aloadN X14.here hx rfl (hb hby d6_117) rfl rfl ?_
                exact k)
              obtain ⟨T72, X72, e72, st72⟩ := getS2 X14 hx hZ hown (host := "") (Or.inl (hw _ (List.mem_of_getElem? (i := 48) rfl))) Via.refl e14 f14_S_NumberText_Part_BROKEN (g := (mkF m 118 #[rv a1, iv p2] [(.ref a1)])) rfl (hb hby d6_118)
              have R73 : ∀ t, Steps p.tables e below (T72.setTop (mkF m 121 #[rv a1, iv p2] [(.ref sB), (.ref a1)])) t → Steps p.tables e below (s₁.setTop f0) t := fun t k => R71 t (st72 t k)
              obtain ⟨T74, h74, X74, e74, W74, st74⟩ := putF X72 hx hZ hown (host := "") (Or.inl (hw _ (List.mem_of_getElem? (i := 29) rfl))) Via.refl e72 fw14 f14_E_a1 (Or.inl (hw _ (List.mem_of_getElem? (i := 30) rfl))) (hw _ (List.mem_of_getElem? (i := 6) rfl)) (ty := (.object sN1)) (by decide) rfl rfl (g := (mkF m 121 #[rv a1, iv p2] [(.ref sB), (.ref a1)])) rfl rfl (hb hby d6_121)
              have fw74 : Fld Z h74 a1 sN0 "part" sN2 (.ref sB) := fw14.same W74
              have f74_E_a1 : Exa Z h74 a1 sN0 := f14_E_a1.wr W74
              have f74_S_NumberText_Part_SIGN : Sta Z h74 sN1 "SIGN" sN2 (.ref sS) := f14_S_NumberText_Part_SIGN.wr W74
              have f74_S_NumberText_Part_INTEGER : Sta Z h74 sN1 "INTEGER" sN2 (.ref sI) := f14_S_NumberText_Part_INTEGER.wr W74
              have f74_S_NumberText_Part_FRACTION : Sta Z h74 sN1 "FRACTION" sN2 (.ref sF) := f14_S_NumberText_Part_FRACTION.wr W74
              have f74_S_NumberText_Part_BROKEN : Sta Z h74 sN1 "BROKEN" sN2 (.ref sB) := f14_S_NumberText_Part_BROKEN.wr W74
              have f74_F_integerOnly_a1 : Fld Z h74 a1 sN0 "integerOnly" "Z" (.int io) := f14_F_integerOnly_a1.other W74 (Or.inr (slot_ne (Or.inl (hw _ (List.mem_of_getElem? (i := 25) rfl))) (Or.inl (hw _ (List.mem_of_getElem? (i := 30) rfl))) (by decide) (t := .boolean) (t' := (.object sN1)) (by decide) (by decide)))
              have f74_F_negative_a1 : Fld Z h74 a1 sN0 "negative" "Z" ng := f14_F_negative_a1.other W74 (Or.inr (slot_ne (Or.inl (hw _ (List.mem_of_getElem? (i := 32) rfl))) (Or.inl (hw _ (List.mem_of_getElem? (i := 30) rfl))) (by decide) (t := .boolean) (t' := (.object sN1)) (by decide) (by decide)))
              have f74_F_digitRead_a1 : Fld Z h74 a1 sN0 "digitRead" "Z" (.int dr) := f14_F_digitRead_a1.other W74 (Or.inr (slot_ne (Or.inl (hw _ (List.mem_of_getElem? (i := 34) rfl))) (Or.inl (hw _ (List.mem_of_getElem? (i := 30) rfl))) (by decide) (t := .boolean) (t' := (.object sN1)) (by decide) (by decide)))
              have f74_F_integerDigits_a1 : Fld Z h74 a1 sN0 "integerDigits" "J" (.long id) := f14_F_integerDigits_a1.other W74 (Or.inr (slot_ne (Or.inl (hw _ (List.mem_of_getElem? (i := 36) rfl))) (Or.inl (hw _ (List.mem_of_getElem? (i := 30) rfl))) (by decide) (t := .long) (t' := (.object sN1)) (by decide) (by decide)))
              have f74_F_fractionDigits_a1 : Fld Z h74 a1 sN0 "fractionDigits" "J" (.long fd) := f14_F_fractionDigits_a1.other W74 (Or.inr (slot_ne (Or.inl (hw _ (List.mem_of_getElem? (i := 38) rfl))) (Or.inl (hw _ (List.mem_of_getElem? (i := 30) rfl))) (by decide) (t := .long) (t' := (.object sN1)) (by decide) (by decide)))
              have f74_F_pendingZeros_a1 : Fld Z h74 a1 sN0 "pendingZeros" "J" (.long pz) := f14_F_pendingZeros_a1.other W74 (Or.inr (slot_ne (Or.inl (hw _ (List.mem_of_getElem? (i := 40) rfl))) (Or.inl (hw _ (List.mem_of_getElem? (i := 30) rfl))) (by decide) (t := .long) (t' := (.object sN1)) (by decide) (by decide)))
              have f74_F_unscaled_a1 : Fld Z h74 a1 sN0 "unscaled" "J" (.long us) := f14_F_unscaled_a1.other W74 (Or.inr (slot_ne (Or.inl (hw _ (List.mem_of_getElem? (i := 42) rfl))) (Or.inl (hw _ (List.mem_of_getElem? (i := 30) rfl))) (by decide) (t := .long) (t' := (.object sN1)) (by decide) (by decide)))
              have z74 : n0 ≤ h74.size := by rw [W74.size]; exact z14
              have K74 : Keep h0 h74 [a1] := K14.wr W74 (Or.inl (List.mem_of_getElem? (i := 0) rfl))
              have N74 := Fr.snoc X74 N14 g_a1
              have R75 : ∀ t, Steps p.tables e below (T74.setTop (mkF m 124 #[rv a1, iv p2] [])) t → Steps p.tables e below (s₁.setTop f0) t := fun t k => R73 t (st74 t k)
              obtain ⟨fs, hr, hrun, hended, hW, hsame⟩ := X74.leave (v := none) (fun _ => rfl)
              refine ⟨_, _, pre0 _ (R75 _ ?_), hrun, hended, _, _, rfl, ?_, ⟨_, rfl⟩, hW, hsame.mono (by decide) (by decide)⟩
              · show Steps p.tables e below (T74.setTop (mkF m 124 #[rv a1, iv p2] [])) _
                exact X74.returnOut hx Bd.returns (hb hby d6_124) hr
              · show Q_rmTake Z a1 p2 0 io ng dr id fd pz us sS sI sF sB B h0 n0 _ T74.heap _
                rw [e74]
                exact ⟨ng, id, fd, pz, us, rfl, N74, K74, f74_F_integerOnly_a1, (by rw [show own_nx 0 p2 io = 3 from by simp [own_nx, own_nxB, own_dr, own_drB, own_D, own_P, own_G, hs1, hs2, hs3, hs6, hs7]]; exact fw74), f74_F_negative_a1, (by rw [show own_dr 0 p2 dr = dr from by simp [own_nx, own_nxB, own_dr, own_drB, own_D, own_P, own_G, hs1, hs2, hs3, hs6, hs7]]; exact f74_F_digitRead_a1), f74_F_integerDigits_a1, f74_F_fractionDigits_a1, f74_F_pendingZeros_a1, f74_F_unscaled_a1, ⟨hz.1, by have := hz.2; omega⟩⟩
          · skip
            have R76 : ∀ t, Steps p.tables e below (T14.setTop (mkF m 70 #[rv a1, iv p2] [(.int (1 : Int32)), (.ref a1)])) t → Steps p.tables e below (s₁.setTop f0) t := fun t k => R50 t (by
              show Steps p.tables e below (T14.setTop (mkF m 65 #[rv a1, iv p2] [(.int (57 : Int32)), (.int p2)])) _
              refine XS.icmpNo X14.here hx rfl (hb hby d6_65) rfl (flt hs6).2.2.1 ?_
              refine XS.aloadN X14.here hx rfl (hb hby d6_68) rfl rfl ?_
              show Steps p.tables e below (T14.setTop (mkF m 69 #[rv a1, iv p2] [(.ref a1)])) _
              refine XS.iconst X14.here hx rfl (hb hby d6_69) ?_
              exact k)
            obtain ⟨T77, h77, X77, e77, W77, st77⟩ := putFN X14 hx hZ hown (hw _ (List.mem_of_getElem? (i := 33) rfl)) Via.refl e14 f14_F_digitRead_a1 f14_E_a1 (Or.inl (hw _ (List.mem_of_getElem? (i := 34) rfl))) (hw _ (List.mem_of_getElem? (i := 6) rfl)) (ty := .boolean) (v' := (.int (1 : Int32))) (by decide) rfl rfl (g := (mkF m 70 #[rv a1, iv p2] [(.int (1 : Int32)), (.ref a1)])) rfl rfl (hb hby d6_70)
            have fw77 : Fld Z h77 a1 sN0 "digitRead" "Z" (.int (1 : Int32)) := f14_F_digitRead_a1.same W77
            have f77_E_a1 : Exa Z h77 a1 sN0 := f14_E_a1.wr W77
            have f77_S_NumberText_Part_SIGN : Sta Z h77 sN1 "SIGN" sN2 (.ref sS) := f14_S_NumberText_Part_SIGN.wr W77
            have f77_S_NumberText_Part_INTEGER : Sta Z h77 sN1 "INTEGER" sN2 (.ref sI) := f14_S_NumberText_Part_INTEGER.wr W77
            have f77_S_NumberText_Part_FRACTION : Sta Z h77 sN1 "FRACTION" sN2 (.ref sF) := f14_S_NumberText_Part_FRACTION.wr W77
            have f77_S_NumberText_Part_BROKEN : Sta Z h77 sN1 "BROKEN" sN2 (.ref sB) := f14_S_NumberText_Part_BROKEN.wr W77
            have f77_F_integerOnly_a1 : Fld Z h77 a1 sN0 "integerOnly" "Z" (.int io) := f14_F_integerOnly_a1.other W77 (Or.inr (slot_ne (Or.inl (hw _ (List.mem_of_getElem? (i := 25) rfl))) (Or.inl (hw _ (List.mem_of_getElem? (i := 34) rfl))) (by decide) (t := .boolean) (t' := .boolean) (by decide) (by decide)))
            have f77_F_part_a1 : Fld Z h77 a1 sN0 "part" sN2 (.ref sI) := fw14.other W77 (Or.inr (slot_ne (Or.inl (hw _ (List.mem_of_getElem? (i := 30) rfl))) (Or.inl (hw _ (List.mem_of_getElem? (i := 34) rfl))) (by decide) (t := (.object sN1)) (t' := .boolean) (by decide) (by decide)))
            have f77_F_negative_a1 : Fld Z h77 a1 sN0 "negative" "Z" ng := f14_F_negative_a1.other W77 (Or.inr (slot_ne (Or.inl (hw _ (List.mem_of_getElem? (i := 32) rfl))) (Or.inl (hw _ (List.mem_of_getElem? (i := 34) rfl))) (by decide) (t := .boolean) (t' := .boolean) (by decide) (by decide)))
            have f77_F_integerDigits_a1 : Fld Z h77 a1 sN0 "integerDigits" "J" (.long id) := f14_F_integerDigits_a1.other W77 (Or.inr (slot_ne (Or.inl (hw _ (List.mem_of_getElem? (i := 36) rfl))) (Or.inl (hw _ (List.mem_of_getElem? (i := 34) rfl))) (by decide) (t := .long) (t' := .boolean) (by decide) (by decide)))
            have f77_F_fractionDigits_a1 : Fld Z h77 a1 sN0 "fractionDigits" "J" (.long fd) := f14_F_fractionDigits_a1.other W77 (Or.inr (slot_ne (Or.inl (hw _ (List.mem_of_getElem? (i := 38) rfl))) (Or.inl (hw _ (List.mem_of_getElem? (i := 34) rfl))) (by decide) (t := .long) (t' := .boolean) (by decide) (by decide)))
            have f77_F_pendingZeros_a1 : Fld Z h77 a1 sN0 "pendingZeros" "J" (.long pz) := f14_F_pendingZeros_a1.other W77 (Or.inr (slot_ne (Or.inl (hw _ (List.mem_of_getElem? (i := 40) rfl))) (Or.inl (hw _ (List.mem_of_getElem? (i := 34) rfl))) (by decide) (t := .long) (t' := .boolean) (by decide) (by decide)))
            have f77_F_unscaled_a1 : Fld Z h77 a1 sN0 "unscaled" "J" (.long us) := f14_F_unscaled_a1.other W77 (Or.inr (slot_ne (Or.inl (hw _ (List.mem_of_getElem? (i := 42) rfl))) (Or.inl (hw _ (List.mem_of_getElem? (i := 34) rfl))) (by decide) (t := .long) (t' := .boolean) (by decide) (by decide)))
            have z77 : n0 ≤ h77.size := by rw [W77.size]; exact z14
            have K77 : Keep h0 h77 [a1] := K14.wr W77 (Or.inl (List.mem_of_getElem? (i := 0) rfl))
            have N77 := Fr.snoc X77 N14 g_a1
            have R78 : ∀ t, Steps p.tables e below (T77.setTop (mkF m 73 #[rv a1, iv p2] [])) t → Steps p.tables e below (s₁.setTop f0) t := fun t k => R76 t (st77 t k)
            have R79 : ∀ t, Steps p.tables e below (T77.setTop (mkF m 78 #[rv a1, iv p2] [(.int (p2 - (48 : Int32))), (.ref a1)])) t → Steps p.tables e below (s₁.setTop f0) t := fun t k => R78 t (by
              show Steps p.tables e below (T77.setTop (mkF m 73 #[rv a1, iv p2] [])) _
              refine XS.aloadN X77.here hx rfl (hb hby d6_73) rfl rfl ?_
              refine XS.iloadN X77.here hx rfl (hb hby d6_74) rfl  ?_
              show Steps p.tables e below (T77.setTop (mkF m 75 #[rv a1, iv p2] [(.int p2), (.ref a1)])) _
              refine XS.bipush X77.here hx rfl (hb hby d6_75) ?_
              refine XS.isub X77.here hx rfl (hb hby d6_77) rfl ?_
              exact k)
            obtain ⟨cq80, q80, q80'⟩ := f77_E_a1.cell
            obtain ⟨_, _, ⟨T80, L80, k80, n80⟩, -, X80, ⟨Lc80, hQ80, l80, y80, z80⟩, st80⟩ := X77.privateBack hx (y := (⟨sN0, "digit", "(I)V"⟩ : MethodName)) hown (mvT hZ (hw _ (List.mem_of_getElem? (i := 58) rfl))) (mvT hZ (hw _ (List.mem_of_getElem? (i := 59) rfl))) (own_selp (w := (⟨sN0, "start", sN6⟩ : MethodName)) (mvT hZ (hw _ (List.mem_of_getElem? (i := 20) rfl))) rfl (Cond.privateMethod_at (mvP hZ (hw _ (List.mem_of_getElem? (i := 60) rfl)) (args := #[]))) (mvT hZ (hw _ (List.mem_of_getElem? (i := 59) rfl))) (by decide)) (Cond.privateMethod_at (mvP hZ (hw _ (List.mem_of_getElem? (i := 60) rfl)) (args := #[]))) (mvT hZ (hw _ (List.mem_of_getElem? (i := 61) rfl))) (by decide) (backOf (W := 0) (rmDigitI l Z a0 hw [] a1 (p2 - (48 : Int32)) io ng (1 : Int32) id fd pz us sI B h77 n0 z77 f77_E_a1 g_a1 f77_S_NumberText_Part_INTEGER hB hz f77_F_integerOnly_a1 f77_F_part_a1 f77_F_negative_a1 fw77 f77_F_integerDigits_a1 f77_F_fractionDigits_a1 f77_F_pendingZeros_a1 f77_F_unscaled_a1) hZ (hw _ (List.mem_of_getElem? (i := 61) rfl)) (hw _ (List.mem_of_getElem? (i := 7) rfl)) (by decide) (by decide)) (g := (mkF m 78 #[rv a1, iv p2] [(.int (p2 - (48 : Int32))), (.ref a1)])) rfl (by rw [hml]; rfl) (Steps.refl _) (a := a1) (by rw [e77]; exact q80) q80' (argsL := [(.int (p2 - (48 : Int32)))]) (rest := []) (lenOf pd_3 rfl) rfl (by show 2 * 0 + _ ≤ _; exact Nat.le_of_eq rfl) (hb hby d6_78) (fun _ _ => ⟨rfl, e77, (by decide : 0 + 0 ≤ _), (by decide : 0 + 0 ≤ _)⟩)
            dsimp only [Pt.U, Pt.locs, Pt.cells, Pt.slots] at X80 l80 y80 z80 st80 hQ80
            subst l80 y80 z80
            obtain ⟨id2_80, fd2_80, pz2_80, us2_80, rfl, N80q, p80_0, p80_1, p80_2, p80_3, p80_4, p80_5, p80_6, p80_7, p80_8, p80_9⟩ := hQ80
            have N80 := Fr.app N77 N80q
            have f80_E_a1 : Exa Z T80.heap a1 sN0 := f77_E_a1.keep p80_0
            have f80_S_NumberText_Part_SIGN : Sta Z T80.heap sN1 "SIGN" sN2 (.ref sS) := own_sta_keep f77_S_NumberText_Part_SIGN p80_0 (nsS f77_E_a1.nostat ns0)
            have f80_S_NumberText_Part_INTEGER : Sta Z T80.heap sN1 "INTEGER" sN2 (.ref sI) := own_sta_keep f77_S_NumberText_Part_INTEGER p80_0 (nsS f77_E_a1.nostat ns0)
            have f80_S_NumberText_Part_FRACTION : Sta Z T80.heap sN1 "FRACTION" sN2 (.ref sF) := own_sta_keep f77_S_NumberText_Part_FRACTION p80_0 (nsS f77_E_a1.nostat ns0)
            have f80_S_NumberText_Part_BROKEN : Sta Z T80.heap sN1 "BROKEN" sN2 (.ref sB) := own_sta_keep f77_S_NumberText_Part_BROKEN p80_0 (nsS f77_E_a1.nostat ns0)
            have z80 : n0 ≤ T80.heap.size := Nat.le_trans z77 p80_0.1
            have K80 : Keep h0 T80.heap [a1] := K77.trans p80_0 (allS (Or.inl (List.mem_of_getElem? (i := 0) rfl)) all0)
            have R81 : ∀ t, Steps p.tables e below (T80.setTop (mkF m 81 #[rv a1, iv p2] [])) t → Steps p.tables e below (s₁.setTop f0) t := fun t k => R79 t (st80.trans k)
            have R82 : ∀ t, Steps p.tables e below (T80.setTop (mkF m 124 #[rv a1, iv p2] [])) t → Steps p.tables e below (s₁.setTop f0) t := fun t k => R81 t (by
              show Steps p.tables e below (T80.setTop (mkF m 81 #[rv a1, iv p2] [])) _
              refine XS.goto X80.here hx rfl (pc0 := 81) (pc' := 124) rfl (hb hby d6_81) (by decide) (by decide) ?_
              exact k)
            obtain ⟨fs, hr, hrun, hended, hW, hsame⟩ := X80.leave (v := none) (fun _ => rfl)
            refine ⟨_, _, pre0 _ (R82 _ ?_), hrun, hended, _, _, rfl, ?_, ⟨_, rfl⟩, hW, hsame.mono (by decide) (by decide)⟩
            · show Steps p.tables e below (T80.setTop (mkF m 124 #[rv a1, iv p2] [])) _
              exact X80.returnOut hx Bd.returns (hb hby d6_124) hr
            · show Q_rmTake Z a1 p2 0 io ng dr id fd pz us sS sI sF sB B h0 n0 _ T80.heap _
              exact ⟨ng, id2_80, fd2_80, pz2_80, us2_80, rfl, N80, K80, p80_1, (by rw [show own_nx 0 p2 io = 1 from by simp [own_nx, own_nxB, own_dr, own_drB, own_D, own_P, own_G, hs1, hs2, hs3, hs6]]; exact p80_2), p80_3, (by rw [show own_dr 0 p2 dr = (1 : Int32) from by simp [own_nx, own_nxB, own_dr, own_drB, own_D, own_P, own_G, hs1, hs2, hs3, hs6]]; exact p80_4), p80_5, p80_6, p80_7, p80_8, p80_9⟩
  · skip
    have Fp0 : Fld Z h0 a1 sN0 "part" sN2 (.ref sI) := F_part_a1
    have R83 : ∀ t, Steps p.tables e below (s₁.setTop (mkF m 1 #[rv a1, iv p2] [(.ref a1)])) t → Steps p.tables e below (s₁.setTop f0) t := fun t k => R0 t (by
      show Steps p.tables e below (s₁.setTop (mkF m 0 #[rv a1, iv p2] [])) _
      refine XS.aloadN X0.here hx rfl (hb hby d6_0) rfl rfl ?_
      exact k)
    obtain ⟨T84, X84, e84, st84⟩ := getF X0 hx hZ hown (host := "") (Or.inl (hw _ (List.mem_of_getElem? (i := 29) rfl))) Via.refl e0 Fp0 (g := (mkF m 1 #[rv a1, iv p2] [(.ref a1)])) rfl rfl (hb hby d6_1)
    have R85 : ∀ t, Steps p.tables e below (T84.setTop (mkF m 4 #[rv a1, iv p2] [(.ref sI)])) t → Steps p.tables e below (s₁.setTop f0) t := fun t k => R83 t (st84 t k)
    obtain ⟨T86, X86, e86, st86⟩ := getS2 X84 hx hZ hown (host := "") (Or.inl (hw _ (List.mem_of_getElem? (i := 48) rfl))) Via.refl e84 S_NumberText_Part_BROKEN (g := (mkF m 4 #[rv a1, iv p2] [(.ref sI)])) rfl (hb hby d6_4)
    have R87 : ∀ t, Steps p.tables e below (T86.setTop (mkF m 7 #[rv a1, iv p2] [(.ref sB), (.ref sI)])) t → Steps p.tables e below (s₁.setTop f0) t := fun t k => R85 t (st86 t k)
    have R88 : ∀ t, Steps p.tables e below (T86.setTop (mkF m 12 #[rv a1, iv p2] [(.ref a1)])) t → Steps p.tables e below (s₁.setTop f0) t := fun t k => R87 t (by
      show Steps p.tables e below (T86.setTop (mkF m 7 #[rv a1, iv p2] [(.ref sB), (.ref sI)])) _
      refine Jvm.RoadKit.acmp (g := (mkF m 7 #[rv a1, iv p2] [(.ref sB), (.ref sI)])) X86 hx rfl rfl rfl (pc0 := 7) (pc' := 11) (same := false) rfl (hb hby d6_7) rfl (decide_eq_false fun q => ne_sI_sB (Value.ref.inj q)) (by decide) (by decide) ?_
      refine XS.aloadN X86.here hx rfl (hb hby d6_11) rfl rfl ?_
      exact k)
    obtain ⟨T89, X89, e89, st89⟩ := getF X86 hx hZ hown (host := "") (Or.inl (hw _ (List.mem_of_getElem? (i := 29) rfl))) Via.refl e86 Fp0 (g := (mkF m 12 #[rv a1, iv p2] [(.ref a1)])) rfl rfl (hb hby d6_12)
    have R90 : ∀ t, Steps p.tables e below (T89.setTop (mkF m 15 #[rv a1, iv p2] [(.ref sI)])) t → Steps p.tables e below (s₁.setTop f0) t := fun t k => R88 t (st89 t k)
    obtain ⟨T91, X91, e91, st91⟩ := getS2 X89 hx hZ hown (host := "") (Or.inl (hw _ (List.mem_of_getElem? (i := 26) rfl))) Via.refl e89 S_NumberText_Part_SIGN (g := (mkF m 15 #[rv a1, iv p2] [(.ref sI)])) rfl (hb hby d6_15)
    have R92 : ∀ t, Steps p.tables e below (T91.setTop (mkF m 18 #[rv a1, iv p2] [(.ref sS), (.ref sI)])) t → Steps p.tables e below (s₁.setTop f0) t := fun t k => R90 t (st91 t k)
    have R93 : ∀ t, Steps p.tables e below (T91.setTop (mkF m 59 #[rv a1, iv p2] [(.int (48 : Int32)), (.int p2)])) t → Steps p.tables e below (s₁.setTop f0) t := fun t k => R92 t (by
      show Steps p.tables e below (T91.setTop (mkF m 18 #[rv a1, iv p2] [(.ref sS), (.ref sI)])) _
      refine Jvm.RoadKit.acmp (g := (mkF m 18 #[rv a1, iv p2] [(.ref sS), (.ref sI)])) X91 hx rfl rfl rfl (pc0 := 18) (pc' := 56) (same := false) rfl (hb hby d6_18) rfl (decide_eq_false fun q => (Ne.symm ne_sS_sI) (Value.ref.inj q)) (by decide) (by decide) ?_
      refine XS.iloadN X91.here hx rfl (hb hby d6_56) rfl  ?_
      show Steps p.tables e below (T91.setTop (mkF m 57 #[rv a1, iv p2] [(.int p2)])) _
      refine XS.bipush X91.here hx rfl (hb hby d6_57) ?_
      exact k)
    by_cases hs9 : p2 < (48 : Int32)
    · skip
      have R94 : ∀ t, Steps p.tables e below (T91.setTop (mkF m 87 #[rv a1, iv p2] [(.int (46 : Int32)), (.int p2)])) t → Steps p.tables e below (s₁.setTop f0) t := fun t k => R93 t (by
        show Steps p.tables e below (T91.setTop (mkF m 59 #[rv a1, iv p2] [(.int (48 : Int32)), (.int p2)])) _
        refine XS.icmpYes X91.here hx rfl (pc0 := 59) (pc' := 84) rfl (hb hby d6_59) rfl (tlt hs9).1 (by decide) (by decide) ?_
        refine XS.iloadN X91.here hx rfl (hb hby d6_84) rfl  ?_
        show Steps p.tables e below (T91.setTop (mkF m 85 #[rv a1, iv p2] [(.int p2)])) _
        refine XS.bipush X91.here hx rfl (hb hby d6_85) ?_
        exact k)
      by_cases hs10 : p2 = (46 : Int32)
      · skip
        have R95 : ∀ t, Steps p.tables e below (T91.setTop (mkF m 91 #[rv a1, iv p2] [(.ref a1)])) t → Steps p.tables e below (s₁.setTop f0) t := fun t k => R94 t (by
          show Steps p.tables e below (T91.setTop (mkF m 87 #[rv a1, iv p2] [(.int (46 : Int32)), (.int p2)])) _
          refine XS.icmpNo X91.here hx rfl (hb hby d6_87) rfl (teq hs10).2 ?_
          refine XS.aloadN X91.here hx rfl (hb hby d6_90) rfl rfl ?_
          exact k)
        obtain ⟨T96, X96, e96, st96⟩ := getF X91 hx hZ hown (host := "") (Or.inl (hw _ (List.mem_of_getElem? (i := 29) rfl))) Via.refl e91 Fp0 (g := (mkF m 91 #[rv a1, iv p2] [(.ref a1)])) rfl rfl (hb hby d6_91)
        have R97 : ∀ t, Steps p.tables e below (T96.setTop (mkF m 94 #[rv a1, iv p2] [(.ref sI)])) t → Steps p.tables e below (s₁.setTop f0) t := fun t k => R95 t (st96 t k)
        obtain ⟨T98, X98, e98, st98⟩ := getS2 X96 hx hZ hown (host := "") (Or.inl (hw _ (List.mem_of_getElem? (i := 56) rfl))) Via.refl e96 S_NumberText_Part_INTEGER (g := (mkF m 94 #[rv a1, iv p2] [(.ref sI)])) rfl (hb hby d6_94)
        have R99 : ∀ t, Steps p.tables e below (T98.setTop (mkF m 97 #[rv a1, iv p2] [(.ref sI), (.ref sI)])) t → Steps p.tables e below (s₁.setTop f0) t := fun t k => R97 t (st98 t k)
        have R100 : ∀ t, Steps p.tables e below (T98.setTop (mkF m 101 #[rv a1, iv p2] [(.ref a1)])) t → Steps p.tables e below (s₁.setTop f0) t := fun t k => R99 t (by
          show Steps p.tables e below (T98.setTop (mkF m 97 #[rv a1, iv p2] [(.ref sI), (.ref sI)])) _
          refine Jvm.RoadKit.acmp (g := (mkF m 97 #[rv a1, iv p2] [(.ref sI), (.ref sI)])) X98 hx rfl rfl rfl (pc0 := 97) (pc' := 100) (same := true) rfl (hb hby d6_97) rfl (decide_eq_true rfl) (by decide) (by decide) ?_
          refine XS.aloadN X98.here hx rfl (hb hby d6_100) rfl rfl ?_
          exact k)
        obtain ⟨T101, X101, e101, st101⟩ := getF X98 hx hZ hown (host := "") (Or.inl (hw _ (List.mem_of_getElem? (i := 24) rfl))) Via.refl e98 F_integerOnly_a1 (g := (mkF m 101 #[rv a1, iv p2] [(.ref a1)])) rfl rfl (hb hby d6_101)
        have R102 : ∀ t, Steps p.tables e below (T101.setTop (mkF m 104 #[rv a1, iv p2] [(.int io)])) t → Steps p.tables e below (s₁.setTop f0) t := fun t k => R100 t (st101 t k)
        by_cases hs11 : io = (0 : Int32)
        · skip
          have R103 : ∀ t, Steps p.tables e below (T101.setTop (mkF m 108 #[rv a1, iv p2] [(.ref a1)])) t → Steps p.tables e below (s₁.setTop f0) t := fun t k => R102 t (by
            show Steps p.tables e below (T101.setTop (mkF m 104 #[rv a1, iv p2] [(.int io)])) _
            refine XS.ifNo X101.here hx rfl (hb hby d6_104) rfl ((if0 _ _).trans (teq hs11).2) ?_
            refine XS.aloadN X101.here hx rfl (hb hby d6_107) rfl rfl ?_
            exact k)
          obtain ⟨T104, X104, e104, st104⟩ := getS2 X101 hx hZ hown (host := "") (Or.inl (hw _ (List.mem_of_getElem? (i := 79) rfl))) Via.refl e101 S_NumberText_Part_FRACTION (g := (mkF m 108 #[rv a1, iv p2] [(.ref a1)])) rfl (hb hby d6_108)
          have R105 : ∀ t, Steps p.tables e below (T104.setTop (mkF m 111 #[rv a1, iv p2] [(.ref sF), (.ref a1)])) t → Steps p.tables e below (s₁.setTop f0) t := fun t k => R103 t (st104 t k)
          obtain ⟨T106, h106, X106, e106, W106, st106⟩ := putF X104 hx hZ hown (host := "") (Or.inl (hw _ (List.mem_of_getElem? (i := 29) rfl))) Via.refl e104 Fp0 E_a1 (Or.inl (hw _ (List.mem_of_getElem? (i := 30) rfl))) (hw _ (List.mem_of_getElem? (i := 6) rfl)) (ty := (.object sN1)) (by decide) rfl rfl (g := (mkF m 111 #[rv a1, iv p2] [(.ref sF), (.ref a1)])) rfl rfl (hb hby d6_111)
          have fw106 : Fld Z h106 a1 sN0 "part" sN2 (.ref sF) := Fp0.same W106
          have f106_E_a1 : Exa Z h106 a1 sN0 := E_a1.wr W106
          have f106_S_NumberText_Part_SIGN : Sta Z h106 sN1 "SIGN" sN2 (.ref sS) := S_NumberText_Part_SIGN.wr W106
          have f106_S_NumberText_Part_INTEGER : Sta Z h106 sN1 "INTEGER" sN2 (.ref sI) := S_NumberText_Part_INTEGER.wr W106
          have f106_S_NumberText_Part_FRACTION : Sta Z h106 sN1 "FRACTION" sN2 (.ref sF) := S_NumberText_Part_FRACTION.wr W106
          have f106_S_NumberText_Part_BROKEN : Sta Z h106 sN1 "BROKEN" sN2 (.ref sB) := S_NumberText_Part_BROKEN.wr W106
          have f106_F_integerOnly_a1 : Fld Z h106 a1 sN0 "integerOnly" "Z" (.int io) := F_integerOnly_a1.other W106 (Or.inr (slot_ne (Or.inl (hw _ (List.mem_of_getElem? (i := 25) rfl))) (Or.inl (hw _ (List.mem_of_getElem? (i := 30) rfl))) (by decide) (t := .boolean) (t' := (.object sN1)) (by decide) (by decide)))
          have f106_F_negative_a1 : Fld Z h106 a1 sN0 "negative" "Z" ng := F_negative_a1.other W106 (Or.inr (slot_ne (Or.inl (hw _ (List.mem_of_getElem? (i := 32) rfl))) (Or.inl (hw _ (List.mem_of_getElem? (i := 30) rfl))) (by decide) (t := .boolean) (t' := (.object sN1)) (by decide) (by decide)))
          have f106_F_digitRead_a1 : Fld Z h106 a1 sN0 "digitRead" "Z" (.int dr) := F_digitRead_a1.other W106 (Or.inr (slot_ne (Or.inl (hw _ (List.mem_of_getElem? (i := 34) rfl))) (Or.inl (hw _ (List.mem_of_getElem? (i := 30) rfl))) (by decide) (t := .boolean) (t' := (.object sN1)) (by decide) (by decide)))
          have f106_F_integerDigits_a1 : Fld Z h106 a1 sN0 "integerDigits" "J" (.long id) := F_integerDigits_a1.other W106 (Or.inr (slot_ne (Or.inl (hw _ (List.mem_of_getElem? (i := 36) rfl))) (Or.inl (hw _ (List.mem_of_getElem? (i := 30) rfl))) (by decide) (t := .long) (t' := (.object sN1)) (by decide) (by decide)))
          have f106_F_fractionDigits_a1 : Fld Z h106 a1 sN0 "fractionDigits" "J" (.long fd) := F_fractionDigits_a1.other W106 (Or.inr (slot_ne (Or.inl (hw _ (List.mem_of_getElem? (i := 38) rfl))) (Or.inl (hw _ (List.mem_of_getElem? (i := 30) rfl))) (by decide) (t := .long) (t' := (.object sN1)) (by decide) (by decide)))
          have f106_F_pendingZeros_a1 : Fld Z h106 a1 sN0 "pendingZeros" "J" (.long pz) := F_pendingZeros_a1.other W106 (Or.inr (slot_ne (Or.inl (hw _ (List.mem_of_getElem? (i := 40) rfl))) (Or.inl (hw _ (List.mem_of_getElem? (i := 30) rfl))) (by decide) (t := .long) (t' := (.object sN1)) (by decide) (by decide)))
          have f106_F_unscaled_a1 : Fld Z h106 a1 sN0 "unscaled" "J" (.long us) := F_unscaled_a1.other W106 (Or.inr (slot_ne (Or.inl (hw _ (List.mem_of_getElem? (i := 42) rfl))) (Or.inl (hw _ (List.mem_of_getElem? (i := 30) rfl))) (by decide) (t := .long) (t' := (.object sN1)) (by decide) (by decide)))
          have z106 : n0 ≤ h106.size := by rw [W106.size]; exact Z0
          have K106 : Keep h0 h106 [a1] := (Keep.refl h0 [a1]).wr W106 (Or.inl (List.mem_of_getElem? (i := 0) rfl))
          have N106 := Fr.snoc X106 N0 g_a1
          have R107 : ∀ t, Steps p.tables e below (T106.setTop (mkF m 114 #[rv a1, iv p2] [])) t → Steps p.tables e below (s₁.setTop f0) t := fun t k => R105 t (st106 t k)
          have R108 : ∀ t, Steps p.tables e below (T106.setTop (mkF m 124 #[rv a1, iv p2] [])) t → Steps p.tables e below (s₁.setTop f0) t := fun t k => R107 t (by
            show Steps p.tables e below (T106.setTop (mkF m 114 #[rv a1, iv p2] [])) _
            refine XS.goto X106.here hx rfl (pc0 := 114) (pc' := 124) rfl (hb hby d6_114) (by decide) (by decide) ?_
            exact k)
          obtain ⟨fs, hr, hrun, hended, hW, hsame⟩ := X106.leave (v := none) (fun _ => rfl)
          refine ⟨_, _, pre0 _ (R108 _ ?_), hrun, hended, _, _, rfl, ?_, ⟨_, rfl⟩, hW, hsame.mono (by decide) (by decide)⟩
          · show Steps p.tables e below (T106.setTop (mkF m 124 #[rv a1, iv p2] [])) _
            exact X106.returnOut hx Bd.returns (hb hby d6_124) hr
          · show Q_rmTake Z a1 p2 1 io ng dr id fd pz us sS sI sF sB B h0 n0 _ T106.heap _
            rw [e106]
            exact ⟨ng, id, fd, pz, us, rfl, N106, K106, f106_F_integerOnly_a1, (by rw [show own_nx 1 p2 io = 2 from by simp [own_nx, own_nxB, own_dr, own_drB, own_D, own_P, own_G, hs9, hs10, hs11]]; exact fw106), f106_F_negative_a1, (by rw [show own_dr 1 p2 dr = dr from by simp [own_nx, own_nxB, own_dr, own_drB, own_D, own_P, own_G, hs9, hs10, hs11]]; exact f106_F_digitRead_a1), f106_F_integerDigits_a1, f106_F_fractionDigits_a1, f106_F_pendingZeros_a1, f106_F_unscaled_a1, ⟨hz.1, by have := hz.2; omega⟩⟩
        · skip
          have R109 : ∀ t, Steps p.tables e below (T101.setTop (mkF m 118 #[rv a1, iv p2] [(.ref a1)])) t → Steps p.tables e below (s₁.setTop f0) t := fun t k => R102 t (by
            show Steps p.tables e below (T101.setTop (mkF m 104 #[rv a1, iv p2] [(.int io)])) _
            refine XS.ifYes X101.here hx rfl (pc0 := 104) (pc' := 117) rfl (hb hby d6_104) rfl ((if0 _ _).trans (feq hs11).2) (by decide) (by decide) ?_
            refine XS.aloadN X101.here hx rfl (hb hby d6_117) rfl rfl ?_
            exact k)
          obtain ⟨T110, X110, e110, st110⟩ := getS2 X101 hx hZ hown (host := "") (Or.inl (hw _ (List.mem_of_getElem? (i := 48) rfl))) Via.refl e101 S_NumberText_Part_BROKEN (g := (mkF m 118 #[rv a1, iv p2] [(.ref a1)])) rfl (hb hby d6_118)
          have R111 : ∀ t, Steps p.tables e below (T110.setTop (mkF m 121 #[rv a1, iv p2] [(.ref sB), (.ref a1)])) t → Steps p.tables e below (s₁.setTop f0) t := fun t k => R109 t (st110 t k)
          obtain ⟨T112, h112, X112, e112, W112, st112⟩ := putF X110 hx hZ hown (host := "") (Or.inl (hw _ (List.mem_of_getElem? (i := 29) rfl))) Via.refl e110 Fp0 E_a1 (Or.inl (hw _ (List.mem_of_getElem? (i := 30) rfl))) (hw _ (List.mem_of_getElem? (i := 6) rfl)) (ty := (.object sN1)) (by decide) rfl rfl (g := (mkF m 121 #[rv a1, iv p2] [(.ref sB), (.ref a1)])) rfl rfl (hb hby d6_121)
          have fw112 : Fld Z h112 a1 sN0 "part" sN2 (.ref sB) := Fp0.same W112
          have f112_E_a1 : Exa Z h112 a1 sN0 := E_a1.wr W112
          have f112_S_NumberText_Part_SIGN : Sta Z h112 sN1 "SIGN" sN2 (.ref sS) := S_NumberText_Part_SIGN.wr W112
          have f112_S_NumberText_Part_INTEGER : Sta Z h112 sN1 "INTEGER" sN2 (.ref sI) := S_NumberText_Part_INTEGER.wr W112
          have f112_S_NumberText_Part_FRACTION : Sta Z h112 sN1 "FRACTION" sN2 (.ref sF) := S_NumberText_Part_FRACTION.wr W112
          have f112_S_NumberText_Part_BROKEN : Sta Z h112 sN1 "BROKEN" sN2 (.ref sB) := S_NumberText_Part_BROKEN.wr W112
          have f112_F_integerOnly_a1 : Fld Z h112 a1 sN0 "integerOnly" "Z" (.int io) := F_integerOnly_a1.other W112 (Or.inr (slot_ne (Or.inl (hw _ (List.mem_of_getElem? (i := 25) rfl))) (Or.inl (hw _ (List.mem_of_getElem? (i := 30) rfl))) (by decide) (t := .boolean) (t' := (.object sN1)) (by decide) (by decide)))
          have f112_F_negative_a1 : Fld Z h112 a1 sN0 "negative" "Z" ng := F_negative_a1.other W112 (Or.inr (slot_ne (Or.inl (hw _ (List.mem_of_getElem? (i := 32) rfl))) (Or.inl (hw _ (List.mem_of_getElem? (i := 30) rfl))) (by decide) (t := .boolean) (t' := (.object sN1)) (by decide) (by decide)))
          have f112_F_digitRead_a1 : Fld Z h112 a1 sN0 "digitRead" "Z" (.int dr) := F_digitRead_a1.other W112 (Or.inr (slot_ne (Or.inl (hw _ (List.mem_of_getElem? (i := 34) rfl))) (Or.inl (hw _ (List.mem_of_getElem? (i := 30) rfl))) (by decide) (t := .boolean) (t' := (.object sN1)) (by decide) (by decide)))
          have f112_F_integerDigits_a1 : Fld Z h112 a1 sN0 "integerDigits" "J" (.long id) := F_integerDigits_a1.other W112 (Or.inr (slot_ne (Or.inl (hw _ (List.mem_of_getElem? (i := 36) rfl))) (Or.inl (hw _ (List.mem_of_getElem? (i := 30) rfl))) (by decide) (t := .long) (t' := (.object sN1)) (by decide) (by decide)))
          have f112_F_fractionDigits_a1 : Fld Z h112 a1 sN0 "fractionDigits" "J" (.long fd) := F_fractionDigits_a1.other W112 (Or.inr (slot_ne (Or.inl (hw _ (List.mem_of_getElem? (i := 38) rfl))) (Or.inl (hw _ (List.mem_of_getElem? (i := 30) rfl))) (by decide) (t := .long) (t' := (.object sN1)) (by decide) (by decide)))
          have f112_F_pendingZeros_a1 : Fld Z h112 a1 sN0 "pendingZeros" "J" (.long pz) := F_pendingZeros_a1.other W112 (Or.inr (slot_ne (Or.inl (hw _ (List.mem_of_getElem? (i := 40) rfl))) (Or.inl (hw _ (List.mem_of_getElem? (i := 30) rfl))) (by decide) (t := .long) (t' := (.object sN1)) (by decide) (by decide)))
          have f112_F_unscaled_a1 : Fld Z h112 a1 sN0 "unscaled" "J" (.long us) := F_unscaled_a1.other W112 (Or.inr (slot_ne (Or.inl (hw _ (List.mem_of_getElem? (i := 42) rfl))) (Or.inl (hw _ (List.mem_of_getElem? (i := 30) rfl))) (by decide) (t := .long) (t' := (.object sN1)) (by decide) (by decide)))
          have z112 : n0 ≤ h112.size := by rw [W112.size]; exact Z0
          have K112 : Keep h0 h112 [a1] := (Keep.refl h0 [a1]).wr W112 (Or.inl (List.mem_of_getElem? (i := 0) rfl))
          have N112 := Fr.snoc X112 N0 g_a1
          have R113 : ∀ t, Steps p.tables e below (T112.setTop (mkF m 124 #[rv a1, iv p2] [])) t → Steps p.tables e below (s₁.setTop f0) t := fun t k => R111 t (st112 t k)
          obtain ⟨fs, hr, hrun, hended, hW, hsame⟩ := X112.leave (v := none) (fun _ => rfl)
          refine ⟨_, _, pre0 _ (R113 _ ?_), hrun, hended, _, _, rfl, ?_, ⟨_, rfl⟩, hW, hsame.mono (by decide) (by decide)⟩
          · show Steps p.tables e below (T112.setTop (mkF m 124 #[rv a1, iv p2] [])) _
            exact X112.returnOut hx Bd.returns (hb hby d6_124) hr
          · show Q_rmTake Z a1 p2 1 io ng dr id fd pz us sS sI sF sB B h0 n0 _ T112.heap _
            rw [e112]
            exact ⟨ng, id, fd, pz, us, rfl, N112, K112, f112_F_integerOnly_a1, (by rw [show own_nx 1 p2 io = 3 from by simp [own_nx, own_nxB, own_dr, own_drB, own_D, own_P, own_G, hs9, hs10, hs11]]; exact fw112), f112_F_negative_a1, (by rw [show own_dr 1 p2 dr = dr from by simp [own_nx, own_nxB, own_dr, own_drB, own_D, own_P, own_G, hs9, hs10, hs11]]; exact f112_F_digitRead_a1), f112_F_integerDigits_a1, f112_F_fractionDigits_a1, f112_F_pendingZeros_a1, f112_F_unscaled_a1, ⟨hz.1, by have := hz.2; omega⟩⟩
      · skip
        have R114 : ∀ t, Steps p.tables e below (T91.setTop (mkF m 118 #[rv a1, iv p2] [(.ref a1)])) t → Steps p.tables e below (s₁.setTop f0) t := fun t k => R94 t (by
          show Steps p.tables e below (T91.setTop (mkF m 87 #[rv a1, iv p2] [(.int (46 : Int32)), (.int p2)])) _
          refine XS.icmpYes X91.here hx rfl (pc0 := 87) (pc' := 117) rfl (hb hby d6_87) rfl (feq hs10).2 (by decide) (by decide) ?_
          refine XS.aloadN X91.here hx rfl (hb hby d6_117) rfl rfl ?_
          exact k)
        obtain ⟨T115, X115, e115, st115⟩ := getS2 X91 hx hZ hown (host := "") (Or.inl (hw _ (List.mem_of_getElem? (i := 48) rfl))) Via.refl e91 S_NumberText_Part_BROKEN (g := (mkF m 118 #[rv a1, iv p2] [(.ref a1)])) rfl (hb hby d6_118)
        have R116 : ∀ t, Steps p.tables e below (T115.setTop (mkF m 121 #[rv a1, iv p2] [(.ref sB), (.ref a1)])) t → Steps p.tables e below (s₁.setTop f0) t := fun t k => R114 t (st115 t k)
        obtain ⟨T117, h117, X117, e117, W117, st117⟩ := putF X115 hx hZ hown (host := "") (Or.inl (hw _ (List.mem_of_getElem? (i := 29) rfl))) Via.refl e115 Fp0 E_a1 (Or.inl (hw _ (List.mem_of_getElem? (i := 30) rfl))) (hw _ (List.mem_of_getElem? (i := 6) rfl)) (ty := (.object sN1)) (by decide) rfl rfl (g := (mkF m 121 #[rv a1, iv p2] [(.ref sB), (.ref a1)])) rfl rfl (hb hby d6_121)
        have fw117 : Fld Z h117 a1 sN0 "part" sN2 (.ref sB) := Fp0.same W117
        have f117_E_a1 : Exa Z h117 a1 sN0 := E_a1.wr W117
        have f117_S_NumberText_Part_SIGN : Sta Z h117 sN1 "SIGN" sN2 (.ref sS) := S_NumberText_Part_SIGN.wr W117
        have f117_S_NumberText_Part_INTEGER : Sta Z h117 sN1 "INTEGER" sN2 (.ref sI) := S_NumberText_Part_INTEGER.wr W117
        have f117_S_NumberText_Part_FRACTION : Sta Z h117 sN1 "FRACTION" sN2 (.ref sF) := S_NumberText_Part_FRACTION.wr W117
        have f117_S_NumberText_Part_BROKEN : Sta Z h117 sN1 "BROKEN" sN2 (.ref sB) := S_NumberText_Part_BROKEN.wr W117
        have f117_F_integerOnly_a1 : Fld Z h117 a1 sN0 "integerOnly" "Z" (.int io) := F_integerOnly_a1.other W117 (Or.inr (slot_ne (Or.inl (hw _ (List.mem_of_getElem? (i := 25) rfl))) (Or.inl (hw _ (List.mem_of_getElem? (i := 30) rfl))) (by decide) (t := .boolean) (t' := (.object sN1)) (by decide) (by decide)))
        have f117_F_negative_a1 : Fld Z h117 a1 sN0 "negative" "Z" ng := F_negative_a1.other W117 (Or.inr (slot_ne (Or.inl (hw _ (List.mem_of_getElem? (i := 32) rfl))) (Or.inl (hw _ (List.mem_of_getElem? (i := 30) rfl))) (by decide) (t := .boolean) (t' := (.object sN1)) (by decide) (by decide)))
        have f117_F_digitRead_a1 : Fld Z h117 a1 sN0 "digitRead" "Z" (.int dr) := F_digitRead_a1.other W117 (Or.inr (slot_ne (Or.inl (hw _ (List.mem_of_getElem? (i := 34) rfl))) (Or.inl (hw _ (List.mem_of_getElem? (i := 30) rfl))) (by decide) (t := .boolean) (t' := (.object sN1)) (by decide) (by decide)))
        have f117_F_integerDigits_a1 : Fld Z h117 a1 sN0 "integerDigits" "J" (.long id) := F_integerDigits_a1.other W117 (Or.inr (slot_ne (Or.inl (hw _ (List.mem_of_getElem? (i := 36) rfl))) (Or.inl (hw _ (List.mem_of_getElem? (i := 30) rfl))) (by decide) (t := .long) (t' := (.object sN1)) (by decide) (by decide)))
        have f117_F_fractionDigits_a1 : Fld Z h117 a1 sN0 "fractionDigits" "J" (.long fd) := F_fractionDigits_a1.other W117 (Or.inr (slot_ne (Or.inl (hw _ (List.mem_of_getElem? (i := 38) rfl))) (Or.inl (hw _ (List.mem_of_getElem? (i := 30) rfl))) (by decide) (t := .long) (t' := (.object sN1)) (by decide) (by decide)))
        have f117_F_pendingZeros_a1 : Fld Z h117 a1 sN0 "pendingZeros" "J" (.long pz) := F_pendingZeros_a1.other W117 (Or.inr (slot_ne (Or.inl (hw _ (List.mem_of_getElem? (i := 40) rfl))) (Or.inl (hw _ (List.mem_of_getElem? (i := 30) rfl))) (by decide) (t := .long) (t' := (.object sN1)) (by decide) (by decide)))
        have f117_F_unscaled_a1 : Fld Z h117 a1 sN0 "unscaled" "J" (.long us) := F_unscaled_a1.other W117 (Or.inr (slot_ne (Or.inl (hw _ (List.mem_of_getElem? (i := 42) rfl))) (Or.inl (hw _ (List.mem_of_getElem? (i := 30) rfl))) (by decide) (t := .long) (t' := (.object sN1)) (by decide) (by decide)))
        have z117 : n0 ≤ h117.size := by rw [W117.size]; exact Z0
        have K117 : Keep h0 h117 [a1] := (Keep.refl h0 [a1]).wr W117 (Or.inl (List.mem_of_getElem? (i := 0) rfl))
        have N117 := Fr.snoc X117 N0 g_a1
        have R118 : ∀ t, Steps p.tables e below (T117.setTop (mkF m 124 #[rv a1, iv p2] [])) t → Steps p.tables e below (s₁.setTop f0) t := fun t k => R116 t (st117 t k)
        obtain ⟨fs, hr, hrun, hended, hW, hsame⟩ := X117.leave (v := none) (fun _ => rfl)
        refine ⟨_, _, pre0 _ (R118 _ ?_), hrun, hended, _, _, rfl, ?_, ⟨_, rfl⟩, hW, hsame.mono (by decide) (by decide)⟩
        · show Steps p.tables e below (T117.setTop (mkF m 124 #[rv a1, iv p2] [])) _
          exact X117.returnOut hx Bd.returns (hb hby d6_124) hr
        · show Q_rmTake Z a1 p2 1 io ng dr id fd pz us sS sI sF sB B h0 n0 _ T117.heap _
          rw [e117]
          exact ⟨ng, id, fd, pz, us, rfl, N117, K117, f117_F_integerOnly_a1, (by rw [show own_nx 1 p2 io = 3 from by simp [own_nx, own_nxB, own_dr, own_drB, own_D, own_P, own_G, hs9, hs10]]; exact fw117), f117_F_negative_a1, (by rw [show own_dr 1 p2 dr = dr from by simp [own_nx, own_nxB, own_dr, own_drB, own_D, own_P, own_G, hs9, hs10]]; exact f117_F_digitRead_a1), f117_F_integerDigits_a1, f117_F_fractionDigits_a1, f117_F_pendingZeros_a1, f117_F_unscaled_a1, ⟨hz.1, by have := hz.2; omega⟩⟩
    · skip
      have R119 : ∀ t, Steps p.tables e below (T91.setTop (mkF m 65 #[rv a1, iv p2] [(.int (57 : Int32)), (.int p2)])) t → Steps p.tables e below (s₁.setTop f0) t := fun t k => R93 t (by
        show Steps p.tables e below (T91.setTop (mkF m 59 #[rv a1, iv p2] [(.int (48 : Int32)), (.int p2)])) _
        refine XS.icmpNo X91.here hx rfl (hb hby d6_59) rfl (flt hs9).1 ?_
        refine XS.iloadN X91.here hx rfl (hb hby d6_62) rfl  ?_
        show Steps p.tables e below (T91.setTop (mkF m 63 #[rv a1, iv p2] [(.int p2)])) _
        refine XS.bipush X91.here hx rfl (hb hby d6_63) ?_
        exact k)
      by_cases hs12 : (57 : Int32) < p2
      · skip
        have R120 : ∀ t, Steps p.tables e below (T91.setTop (mkF m 87 #[rv a1, iv p2] [(.int (46 : Int32)), (.int p2)])) t → Steps p.tables e below (s₁.setTop f0) t := fun t k => R119 t (by
          show Steps p.tables e below (T91.setTop (mkF m 65 #[rv a1, iv p2] [(.int (57 : Int32)), (.int p2)])) _
          refine XS.icmpYes X91.here hx rfl (pc0 := 65) (pc' := 84) rfl (hb hby d6_65) rfl (tlt hs12).2.2.1 (by decide) (by decide) ?_
          refine XS.iloadN X91.here hx rfl (hb hby d6_84) rfl  ?_
          show Steps p.tables e below (T91.setTop (mkF m 85 #[rv a1, iv p2] [(.int p2)])) _
          refine XS.bipush X91.here hx rfl (hb hby d6_85) ?_
          exact k)
        by_cases hs13 : p2 = (46 : Int32)
        · skip
          have R121 : ∀ t, Steps p.tables e below (T91.setTop (mkF m 91 #[rv a1, iv p2] [(.ref a1)])) t → Steps p.tables e below (s₁.setTop f0) t := fun t k => R120 t (by
            show Steps p.tables e below (T91.setTop (mkF m 87 #[rv a1, iv p2] [(.int (46 : Int32)), (.int p2)])) _
            refine XS.icmpNo X91.here hx rfl (hb hby d6_87) rfl (teq hs13).2 ?_
            refine XS.aloadN X91.here hx rfl (hb hby d6_90) rfl rfl ?_
            exact k)
          obtain ⟨T122, X122, e122, st122⟩ := getF X91 hx hZ hown (host := "") (Or.inl (hw _ (List.mem_of_getElem? (i := 29) rfl))) Via.refl e91 Fp0 (g := (mkF m 91 #[rv a1, iv p2] [(.ref a1)])) rfl rfl (hb hby d6_91)
          have R123 : ∀ t, Steps p.tables e below (T122.setTop (mkF m 94 #[rv a1, iv p2] [(.ref sI)])) t → Steps p.tables e below (s₁.setTop f0) t := fun t k => R121 t (st122 t k)
          obtain ⟨T124, X124, e124, st124⟩ := getS2 X122 hx hZ hown (host := "") (Or.inl (hw _ (List.mem_of_getElem? (i := 56) rfl))) Via.refl e122 S_NumberText_Part_INTEGER (g := (mkF m 94 #[rv a1, iv p2] [(.ref sI)])) rfl (hb hby d6_94)
          have R125 : ∀ t, Steps p.tables e below (T124.setTop (mkF m 97 #[rv a1, iv p2] [(.ref sI), (.ref sI)])) t → Steps p.tables e below (s₁.setTop f0) t := fun t k => R123 t (st124 t k)
          have R126 : ∀ t, Steps p.tables e below (T124.setTop (mkF m 101 #[rv a1, iv p2] [(.ref a1)])) t → Steps p.tables e below (s₁.setTop f0) t := fun t k => R125 t (by
            show Steps p.tables e below (T124.setTop (mkF m 97 #[rv a1, iv p2] [(.ref sI), (.ref sI)])) _
            refine Jvm.RoadKit.acmp (g := (mkF m 97 #[rv a1, iv p2] [(.ref sI), (.ref sI)])) X124 hx rfl rfl rfl (pc0 := 97) (pc' := 100) (same := true) rfl (hb hby d6_97) rfl (decide_eq_true rfl) (by decide) (by decide) ?_
            refine XS.aloadN X124.here hx rfl (hb hby d6_100) rfl rfl ?_
            exact k)
          obtain ⟨T127, X127, e127, st127⟩ := getF X124 hx hZ hown (host := "") (Or.inl (hw _ (List.mem_of_getElem? (i := 24) rfl))) Via.refl e124 F_integerOnly_a1 (g := (mkF m 101 #[rv a1, iv p2] [(.ref a1)])) rfl rfl (hb hby d6_101)
          have R128 : ∀ t, Steps p.tables e below (T127.setTop (mkF m 104 #[rv a1, iv p2] [(.int io)])) t → Steps p.tables e below (s₁.setTop f0) t := fun t k => R126 t (st127 t k)
          by_cases hs14 : io = (0 : Int32)
          · skip
            have R129 : ∀ t, Steps p.tables e below (T127.setTop (mkF m 108 #[rv a1, iv p2] [(.ref a1)])) t → Steps p.tables e below (s₁.setTop f0) t := fun t k => R128 t (by
              show Steps p.tables e below (T127.setTop (mkF m 104 #[rv a1, iv p2] [(.int io)])) _
              refine XS.ifNo X127.here hx rfl (hb hby d6_104) rfl ((if0 _ _).trans (teq hs14).2) ?_
              refine XS.aloadN X127.here hx rfl (hb hby d6_107) rfl rfl ?_
              exact k)
            obtain ⟨T130, X130, e130, st130⟩ := getS2 X127 hx hZ hown (host := "") (Or.inl (hw _ (List.mem_of_getElem? (i := 79) rfl))) Via.refl e127 S_NumberText_Part_FRACTION (g := (mkF m 108 #[rv a1, iv p2] [(.ref a1)])) rfl (hb hby d6_108)
            have R131 : ∀ t, Steps p.tables e below (T130.setTop (mkF m 111 #[rv a1, iv p2] [(.ref sF), (.ref a1)])) t → Steps p.tables e below (s₁.setTop f0) t := fun t k => R129 t (st130 t k)
            obtain ⟨T132, h132, X132, e132, W132, st132⟩ := putF X130 hx hZ hown (host := "") (Or.inl (hw _ (List.mem_of_getElem? (i := 29) rfl))) Via.refl e130 Fp0 E_a1 (Or.inl (hw _ (List.mem_of_getElem? (i := 30) rfl))) (hw _ (List.mem_of_getElem? (i := 6) rfl)) (ty := (.object sN1)) (by decide) rfl rfl (g := (mkF m 111 #[rv a1, iv p2] [(.ref sF), (.ref a1)])) rfl rfl (hb hby d6_111)
            have fw132 : Fld Z h132 a1 sN0 "part" sN2 (.ref sF) := Fp0.same W132
            have f132_E_a1 : Exa Z h132 a1 sN0 := E_a1.wr W132
            have f132_S_NumberText_Part_SIGN : Sta Z h132 sN1 "SIGN" sN2 (.ref sS) := S_NumberText_Part_SIGN.wr W132
            have f132_S_NumberText_Part_INTEGER : Sta Z h132 sN1 "INTEGER" sN2 (.ref sI) := S_NumberText_Part_INTEGER.wr W132
            have f132_S_NumberText_Part_FRACTION : Sta Z h132 sN1 "FRACTION" sN2 (.ref sF) := S_NumberText_Part_FRACTION.wr W132
            have f132_S_NumberText_Part_BROKEN : Sta Z h132 sN1 "BROKEN" sN2 (.ref sB) := S_NumberText_Part_BROKEN.wr W132
            have f132_F_integerOnly_a1 : Fld Z h132 a1 sN0 "integerOnly" "Z" (.int io) := F_integerOnly_a1.other W132 (Or.inr (slot_ne (Or.inl (hw _ (List.mem_of_getElem? (i := 25) rfl))) (Or.inl (hw _ (List.mem_of_getElem? (i := 30) rfl))) (by decide) (t := .boolean) (t' := (.object sN1)) (by decide) (by decide)))
            have f132_F_negative_a1 : Fld Z h132 a1 sN0 "negative" "Z" ng := F_negative_a1.other W132 (Or.inr (slot_ne (Or.inl (hw _ (List.mem_of_getElem? (i := 32) rfl))) (Or.inl (hw _ (List.mem_of_getElem? (i := 30) rfl))) (by decide) (t := .boolean) (t' := (.object sN1)) (by decide) (by decide)))
            have f132_F_digitRead_a1 : Fld Z h132 a1 sN0 "digitRead" "Z" (.int dr) := F_digitRead_a1.other W132 (Or.inr (slot_ne (Or.inl (hw _ (List.mem_of_getElem? (i := 34) rfl))) (Or.inl (hw _ (List.mem_of_getElem? (i := 30) rfl))) (by decide) (t := .boolean) (t' := (.object sN1)) (by decide) (by decide)))
            have f132_F_integerDigits_a1 : Fld Z h132 a1 sN0 "integerDigits" "J" (.long id) := F_integerDigits_a1.other W132 (Or.inr (slot_ne (Or.inl (hw _ (List.mem_of_getElem? (i := 36) rfl))) (Or.inl (hw _ (List.mem_of_getElem? (i := 30) rfl))) (by decide) (t := .long) (t' := (.object sN1)) (by decide) (by decide)))
            have f132_F_fractionDigits_a1 : Fld Z h132 a1 sN0 "fractionDigits" "J" (.long fd) := F_fractionDigits_a1.other W132 (Or.inr (slot_ne (Or.inl (hw _ (List.mem_of_getElem? (i := 38) rfl))) (Or.inl (hw _ (List.mem_of_getElem? (i := 30) rfl))) (by decide) (t := .long) (t' := (.object sN1)) (by decide) (by decide)))
            have f132_F_pendingZeros_a1 : Fld Z h132 a1 sN0 "pendingZeros" "J" (.long pz) := F_pendingZeros_a1.other W132 (Or.inr (slot_ne (Or.inl (hw _ (List.mem_of_getElem? (i := 40) rfl))) (Or.inl (hw _ (List.mem_of_getElem? (i := 30) rfl))) (by decide) (t := .long) (t' := (.object sN1)) (by decide) (by decide)))
            have f132_F_unscaled_a1 : Fld Z h132 a1 sN0 "unscaled" "J" (.long us) := F_unscaled_a1.other W132 (Or.inr (slot_ne (Or.inl (hw _ (List.mem_of_getElem? (i := 42) rfl))) (Or.inl (hw _ (List.mem_of_getElem? (i := 30) rfl))) (by decide) (t := .long) (t' := (.object sN1)) (by decide) (by decide)))
            have z132 : n0 ≤ h132.size := by rw [W132.size]; exact Z0
            have K132 : Keep h0 h132 [a1] := (Keep.refl h0 [a1]).wr W132 (Or.inl (List.mem_of_getElem? (i := 0) rfl))
            have N132 := Fr.snoc X132 N0 g_a1
            have R133 : ∀ t, Steps p.tables e below (T132.setTop (mkF m 114 #[rv a1, iv p2] [])) t → Steps p.tables e below (s₁.setTop f0) t := fun t k => R131 t (st132 t k)
            have R134 : ∀ t, Steps p.tables e below (T132.setTop (mkF m 124 #[rv a1, iv p2] [])) t → Steps p.tables e below (s₁.setTop f0) t := fun t k => R133 t (by
              show Steps p.tables e below (T132.setTop (mkF m 114 #[rv a1, iv p2] [])) _
              refine XS.goto X132.here hx rfl (pc0 := 114) (pc' := 124) rfl (hb hby d6_114) (by decide) (by decide) ?_
              exact k)
            obtain ⟨fs, hr, hrun, hended, hW, hsame⟩ := X132.leave (v := none) (fun _ => rfl)
            refine ⟨_, _, pre0 _ (R134 _ ?_), hrun, hended, _, _, rfl, ?_, ⟨_, rfl⟩, hW, hsame.mono (by decide) (by decide)⟩
            · show Steps p.tables e below (T132.setTop (mkF m 124 #[rv a1, iv p2] [])) _
              exact X132.returnOut hx Bd.returns (hb hby d6_124) hr
            · show Q_rmTake Z a1 p2 1 io ng dr id fd pz us sS sI sF sB B h0 n0 _ T132.heap _
              rw [e132]
              exact ⟨ng, id, fd, pz, us, rfl, N132, K132, f132_F_integerOnly_a1, (by rw [show own_nx 1 p2 io = 2 from by simp [own_nx, own_nxB, own_dr, own_drB, own_D, own_P, own_G, hs9, hs12, hs13, hs14]]; exact fw132), f132_F_negative_a1, (by rw [show own_dr 1 p2 dr = dr from by simp [own_nx, own_nxB, own_dr, own_drB, own_D, own_P, own_G, hs9, hs12, hs13, hs14]]; exact f132_F_digitRead_a1), f132_F_integerDigits_a1, f132_F_fractionDigits_a1, f132_F_pendingZeros_a1, f132_F_unscaled_a1, ⟨hz.1, by have := hz.2; omega⟩⟩
          · skip
            have R135 : ∀ t, Steps p.tables e below (T127.setTop (mkF m 118 #[rv a1, iv p2] [(.ref a1)])) t → Steps p.tables e below (s₁.setTop f0) t := fun t k => R128 t (by
              show Steps p.tables e below (T127.setTop (mkF m 104 #[rv a1, iv p2] [(.int io)])) _
              refine XS.ifYes X127.here hx rfl (pc0 := 104) (pc' := 117) rfl (hb hby d6_104) rfl ((if0 _ _).trans (feq hs14).2) (by decide) (by decide) ?_
              refine XS.aloadN X127.here hx rfl (hb hby d6_117) rfl rfl ?_
              exact k)
            obtain ⟨T136, X136, e136, st136⟩ := getS2 X127 hx hZ hown (host := "") (Or.inl (hw _ (List.mem_of_getElem? (i := 48) rfl))) Via.refl e127 S_NumberText_Part_BROKEN (g := (mkF m 118 #[rv a1, iv p2] [(.ref a1)])) rfl (hb hby d6_118)
            have R137 : ∀ t, Steps p.tables e below (T136.setTop (mkF m 121 #[rv a1, iv p2] [(.ref sB), (.ref a1)])) t → Steps p.tables e below (s₁.setTop f0) t := fun t k => R135 t (st136 t k)
            obtain ⟨T138, h138, X138, e138, W138, st138⟩ := putF X136 hx hZ hown (host := "") (Or.inl (hw _ (List.mem_of_getElem? (i := 29) rfl))) Via.refl e136 Fp0 E_a1 (Or.inl (hw _ (List.mem_of_getElem? (i := 30) rfl))) (hw _ (List.mem_of_getElem? (i := 6) rfl)) (ty := (.object sN1)) (by decide) rfl rfl (g := (mkF m 121 #[rv a1, iv p2] [(.ref sB), (.ref a1)])) rfl rfl (hb hby d6_121)
            have fw138 : Fld Z h138 a1 sN0 "part" sN2 (.ref sB) := Fp0.same W138
            have f138_E_a1 : Exa Z h138 a1 sN0 := E_a1.wr W138
            have f138_S_NumberText_Part_SIGN : Sta Z h138 sN1 "SIGN" sN2 (.ref sS) := S_NumberText_Part_SIGN.wr W138
            have f138_S_NumberText_Part_INTEGER : Sta Z h138 sN1 "INTEGER" sN2 (.ref sI) := S_NumberText_Part_INTEGER.wr W138
            have f138_S_NumberText_Part_FRACTION : Sta Z h138 sN1 "FRACTION" sN2 (.ref sF) := S_NumberText_Part_FRACTION.wr W138
            have f138_S_NumberText_Part_BROKEN : Sta Z h138 sN1 "BROKEN" sN2 (.ref sB) := S_NumberText_Part_BROKEN.wr W138
            have f138_F_integerOnly_a1 : Fld Z h138 a1 sN0 "integerOnly" "Z" (.int io) := F_integerOnly_a1.other W138 (Or.inr (slot_ne (Or.inl (hw _ (List.mem_of_getElem? (i := 25) rfl))) (Or.inl (hw _ (List.mem_of_getElem? (i := 30) rfl))) (by decide) (t := .boolean) (t' := (.object sN1)) (by decide) (by decide)))
            have f138_F_negative_a1 : Fld Z h138 a1 sN0 "negative" "Z" ng := F_negative_a1.other W138 (Or.inr (slot_ne (Or.inl (hw _ (List.mem_of_getElem? (i := 32) rfl))) (Or.inl (hw _ (List.mem_of_getElem? (i := 30) rfl))) (by decide) (t := .boolean) (t' := (.object sN1)) (by decide) (by decide)))
            have f138_F_digitRead_a1 : Fld Z h138 a1 sN0 "digitRead" "Z" (.int dr) := F_digitRead_a1.other W138 (Or.inr (slot_ne (Or.inl (hw _ (List.mem_of_getElem? (i := 34) rfl))) (Or.inl (hw _ (List.mem_of_getElem? (i := 30) rfl))) (by decide) (t := .boolean) (t' := (.object sN1)) (by decide) (by decide)))
            have f138_F_integerDigits_a1 : Fld Z h138 a1 sN0 "integerDigits" "J" (.long id) := F_integerDigits_a1.other W138 (Or.inr (slot_ne (Or.inl (hw _ (List.mem_of_getElem? (i := 36) rfl))) (Or.inl (hw _ (List.mem_of_getElem? (i := 30) rfl))) (by decide) (t := .long) (t' := (.object sN1)) (by decide) (by decide)))
            have f138_F_fractionDigits_a1 : Fld Z h138 a1 sN0 "fractionDigits" "J" (.long fd) := F_fractionDigits_a1.other W138 (Or.inr (slot_ne (Or.inl (hw _ (List.mem_of_getElem? (i := 38) rfl))) (Or.inl (hw _ (List.mem_of_getElem? (i := 30) rfl))) (by decide) (t := .long) (t' := (.object sN1)) (by decide) (by decide)))
            have f138_F_pendingZeros_a1 : Fld Z h138 a1 sN0 "pendingZeros" "J" (.long pz) := F_pendingZeros_a1.other W138 (Or.inr (slot_ne (Or.inl (hw _ (List.mem_of_getElem? (i := 40) rfl))) (Or.inl (hw _ (List.mem_of_getElem? (i := 30) rfl))) (by decide) (t := .long) (t' := (.object sN1)) (by decide) (by decide)))
            have f138_F_unscaled_a1 : Fld Z h138 a1 sN0 "unscaled" "J" (.long us) := F_unscaled_a1.other W138 (Or.inr (slot_ne (Or.inl (hw _ (List.mem_of_getElem? (i := 42) rfl))) (Or.inl (hw _ (List.mem_of_getElem? (i := 30) rfl))) (by decide) (t := .long) (t' := (.object sN1)) (by decide) (by decide)))
            have z138 : n0 ≤ h138.size := by rw [W138.size]; exact Z0
            have K138 : Keep h0 h138 [a1] := (Keep.refl h0 [a1]).wr W138 (Or.inl (List.mem_of_getElem? (i := 0) rfl))
            have N138 := Fr.snoc X138 N0 g_a1
            have R139 : ∀ t, Steps p.tables e below (T138.setTop (mkF m 124 #[rv a1, iv p2] [])) t → Steps p.tables e below (s₁.setTop f0) t := fun t k => R137 t (st138 t k)
            obtain ⟨fs, hr, hrun, hended, hW, hsame⟩ := X138.leave (v := none) (fun _ => rfl)
            refine ⟨_, _, pre0 _ (R139 _ ?_), hrun, hended, _, _, rfl, ?_, ⟨_, rfl⟩, hW, hsame.mono (by decide) (by decide)⟩
            · show Steps p.tables e below (T138.setTop (mkF m 124 #[rv a1, iv p2] [])) _
              exact X138.returnOut hx Bd.returns (hb hby d6_124) hr
            · show Q_rmTake Z a1 p2 1 io ng dr id fd pz us sS sI sF sB B h0 n0 _ T138.heap _
              rw [e138]
              exact ⟨ng, id, fd, pz, us, rfl, N138, K138, f138_F_integerOnly_a1, (by rw [show own_nx 1 p2 io = 3 from by simp [own_nx, own_nxB, own_dr, own_drB, own_D, own_P, own_G, hs9, hs12, hs13, hs14]]; exact fw138), f138_F_negative_a1, (by rw [show own_dr 1 p2 dr = dr from by simp [own_nx, own_nxB, own_dr, own_drB, own_D, own_P, own_G, hs9, hs12, hs13, hs14]]; exact f138_F_digitRead_a1), f138_F_integerDigits_a1, f138_F_fractionDigits_a1, f138_F_pendingZeros_a1, f138_F_unscaled_a1, ⟨hz.1, by have := hz.2; omega⟩⟩
        · skip
          have R140 : ∀ t, Steps p.tables e below (T91.setTop (mkF m 118 #[rv a1, iv p2] [(.ref a1)])) t → Steps p.tables e below (s₁.setTop f0) t := fun t k => R120 t (by
            show Steps p.tables e below (T91.setTop (mkF m 87 #[rv a1, iv p2] [(.int (46 : Int32)), (.int p2)])) _
            refine XS.icmpYes X91.here hx rfl (pc0 := 87) (pc' := 117) rfl (hb hby d6_87) rfl (feq hs13).2 (by decide) (by decide) ?_
            refine XS.aloadN X91.here hx rfl (hb hby d6_117) rfl rfl ?_
            exact k)
          obtain ⟨T141, X141, e141, st141⟩ := getS2 X91 hx hZ hown (host := "") (Or.inl (hw _ (List.mem_of_getElem? (i := 48) rfl))) Via.refl e91 S_NumberText_Part_BROKEN (g := (mkF m 118 #[rv a1, iv p2] [(.ref a1)])) rfl (hb hby d6_118)
          have R142 : ∀ t, Steps p.tables e below (T141.setTop (mkF m 121 #[rv a1, iv p2] [(.ref sB), (.ref a1)])) t → Steps p.tables e below (s₁.setTop f0) t := fun t k => R140 t (st141 t k)
          obtain ⟨T143, h143, X143, e143, W143, st143⟩ := putF X141 hx hZ hown (host := "") (Or.inl (hw _ (List.mem_of_getElem? (i := 29) rfl))) Via.refl e141 Fp0 E_a1 (Or.inl (hw _ (List.mem_of_getElem? (i := 30) rfl))) (hw _ (List.mem_of_getElem? (i := 6) rfl)) (ty := (.object sN1)) (by decide) rfl rfl (g := (mkF m 121 #[rv a1, iv p2] [(.ref sB), (.ref a1)])) rfl rfl (hb hby d6_121)
          have fw143 : Fld Z h143 a1 sN0 "part" sN2 (.ref sB) := Fp0.same W143
          have f143_E_a1 : Exa Z h143 a1 sN0 := E_a1.wr W143
          have f143_S_NumberText_Part_SIGN : Sta Z h143 sN1 "SIGN" sN2 (.ref sS) := S_NumberText_Part_SIGN.wr W143
          have f143_S_NumberText_Part_INTEGER : Sta Z h143 sN1 "INTEGER" sN2 (.ref sI) := S_NumberText_Part_INTEGER.wr W143
          have f143_S_NumberText_Part_FRACTION : Sta Z h143 sN1 "FRACTION" sN2 (.ref sF) := S_NumberText_Part_FRACTION.wr W143
          have f143_S_NumberText_Part_BROKEN : Sta Z h143 sN1 "BROKEN" sN2 (.ref sB) := S_NumberText_Part_BROKEN.wr W143
          have f143_F_integerOnly_a1 : Fld Z h143 a1 sN0 "integerOnly" "Z" (.int io) := F_integerOnly_a1.other W143 (Or.inr (slot_ne (Or.inl (hw _ (List.mem_of_getElem? (i := 25) rfl))) (Or.inl (hw _ (List.mem_of_getElem? (i := 30) rfl))) (by decide) (t := .boolean) (t' := (.object sN1)) (by decide) (by decide)))
          have f143_F_negative_a1 : Fld Z h143 a1 sN0 "negative" "Z" ng := F_negative_a1.other W143 (Or.inr (slot_ne (Or.inl (hw _ (List.mem_of_getElem? (i := 32) rfl))) (Or.inl (hw _ (List.mem_of_getElem? (i := 30) rfl))) (by decide) (t := .boolean) (t' := (.object sN1)) (by decide) (by decide)))
          have f143_F_digitRead_a1 : Fld Z h143 a1 sN0 "digitRead" "Z" (.int dr) := F_digitRead_a1.other W143 (Or.inr (slot_ne (Or.inl (hw _ (List.mem_of_getElem? (i := 34) rfl))) (Or.inl (hw _ (List.mem_of_getElem? (i := 30) rfl))) (by decide) (t := .boolean) (t' := (.object sN1)) (by decide) (by decide)))
          have f143_F_integerDigits_a1 : Fld Z h143 a1 sN0 "integerDigits" "J" (.long id) := F_integerDigits_a1.other W143 (Or.inr (slot_ne (Or.inl (hw _ (List.mem_of_getElem? (i := 36) rfl))) (Or.inl (hw _ (List.mem_of_getElem? (i := 30) rfl))) (by decide) (t := .long) (t' := (.object sN1)) (by decide) (by decide)))
          have f143_F_fractionDigits_a1 : Fld Z h143 a1 sN0 "fractionDigits" "J" (.long fd) := F_fractionDigits_a1.other W143 (Or.inr (slot_ne (Or.inl (hw _ (List.mem_of_getElem? (i := 38) rfl))) (Or.inl (hw _ (List.mem_of_getElem? (i := 30) rfl))) (by decide) (t := .long) (t' := (.object sN1)) (by decide) (by decide)))
          have f143_F_pendingZeros_a1 : Fld Z h143 a1 sN0 "pendingZeros" "J" (.long pz) := F_pendingZeros_a1.other W143 (Or.inr (slot_ne (Or.inl (hw _ (List.mem_of_getElem? (i := 40) rfl))) (Or.inl (hw _ (List.mem_of_getElem? (i := 30) rfl))) (by decide) (t := .long) (t' := (.object sN1)) (by decide) (by decide)))
          have f143_F_unscaled_a1 : Fld Z h143 a1 sN0 "unscaled" "J" (.long us) := F_unscaled_a1.other W143 (Or.inr (slot_ne (Or.inl (hw _ (List.mem_of_getElem? (i := 42) rfl))) (Or.inl (hw _ (List.mem_of_getElem? (i := 30) rfl))) (by decide) (t := .long) (t' := (.object sN1)) (by decide) (by decide)))
          have z143 : n0 ≤ h143.size := by rw [W143.size]; exact Z0
          have K143 : Keep h0 h143 [a1] := (Keep.refl h0 [a1]).wr W143 (Or.inl (List.mem_of_getElem? (i := 0) rfl))
          have N143 := Fr.snoc X143 N0 g_a1
          have R144 : ∀ t, Steps p.tables e below (T143.setTop (mkF m 124 #[rv a1, iv p2] [])) t → Steps p.tables e below (s₁.setTop f0) t := fun t k => R142 t (st143 t k)
          obtain ⟨fs, hr, hrun, hended, hW, hsame⟩ := X143.leave (v := none) (fun _ => rfl)
          refine ⟨_, _, pre0 _ (R144 _ ?_), hrun, hended, _, _, rfl, ?_, ⟨_, rfl⟩, hW, hsame.mono (by decide) (by decide)⟩
          · show Steps p.tables e below (T143.setTop (mkF m 124 #[rv a1, iv p2] [])) _
            exact X143.returnOut hx Bd.returns (hb hby d6_124) hr
          · show Q_rmTake Z a1 p2 1 io ng dr id fd pz us sS sI sF sB B h0 n0 _ T143.heap _
            rw [e143]
            exact ⟨ng, id, fd, pz, us, rfl, N143, K143, f143_F_integerOnly_a1, (by rw [show own_nx 1 p2 io = 3 from by simp [own_nx, own_nxB, own_dr, own_drB, own_D, own_P, own_G, hs9, hs12, hs13]]; exact fw143), f143_F_negative_a1, (by rw [show own_dr 1 p2 dr = dr from by simp [own_nx, own_nxB, own_dr, own_drB, own_D, own_P, own_G, hs9, hs12, hs13]]; exact f143_F_digitRead_a1), f143_F_integerDigits_a1, f143_F_fractionDigits_a1, f143_F_pendingZeros_a1, f143_F_unscaled_a1, ⟨hz.1, by have := hz.2; omega⟩⟩
      · skip
        have R145 : ∀ t, Steps p.tables e below (T91.setTop (mkF m 70 #[rv a1, iv p2] [(.int (1 : Int32)), (.ref a1)])) t → Steps p.tables e below (s₁.setTop f0) t := fun t k => R119 t (by
          show Steps p.tables e below (T91.setTop (mkF m 65 #[rv a1, iv p2] [(.int (57 : Int32)), (.int p2)])) _
          refine XS.icmpNo X91.here hx rfl (hb hby d6_65) rfl (flt hs12).2.2.1 ?_
          refine XS.aloadN X91.here hx rfl (hb hby d6_68) rfl rfl ?_
          show Steps p.tables e below (T91.setTop (mkF m 69 #[rv a1, iv p2] [(.ref a1)])) _
          refine XS.iconst X91.here hx rfl (hb hby d6_69) ?_
          exact k)
        obtain ⟨T146, h146, X146, e146, W146, st146⟩ := putFN X91 hx hZ hown (hw _ (List.mem_of_getElem? (i := 33) rfl)) Via.refl e91 F_digitRead_a1 E_a1 (Or.inl (hw _ (List.mem_of_getElem? (i := 34) rfl))) (hw _ (List.mem_of_getElem? (i := 6) rfl)) (ty := .boolean) (v' := (.int (1 : Int32))) (by decide) rfl rfl (g := (mkF m 70 #[rv a1, iv p2] [(.int (1 : Int32)), (.ref a1)])) rfl rfl (hb hby d6_70)
        have fw146 : Fld Z h146 a1 sN0 "digitRead" "Z" (.int (1 : Int32)) := F_digitRead_a1.same W146
        have f146_E_a1 : Exa Z h146 a1 sN0 := E_a1.wr W146
        have f146_S_NumberText_Part_SIGN : Sta Z h146 sN1 "SIGN" sN2 (.ref sS) := S_NumberText_Part_SIGN.wr W146
        have f146_S_NumberText_Part_INTEGER : Sta Z h146 sN1 "INTEGER" sN2 (.ref sI) := S_NumberText_Part_INTEGER.wr W146
        have f146_S_NumberText_Part_FRACTION : Sta Z h146 sN1 "FRACTION" sN2 (.ref sF) := S_NumberText_Part_FRACTION.wr W146
        have f146_S_NumberText_Part_BROKEN : Sta Z h146 sN1 "BROKEN" sN2 (.ref sB) := S_NumberText_Part_BROKEN.wr W146
        have f146_F_integerOnly_a1 : Fld Z h146 a1 sN0 "integerOnly" "Z" (.int io) := F_integerOnly_a1.other W146 (Or.inr (slot_ne (Or.inl (hw _ (List.mem_of_getElem? (i := 25) rfl))) (Or.inl (hw _ (List.mem_of_getElem? (i := 34) rfl))) (by decide) (t := .boolean) (t' := .boolean) (by decide) (by decide)))
        have f146_F_part_a1 : Fld Z h146 a1 sN0 "part" sN2 (.ref sI) := Fp0.other W146 (Or.inr (slot_ne (Or.inl (hw _ (List.mem_of_getElem? (i := 30) rfl))) (Or.inl (hw _ (List.mem_of_getElem? (i := 34) rfl))) (by decide) (t := (.object sN1)) (t' := .boolean) (by decide) (by decide)))
        have f146_F_negative_a1 : Fld Z h146 a1 sN0 "negative" "Z" ng := F_negative_a1.other W146 (Or.inr (slot_ne (Or.inl (hw _ (List.mem_of_getElem? (i := 32) rfl))) (Or.inl (hw _ (List.mem_of_getElem? (i := 34) rfl))) (by decide) (t := .boolean) (t' := .boolean) (by decide) (by decide)))
        have f146_F_integerDigits_a1 : Fld Z h146 a1 sN0 "integerDigits" "J" (.long id) := F_integerDigits_a1.other W146 (Or.inr (slot_ne (Or.inl (hw _ (List.mem_of_getElem? (i := 36) rfl))) (Or.inl (hw _ (List.mem_of_getElem? (i := 34) rfl))) (by decide) (t := .long) (t' := .boolean) (by decide) (by decide)))
        have f146_F_fractionDigits_a1 : Fld Z h146 a1 sN0 "fractionDigits" "J" (.long fd) := F_fractionDigits_a1.other W146 (Or.inr (slot_ne (Or.inl (hw _ (List.mem_of_getElem? (i := 38) rfl))) (Or.inl (hw _ (List.mem_of_getElem? (i := 34) rfl))) (by decide) (t := .long) (t' := .boolean) (by decide) (by decide)))
        have f146_F_pendingZeros_a1 : Fld Z h146 a1 sN0 "pendingZeros" "J" (.long pz) := F_pendingZeros_a1.other W146 (Or.inr (slot_ne (Or.inl (hw _ (List.mem_of_getElem? (i := 40) rfl))) (Or.inl (hw _ (List.mem_of_getElem? (i := 34) rfl))) (by decide) (t := .long) (t' := .boolean) (by decide) (by decide)))
        have f146_F_unscaled_a1 : Fld Z h146 a1 sN0 "unscaled" "J" (.long us) := F_unscaled_a1.other W146 (Or.inr (slot_ne (Or.inl (hw _ (List.mem_of_getElem? (i := 42) rfl))) (Or.inl (hw _ (List.mem_of_getElem? (i := 34) rfl))) (by decide) (t := .long) (t' := .boolean) (by decide) (by decide)))
        have z146 : n0 ≤ h146.size := by rw [W146.size]; exact Z0
        have K146 : Keep h0 h146 [a1] := (Keep.refl h0 [a1]).wr W146 (Or.inl (List.mem_of_getElem? (i := 0) rfl))
        have N146 := Fr.snoc X146 N0 g_a1
        have R147 : ∀ t, Steps p.tables e below (T146.setTop (mkF m 73 #[rv a1, iv p2] [])) t → Steps p.tables e below (s₁.setTop f0) t := fun t k => R145 t (st146 t k)
        have R148 : ∀ t, Steps p.tables e below (T146.setTop (mkF m 78 #[rv a1, iv p2] [(.int (p2 - (48 : Int32))), (.ref a1)])) t → Steps p.tables e below (s₁.setTop f0) t := fun t k => R147 t (by
          show Steps p.tables e below (T146.setTop (mkF m 73 #[rv a1, iv p2] [])) _
          refine XS.aloadN X146.here hx rfl (hb hby d6_73) rfl rfl ?_
          refine XS.iloadN X146.here hx rfl (hb hby d6_74) rfl  ?_
          show Steps p.tables e below (T146.setTop (mkF m 75 #[rv a1, iv p2] [(.int p2), (.ref a1)])) _
          refine XS.bipush X146.here hx rfl (hb hby d6_75) ?_
          refine XS.isub X146.here hx rfl (hb hby d6_77) rfl ?_
          exact k)
        obtain ⟨cq149, q149, q149'⟩ := f146_E_a1.cell
        obtain ⟨_, _, ⟨T149, L149, k149, n149⟩, -, X149, ⟨Lc149, hQ149, l149, y149, z149⟩, st149⟩ := X146.privateBack hx (y := (⟨sN0, "digit", "(I)V"⟩ : MethodName)) hown (mvT hZ (hw _ (List.mem_of_getElem? (i := 58) rfl))) (mvT hZ (hw _ (List.mem_of_getElem? (i := 59) rfl))) (own_selp (w := (⟨sN0, "start", sN6⟩ : MethodName)) (mvT hZ (hw _ (List.mem_of_getElem? (i := 20) rfl))) rfl (Cond.privateMethod_at (mvP hZ (hw _ (List.mem_of_getElem? (i := 60) rfl)) (args := #[]))) (mvT hZ (hw _ (List.mem_of_getElem? (i := 59) rfl))) (by decide)) (Cond.privateMethod_at (mvP hZ (hw _ (List.mem_of_getElem? (i := 60) rfl)) (args := #[]))) (mvT hZ (hw _ (List.mem_of_getElem? (i := 61) rfl))) (by decide) (backOf (W := 0) (rmDigitI l Z a0 hw [] a1 (p2 - (48 : Int32)) io ng (1 : Int32) id fd pz us sI B h146 n0 z146 f146_E_a1 g_a1 f146_S_NumberText_Part_INTEGER hB hz f146_F_integerOnly_a1 f146_F_part_a1 f146_F_negative_a1 fw146 f146_F_integerDigits_a1 f146_F_fractionDigits_a1 f146_F_pendingZeros_a1 f146_F_unscaled_a1) hZ (hw _ (List.mem_of_getElem? (i := 61) rfl)) (hw _ (List.mem_of_getElem? (i := 7) rfl)) (by decide) (by decide)) (g := (mkF m 78 #[rv a1, iv p2] [(.int (p2 - (48 : Int32))), (.ref a1)])) rfl (by rw [hml]; rfl) (Steps.refl _) (a := a1) (by rw [e146]; exact q149) q149' (argsL := [(.int (p2 - (48 : Int32)))]) (rest := []) (lenOf pd_3 rfl) rfl (by show 2 * 0 + _ ≤ _; exact Nat.le_of_eq rfl) (hb hby d6_78) (fun _ _ => ⟨rfl, e146, (by decide : 0 + 0 ≤ _), (by decide : 0 + 0 ≤ _)⟩)
        dsimp only [Pt.U, Pt.locs, Pt.cells, Pt.slots] at X149 l149 y149 z149 st149 hQ149
        subst l149 y149 z149
        obtain ⟨id2_149, fd2_149, pz2_149, us2_149, rfl, N149q, p149_0, p149_1, p149_2, p149_3, p149_4, p149_5, p149_6, p149_7, p149_8, p149_9⟩ := hQ149
        have N149 := Fr.app N146 N149q
        have f149_E_a1 : Exa Z T149.heap a1 sN0 := f146_E_a1.keep p149_0
        have f149_S_NumberText_Part_SIGN : Sta Z T149.heap sN1 "SIGN" sN2 (.ref sS) := own_sta_keep f146_S_NumberText_Part_SIGN p149_0 (nsS f146_E_a1.nostat ns0)
        have f149_S_NumberText_Part_INTEGER : Sta Z T149.heap sN1 "INTEGER" sN2 (.ref sI) := own_sta_keep f146_S_NumberText_Part_INTEGER p149_0 (nsS f146_E_a1.nostat ns0)
        have f149_S_NumberText_Part_FRACTION : Sta Z T149.heap sN1 "FRACTION" sN2 (.ref sF) := own_sta_keep f146_S_NumberText_Part_FRACTION p149_0 (nsS f146_E_a1.nostat ns0)
        have f149_S_NumberText_Part_BROKEN : Sta Z T149.heap sN1 "BROKEN" sN2 (.ref sB) := own_sta_keep f146_S_NumberText_Part_BROKEN p149_0 (nsS f146_E_a1.nostat ns0)
        have z149 : n0 ≤ T149.heap.size := Nat.le_trans z146 p149_0.1
        have K149 : Keep h0 T149.heap [a1] := K146.trans p149_0 (allS (Or.inl (List.mem_of_getElem? (i := 0) rfl)) all0)
        have R150 : ∀ t, Steps p.tables e below (T149.setTop (mkF m 81 #[rv a1, iv p2] [])) t → Steps p.tables e below (s₁.setTop f0) t := fun t k => R148 t (st149.trans k)
        have R151 : ∀ t, Steps p.tables e below (T149.setTop (mkF m 124 #[rv a1, iv p2] [])) t → Steps p.tables e below (s₁.setTop f0) t := fun t k => R150 t (by
          show Steps p.tables e below (T149.setTop (mkF m 81 #[rv a1, iv p2] [])) _
          refine XS.goto X149.here hx rfl (pc0 := 81) (pc' := 124) rfl (hb hby d6_81) (by decide) (by decide) ?_
          exact k)
        obtain ⟨fs, hr, hrun, hended, hW, hsame⟩ := X149.leave (v := none) (fun _ => rfl)
        refine ⟨_, _, pre0 _ (R151 _ ?_), hrun, hended, _, _, rfl, ?_, ⟨_, rfl⟩, hW, hsame.mono (by decide) (by decide)⟩
        · show Steps p.tables e below (T149.setTop (mkF m 124 #[rv a1, iv p2] [])) _
          exact X149.returnOut hx Bd.returns (hb hby d6_124) hr
        · show Q_rmTake Z a1 p2 1 io ng dr id fd pz us sS sI sF sB B h0 n0 _ T149.heap _
          exact ⟨ng, id2_149, fd2_149, pz2_149, us2_149, rfl, N149, K149, p149_1, (by rw [show own_nx 1 p2 io = 1 from by simp [own_nx, own_nxB, own_dr, own_drB, own_D, own_P, own_G, hs9, hs12]]; exact p149_2), p149_3, (by rw [show own_dr 1 p2 dr = (1 : Int32) from by simp [own_nx, own_nxB, own_dr, own_drB, own_D, own_P, own_G, hs9, hs12]]; exact p149_4), p149_5, p149_6, p149_7, p149_8, p149_9⟩
  · skip
    have Fp0 : Fld Z h0 a1 sN0 "part" sN2 (.ref sF) := F_part_a1
    have R152 : ∀ t, Steps p.tables e below (s₁.setTop (mkF m 1 #[rv a1, iv p2] [(.ref a1)])) t → Steps p.tables e below (s₁.setTop f0) t := fun t k => R0 t (by
      show Steps p.tables e below (s₁.setTop (mkF m 0 #[rv a1, iv p2] [])) _
      refine XS.aloadN X0.here hx rfl (hb hby d6_0) rfl rfl ?_
      exact k)
    obtain ⟨T153, X153, e153, st153⟩ := getF X0 hx hZ hown (host := "") (Or.inl (hw _ (List.mem_of_getElem? (i := 29) rfl))) Via.refl e0 Fp0 (g := (mkF m 1 #[rv a1, iv p2] [(.ref a1)])) rfl rfl (hb hby d6_1)
    have R154 : ∀ t, Steps p.tables e below (T153.setTop (mkF m 4 #[rv a1, iv p2] [(.ref sF)])) t → Steps p.tables e below (s₁.setTop f0) t := fun t k => R152 t (st153 t k)
    obtain ⟨T155, X155, e155, st155⟩ := getS2 X153 hx hZ hown (host := "") (Or.inl (hw _ (List.mem_of_getElem? (i := 48) rfl))) Via.refl e153 S_NumberText_Part_BROKEN (g := (mkF m 4 #[rv a1, iv p2] [(.ref sF)])) rfl (hb hby d6_4)
    have R156 : ∀ t, Steps p.tables e below (T155.setTop (mkF m 7 #[rv a1, iv p2] [(.ref sB), (.ref sF)])) t → Steps p.tables e below (s₁.setTop f0) t := fun t k => R154 t (st155 t k)
    have R157 : ∀ t, Steps p.tables e below (T155.setTop (mkF m 12 #[rv a1, iv p2] [(.ref a1)])) t → Steps p.tables e below (s₁.setTop f0) t := fun t k => R156 t (by
      show Steps p.tables e below (T155.setTop (mkF m 7 #[rv a1, iv p2] [(.ref sB), (.ref sF)])) _
      refine Jvm.RoadKit.acmp (g := (mkF m 7 #[rv a1, iv p2] [(.ref sB), (.ref sF)])) X155 hx rfl rfl rfl (pc0 := 7) (pc' := 11) (same := false) rfl (hb hby d6_7) rfl (decide_eq_false fun q => ne_sF_sB (Value.ref.inj q)) (by decide) (by decide) ?_
      refine XS.aloadN X155.here hx rfl (hb hby d6_11) rfl rfl ?_
      exact k)
    obtain ⟨T158, X158, e158, st158⟩ := getF X155 hx hZ hown (host := "") (Or.inl (hw _ (List.mem_of_getElem? (i := 29) rfl))) Via.refl e155 Fp0 (g := (mkF m 12 #[rv a1, iv p2] [(.ref a1)])) rfl rfl (hb hby d6_12)
    have R159 : ∀ t, Steps p.tables e below (T158.setTop (mkF m 15 #[rv a1, iv p2] [(.ref sF)])) t → Steps p.tables e below (s₁.setTop f0) t := fun t k => R157 t (st158 t k)
    obtain ⟨T160, X160, e160, st160⟩ := getS2 X158 hx hZ hown (host := "") (Or.inl (hw _ (List.mem_of_getElem? (i := 26) rfl))) Via.refl e158 S_NumberText_Part_SIGN (g := (mkF m 15 #[rv a1, iv p2] [(.ref sF)])) rfl (hb hby d6_15)
    have R161 : ∀ t, Steps p.tables e below (T160.setTop (mkF m 18 #[rv a1, iv p2] [(.ref sS), (.ref sF)])) t → Steps p.tables e below (s₁.setTop f0) t := fun t k => R159 t (st160 t k)
    have R162 : ∀ t, Steps p.tables e below (T160.setTop (mkF m 59 #[rv a1, iv p2] [(.int (48 : Int32)), (.int p2)])) t → Steps p.tables e below (s₁.setTop f0) t := fun t k => R161 t (by
      show Steps p.tables e below (T160.setTop (mkF m 18 #[rv a1, iv p2] [(.ref sS), (.ref sF)])) _
      refine Jvm.RoadKit.acmp (g := (mkF m 18 #[rv a1, iv p2] [(.ref sS), (.ref sF)])) X160 hx rfl rfl rfl (pc0 := 18) (pc' := 56) (same := false) rfl (hb hby d6_18) rfl (decide_eq_false fun q => (Ne.symm ne_sS_sF) (Value.ref.inj q)) (by decide) (by decide) ?_
      refine XS.iloadN X160.here hx rfl (hb hby d6_56) rfl  ?_
      show Steps p.tables e below (T160.setTop (mkF m 57 #[rv a1, iv p2] [(.int p2)])) _
      refine XS.bipush X160.here hx rfl (hb hby d6_57) ?_
      exact k)
    by_cases hs15 : p2 < (48 : Int32)
    · skip
      have R163 : ∀ t, Steps p.tables e below (T160.setTop (mkF m 87 #[rv a1, iv p2] [(.int (46 : Int32)), (.int p2)])) t → Steps p.tables e below (s₁.setTop f0) t := fun t k => R162 t (by
        show Steps p.tables e below (T160.setTop (mkF m 59 #[rv a1, iv p2] [(.int (48 : Int32)), (.int p2)])) _
        refine XS.icmpYes X160.here hx rfl (pc0 := 59) (pc' := 84) rfl (hb hby d6_59) rfl (tlt hs15).1 (by decide) (by decide) ?_
        refine XS.iloadN X160.here hx rfl (hb hby d6_84) rfl  ?_
        show Steps p.tables e below (T160.setTop (mkF m 85 #[rv a1, iv p2] [(.int p2)])) _
        refine XS.bipush X160.here hx rfl (hb hby d6_85) ?_
        exact k)
      by_cases hs16 : p2 = (46 : Int32)
      · skip
        have R164 : ∀ t, Steps p.tables e below (T160.setTop (mkF m 91 #[rv a1, iv p2] [(.ref a1)])) t → Steps p.tables e below (s₁.setTop f0) t := fun t k => R163 t (by
          show Steps p.tables e below (T160.setTop (mkF m 87 #[rv a1, iv p2] [(.int (46 : Int32)), (.int p2)])) _
          refine XS.icmpNo X160.here hx rfl (hb hby d6_87) rfl (teq hs16).2 ?_
          refine XS.aloadN X160.here hx rfl (hb hby d6_90) rfl rfl ?_
          exact k)
        obtain ⟨T165, X165, e165, st165⟩ := getF X160 hx hZ hown (host := "") (Or.inl (hw _ (List.mem_of_getElem? (i := 29) rfl))) Via.refl e160 Fp0 (g := (mkF m 91 #[rv a1, iv p2] [(.ref a1)])) rfl rfl (hb hby d6_91)
        have R166 : ∀ t, Steps p.tables e below (T165.setTop (mkF m 94 #[rv a1, iv p2] [(.ref sF)])) t → Steps p.tables e below (s₁.setTop f0) t := fun t k => R164 t (st165 t k)
        obtain ⟨T167, X167, e167, st167⟩ := getS2 X165 hx hZ hown (host := "") (Or.inl (hw _ (List.mem_of_getElem? (i := 56) rfl))) Via.refl e165 S_NumberText_Part_INTEGER (g := (mkF m 94 #[rv a1, iv p2] [(.ref sF)])) rfl (hb hby d6_94)
        have R168 : ∀ t, Steps p.tables e below (T167.setTop (mkF m 97 #[rv a1, iv p2] [(.ref sI), (.ref sF)])) t → Steps p.tables e below (s₁.setTop f0) t := fun t k => R166 t (st167 t k)
        have R169 : ∀ t, Steps p.tables e below (T167.setTop (mkF m 118 #[rv a1, iv p2] [(.ref a1)])) t → Steps p.tables e below (s₁.setTop f0) t := fun t k => R168 t (by
          show Steps p.tables e below (T167.setTop (mkF m 97 #[rv a1, iv p2] [(.ref sI), (.ref sF)])) _
          refine Jvm.RoadKit.acmp (g := (mkF m 97 #[rv a1, iv p2] [(.ref sI), (.ref sF)])) X167 hx rfl rfl rfl (pc0 := 97) (pc' := 117) (same := false) rfl (hb hby d6_97) rfl (decide_eq_false fun q => (Ne.symm ne_sI_sF) (Value.ref.inj q)) (by decide) (by decide) ?_
          refine XS.aloadN X167.here hx rfl (hb hby d6_117) rfl rfl ?_
          exact k)
        obtain ⟨T170, X170, e170, st170⟩ := getS2 X167 hx hZ hown (host := "") (Or.inl (hw _ (List.mem_of_getElem? (i := 48) rfl))) Via.refl e167 S_NumberText_Part_BROKEN (g := (mkF m 118 #[rv a1, iv p2] [(.ref a1)])) rfl (hb hby d6_118)
        have R171 : ∀ t, Steps p.tables e below (T170.setTop (mkF m 121 #[rv a1, iv p2] [(.ref sB), (.ref a1)])) t → Steps p.tables e below (s₁.setTop f0) t := fun t k => R169 t (st170 t k)
        obtain ⟨T172, h172, X172, e172, W172, st172⟩ := putF X170 hx hZ hown (host := "") (Or.inl (hw _ (List.mem_of_getElem? (i := 29) rfl))) Via.refl e170 Fp0 E_a1 (Or.inl (hw _ (List.mem_of_getElem? (i := 30) rfl))) (hw _ (List.mem_of_getElem? (i := 6) rfl)) (ty := (.object sN1)) (by decide) rfl rfl (g := (mkF m 121 #[rv a1, iv p2] [(.ref sB), (.ref a1)])) rfl rfl (hb hby d6_121)
        have fw172 : Fld Z h172 a1 sN0 "part" sN2 (.ref sB) := Fp0.same W172
        have f172_E_a1 : Exa Z h172 a1 sN0 := E_a1.wr W172
        have f172_S_NumberText_Part_SIGN : Sta Z h172 sN1 "SIGN" sN2 (.ref sS) := S_NumberText_Part_SIGN.wr W172
        have f172_S_NumberText_Part_INTEGER : Sta Z h172 sN1 "INTEGER" sN2 (.ref sI) := S_NumberText_Part_INTEGER.wr W172
        have f172_S_NumberText_Part_FRACTION : Sta Z h172 sN1 "FRACTION" sN2 (.ref sF) := S_NumberText_Part_FRACTION.wr W172
        have f172_S_NumberText_Part_BROKEN : Sta Z h172 sN1 "BROKEN" sN2 (.ref sB) := S_NumberText_Part_BROKEN.wr W172
        have f172_F_integerOnly_a1 : Fld Z h172 a1 sN0 "integerOnly" "Z" (.int io) := F_integerOnly_a1.other W172 (Or.inr (slot_ne (Or.inl (hw _ (List.mem_of_getElem? (i := 25) rfl))) (Or.inl (hw _ (List.mem_of_getElem? (i := 30) rfl))) (by decide) (t := .boolean) (t' := (.object sN1)) (by decide) (by decide)))
        have f172_F_negative_a1 : Fld Z h172 a1 sN0 "negative" "Z" ng := F_negative_a1.other W172 (Or.inr (slot_ne (Or.inl (hw _ (List.mem_of_getElem? (i := 32) rfl))) (Or.inl (hw _ (List.mem_of_getElem? (i := 30) rfl))) (by decide) (t := .boolean) (t' := (.object sN1)) (by decide) (by decide)))
        have f172_F_digitRead_a1 : Fld Z h172 a1 sN0 "digitRead" "Z" (.int dr) := F_digitRead_a1.other W172 (Or.inr (slot_ne (Or.inl (hw _ (List.mem_of_getElem? (i := 34) rfl))) (Or.inl (hw _ (List.mem_of_getElem? (i := 30) rfl))) (by decide) (t := .boolean) (t' := (.object sN1)) (by decide) (by decide)))
        have f172_F_integerDigits_a1 : Fld Z h172 a1 sN0 "integerDigits" "J" (.long id) := F_integerDigits_a1.other W172 (Or.inr (slot_ne (Or.inl (hw _ (List.mem_of_getElem? (i := 36) rfl))) (Or.inl (hw _ (List.mem_of_getElem? (i := 30) rfl))) (by decide) (t := .long) (t' := (.object sN1)) (by decide) (by decide)))
        have f172_F_fractionDigits_a1 : Fld Z h172 a1 sN0 "fractionDigits" "J" (.long fd) := F_fractionDigits_a1.other W172 (Or.inr (slot_ne (Or.inl (hw _ (List.mem_of_getElem? (i := 38) rfl))) (Or.inl (hw _ (List.mem_of_getElem? (i := 30) rfl))) (by decide) (t := .long) (t' := (.object sN1)) (by decide) (by decide)))
        have f172_F_pendingZeros_a1 : Fld Z h172 a1 sN0 "pendingZeros" "J" (.long pz) := F_pendingZeros_a1.other W172 (Or.inr (slot_ne (Or.inl (hw _ (List.mem_of_getElem? (i := 40) rfl))) (Or.inl (hw _ (List.mem_of_getElem? (i := 30) rfl))) (by decide) (t := .long) (t' := (.object sN1)) (by decide) (by decide)))
        have f172_F_unscaled_a1 : Fld Z h172 a1 sN0 "unscaled" "J" (.long us) := F_unscaled_a1.other W172 (Or.inr (slot_ne (Or.inl (hw _ (List.mem_of_getElem? (i := 42) rfl))) (Or.inl (hw _ (List.mem_of_getElem? (i := 30) rfl))) (by decide) (t := .long) (t' := (.object sN1)) (by decide) (by decide)))
        have z172 : n0 ≤ h172.size := by rw [W172.size]; exact Z0
        have K172 : Keep h0 h172 [a1] := (Keep.refl h0 [a1]).wr W172 (Or.inl (List.mem_of_getElem? (i := 0) rfl))
        have N172 := Fr.snoc X172 N0 g_a1
        have R173 : ∀ t, Steps p.tables e below (T172.setTop (mkF m 124 #[rv a1, iv p2] [])) t → Steps p.tables e below (s₁.setTop f0) t := fun t k => R171 t (st172 t k)
        obtain ⟨fs, hr, hrun, hended, hW, hsame⟩ := X172.leave (v := none) (fun _ => rfl)
        refine ⟨_, _, pre0 _ (R173 _ ?_), hrun, hended, _, _, rfl, ?_, ⟨_, rfl⟩, hW, hsame.mono (by decide) (by decide)⟩
        · show Steps p.tables e below (T172.setTop (mkF m 124 #[rv a1, iv p2] [])) _
          exact X172.returnOut hx Bd.returns (hb hby d6_124) hr
        · show Q_rmTake Z a1 p2 2 io ng dr id fd pz us sS sI sF sB B h0 n0 _ T172.heap _
          rw [e172]
          exact ⟨ng, id, fd, pz, us, rfl, N172, K172, f172_F_integerOnly_a1, (by rw [show own_nx 2 p2 io = 3 from by simp [own_nx, own_nxB, own_dr, own_drB, own_D, own_P, own_G, hs15, hs16]]; exact fw172), f172_F_negative_a1, (by rw [show own_dr 2 p2 dr = dr from by simp [own_nx, own_nxB, own_dr, own_drB, own_D, own_P, own_G, hs15, hs16]]; exact f172_F_digitRead_a1), f172_F_integerDigits_a1, f172_F_fractionDigits_a1, f172_F_pendingZeros_a1, f172_F_unscaled_a1, ⟨hz.1, by have := hz.2; omega⟩⟩
      · skip
        have R174 : ∀ t, Steps p.tables e below (T160.setTop (mkF m 118 #[rv a1, iv p2] [(.ref a1)])) t → Steps p.tables e below (s₁.setTop f0) t := fun t k => R163 t (by
          show Steps p.tables e below (T160.setTop (mkF m 87 #[rv a1, iv p2] [(.int (46 : Int32)), (.int p2)])) _
          refine XS.icmpYes X160.here hx rfl (pc0 := 87) (pc' := 117) rfl (hb hby d6_87) rfl (feq hs16).2 (by decide) (by decide) ?_
          refine XS.aloadN X160.here hx rfl (hb hby d6_117) rfl rfl ?_
          exact k)
        obtain ⟨T175, X175, e175, st175⟩ := getS2 X160 hx hZ hown (host := "") (Or.inl (hw _ (List.mem_of_getElem? (i := 48) rfl))) Via.refl e160 S_NumberText_Part_BROKEN (g := (mkF m 118 #[rv a1, iv p2] [(.ref a1)])) rfl (hb hby d6_118)
        have R176 : ∀ t, Steps p.tables e below (T175.setTop (mkF m 121 #[rv a1, iv p2] [(.ref sB), (.ref a1)])) t → Steps p.tables e below (s₁.setTop f0) t := fun t k => R174 t (st175 t k)
        obtain ⟨T177, h177, X177, e177, W177, st177⟩ := putF X175 hx hZ hown (host := "") (Or.inl (hw _ (List.mem_of_getElem? (i := 29) rfl))) Via.refl e175 Fp0 E_a1 (Or.inl (hw _ (List.mem_of_getElem? (i := 30) rfl))) (hw _ (List.mem_of_getElem? (i := 6) rfl)) (ty := (.object sN1)) (by decide) rfl rfl (g := (mkF m 121 #[rv a1, iv p2] [(.ref sB), (.ref a1)])) rfl rfl (hb hby d6_121)
        have fw177 : Fld Z h177 a1 sN0 "part" sN2 (.ref sB) := Fp0.same W177
        have f177_E_a1 : Exa Z h177 a1 sN0 := E_a1.wr W177
        have f177_S_NumberText_Part_SIGN : Sta Z h177 sN1 "SIGN" sN2 (.ref sS) := S_NumberText_Part_SIGN.wr W177
        have f177_S_NumberText_Part_INTEGER : Sta Z h177 sN1 "INTEGER" sN2 (.ref sI) := S_NumberText_Part_INTEGER.wr W177
        have f177_S_NumberText_Part_FRACTION : Sta Z h177 sN1 "FRACTION" sN2 (.ref sF) := S_NumberText_Part_FRACTION.wr W177
        have f177_S_NumberText_Part_BROKEN : Sta Z h177 sN1 "BROKEN" sN2 (.ref sB) := S_NumberText_Part_BROKEN.wr W177
        have f177_F_integerOnly_a1 : Fld Z h177 a1 sN0 "integerOnly" "Z" (.int io) := F_integerOnly_a1.other W177 (Or.inr (slot_ne (Or.inl (hw _ (List.mem_of_getElem? (i := 25) rfl))) (Or.inl (hw _ (List.mem_of_getElem? (i := 30) rfl))) (by decide) (t := .boolean) (t' := (.object sN1)) (by decide) (by decide)))
        have f177_F_negative_a1 : Fld Z h177 a1 sN0 "negative" "Z" ng := F_negative_a1.other W177 (Or.inr (slot_ne (Or.inl (hw _ (List.mem_of_getElem? (i := 32) rfl))) (Or.inl (hw _ (List.mem_of_getElem? (i := 30) rfl))) (by decide) (t := .boolean) (t' := (.object sN1)) (by decide) (by decide)))
        have f177_F_digitRead_a1 : Fld Z h177 a1 sN0 "digitRead" "Z" (.int dr) := F_digitRead_a1.other W177 (Or.inr (slot_ne (Or.inl (hw _ (List.mem_of_getElem? (i := 34) rfl))) (Or.inl (hw _ (List.mem_of_getElem? (i := 30) rfl))) (by decide) (t := .boolean) (t' := (.object sN1)) (by decide) (by decide)))
        have f177_F_integerDigits_a1 : Fld Z h177 a1 sN0 "integerDigits" "J" (.long id) := F_integerDigits_a1.other W177 (Or.inr (slot_ne (Or.inl (hw _ (List.mem_of_getElem? (i := 36) rfl))) (Or.inl (hw _ (List.mem_of_getElem? (i := 30) rfl))) (by decide) (t := .long) (t' := (.object sN1)) (by decide) (by decide)))
        have f177_F_fractionDigits_a1 : Fld Z h177 a1 sN0 "fractionDigits" "J" (.long fd) := F_fractionDigits_a1.other W177 (Or.inr (slot_ne (Or.inl (hw _ (List.mem_of_getElem? (i := 38) rfl))) (Or.inl (hw _ (List.mem_of_getElem? (i := 30) rfl))) (by decide) (t := .long) (t' := (.object sN1)) (by decide) (by decide)))
        have f177_F_pendingZeros_a1 : Fld Z h177 a1 sN0 "pendingZeros" "J" (.long pz) := F_pendingZeros_a1.other W177 (Or.inr (slot_ne (Or.inl (hw _ (List.mem_of_getElem? (i := 40) rfl))) (Or.inl (hw _ (List.mem_of_getElem? (i := 30) rfl))) (by decide) (t := .long) (t' := (.object sN1)) (by decide) (by decide)))
        have f177_F_unscaled_a1 : Fld Z h177 a1 sN0 "unscaled" "J" (.long us) := F_unscaled_a1.other W177 (Or.inr (slot_ne (Or.inl (hw _ (List.mem_of_getElem? (i := 42) rfl))) (Or.inl (hw _ (List.mem_of_getElem? (i := 30) rfl))) (by decide) (t := .long) (t' := (.object sN1)) (by decide) (by decide)))
        have z177 : n0 ≤ h177.size := by rw [W177.size]; exact Z0
        have K177 : Keep h0 h177 [a1] := (Keep.refl h0 [a1]).wr W177 (Or.inl (List.mem_of_getElem? (i := 0) rfl))
        have N177 := Fr.snoc X177 N0 g_a1
        have R178 : ∀ t, Steps p.tables e below (T177.setTop (mkF m 124 #[rv a1, iv p2] [])) t → Steps p.tables e below (s₁.setTop f0) t := fun t k => R176 t (st177 t k)
        obtain ⟨fs, hr, hrun, hended, hW, hsame⟩ := X177.leave (v := none) (fun _ => rfl)
        refine ⟨_, _, pre0 _ (R178 _ ?_), hrun, hended, _, _, rfl, ?_, ⟨_, rfl⟩, hW, hsame.mono (by decide) (by decide)⟩
        · show Steps p.tables e below (T177.setTop (mkF m 124 #[rv a1, iv p2] [])) _
          exact X177.returnOut hx Bd.returns (hb hby d6_124) hr
        · show Q_rmTake Z a1 p2 2 io ng dr id fd pz us sS sI sF sB B h0 n0 _ T177.heap _
          rw [e177]
          exact ⟨ng, id, fd, pz, us, rfl, N177, K177, f177_F_integerOnly_a1, (by rw [show own_nx 2 p2 io = 3 from by simp [own_nx, own_nxB, own_dr, own_drB, own_D, own_P, own_G, hs15, hs16]]; exact fw177), f177_F_negative_a1, (by rw [show own_dr 2 p2 dr = dr from by simp [own_nx, own_nxB, own_dr, own_drB, own_D, own_P, own_G, hs15, hs16]]; exact f177_F_digitRead_a1), f177_F_integerDigits_a1, f177_F_fractionDigits_a1, f177_F_pendingZeros_a1, f177_F_unscaled_a1, ⟨hz.1, by have := hz.2; omega⟩⟩
    · skip
      have R179 : ∀ t, Steps p.tables e below (T160.setTop (mkF m 65 #[rv a1, iv p2] [(.int (57 : Int32)), (.int p2)])) t → Steps p.tables e below (s₁.setTop f0) t := fun t k => R162 t (by
        show Steps p.tables e below (T160.setTop (mkF m 59 #[rv a1, iv p2] [(.int (48 : Int32)), (.int p2)])) _
        refine XS.icmpNo X160.here hx rfl (hb hby d6_59) rfl (flt hs15).1 ?_
        refine XS.iloadN X160.here hx rfl (hb hby d6_62) rfl  ?_
        show Steps p.tables e below (T160.setTop (mkF m 63 #[rv a1, iv p2] [(.int p2)])) _
        refine XS.bipush X160.here hx rfl (hb hby d6_63) ?_
        exact k)
      by_cases hs17 : (57 : Int32) < p2
      · skip
        have R180 : ∀ t, Steps p.tables e below (T160.setTop (mkF m 87 #[rv a1, iv p2] [(.int (46 : Int32)), (.int p2)])) t → Steps p.tables e below (s₁.setTop f0) t := fun t k => R179 t (by
          show Steps p.tables e below (T160.setTop (mkF m 65 #[rv a1, iv p2] [(.int (57 : Int32)), (.int p2)])) _
          refine XS.icmpYes X160.here hx rfl (pc0 := 65) (pc' := 84) rfl (hb hby d6_65) rfl (tlt hs17).2.2.1 (by decide) (by decide) ?_
          refine XS.iloadN X160.here hx rfl (hb hby d6_84) rfl  ?_
          show Steps p.tables e below (T160.setTop (mkF m 85 #[rv a1, iv p2] [(.int p2)])) _
          refine XS.bipush X160.here hx rfl (hb hby d6_85) ?_
          exact k)
        by_cases hs18 : p2 = (46 : Int32)
        · skip
          have R181 : ∀ t, Steps p.tables e below (T160.setTop (mkF m 91 #[rv a1, iv p2] [(.ref a1)])) t → Steps p.tables e below (s₁.setTop f0) t := fun t k => R180 t (by
            show Steps p.tables e below (T160.setTop (mkF m 87 #[rv a1, iv p2] [(.int (46 : Int32)), (.int p2)])) _
            refine XS.icmpNo X160.here hx rfl (hb hby d6_87) rfl (teq hs18).2 ?_
            refine XS.aloadN X160.here hx rfl (hb hby d6_90) rfl rfl ?_
            exact k)
          obtain ⟨T182, X182, e182, st182⟩ := getF X160 hx hZ hown (host := "") (Or.inl (hw _ (List.mem_of_getElem? (i := 29) rfl))) Via.refl e160 Fp0 (g := (mkF m 91 #[rv a1, iv p2] [(.ref a1)])) rfl rfl (hb hby d6_91)
          have R183 : ∀ t, Steps p.tables e below (T182.setTop (mkF m 94 #[rv a1, iv p2] [(.ref sF)])) t → Steps p.tables e below (s₁.setTop f0) t := fun t k => R181 t (st182 t k)
          obtain ⟨T184, X184, e184, st184⟩ := getS2 X182 hx hZ hown (host := "") (Or.inl (hw _ (List.mem_of_getElem? (i := 56) rfl))) Via.refl e182 S_NumberText_Part_INTEGER (g := (mkF m 94 #[rv a1, iv p2] [(.ref sF)])) rfl (hb hby d6_94)
          have R185 : ∀ t, Steps p.tables e below (T184.setTop (mkF m 97 #[rv a1, iv p2] [(.ref sI), (.ref sF)])) t → Steps p.tables e below (s₁.setTop f0) t := fun t k => R183 t (st184 t k)
          have R186 : ∀ t, Steps p.tables e below (T184.setTop (mkF m 118 #[rv a1, iv p2] [(.ref a1)])) t → Steps p.tables e below (s₁.setTop f0) t := fun t k => R185 t (by
            show Steps p.tables e below (T184.setTop (mkF m 97 #[rv a1, iv p2] [(.ref sI), (.ref sF)])) _
            refine Jvm.RoadKit.acmp (g := (mkF m 97 #[rv a1, iv p2] [(.ref sI), (.ref sF)])) X184 hx rfl rfl rfl (pc0 := 97) (pc' := 117) (same := false) rfl (hb hby d6_97) rfl (decide_eq_false fun q => (Ne.symm ne_sI_sF) (Value.ref.inj q)) (by decide) (by decide) ?_
            refine XS.aloadN X184.here hx rfl (hb hby d6_117) rfl rfl ?_
            exact k)
          obtain ⟨T187, X187, e187, st187⟩ := getS2 X184 hx hZ hown (host := "") (Or.inl (hw _ (List.mem_of_getElem? (i := 48) rfl))) Via.refl e184 S_NumberText_Part_BROKEN (g := (mkF m 118 #[rv a1, iv p2] [(.ref a1)])) rfl (hb hby d6_118)
          have R188 : ∀ t, Steps p.tables e below (T187.setTop (mkF m 121 #[rv a1, iv p2] [(.ref sB), (.ref a1)])) t → Steps p.tables e below (s₁.setTop f0) t := fun t k => R186 t (st187 t k)
          obtain ⟨T189, h189, X189, e189, W189, st189⟩ := putF X187 hx hZ hown (host := "") (Or.inl (hw _ (List.mem_of_getElem? (i := 29) rfl))) Via.refl e187 Fp0 E_a1 (Or.inl (hw _ (List.mem_of_getElem? (i := 30) rfl))) (hw _ (List.mem_of_getElem? (i := 6) rfl)) (ty := (.object sN1)) (by decide) rfl rfl (g := (mkF m 121 #[rv a1, iv p2] [(.ref sB), (.ref a1)])) rfl rfl (hb hby d6_121)
          have fw189 : Fld Z h189 a1 sN0 "part" sN2 (.ref sB) := Fp0.same W189
          have f189_E_a1 : Exa Z h189 a1 sN0 := E_a1.wr W189
          have f189_S_NumberText_Part_SIGN : Sta Z h189 sN1 "SIGN" sN2 (.ref sS) := S_NumberText_Part_SIGN.wr W189
          have f189_S_NumberText_Part_INTEGER : Sta Z h189 sN1 "INTEGER" sN2 (.ref sI) := S_NumberText_Part_INTEGER.wr W189
          have f189_S_NumberText_Part_FRACTION : Sta Z h189 sN1 "FRACTION" sN2 (.ref sF) := S_NumberText_Part_FRACTION.wr W189
          have f189_S_NumberText_Part_BROKEN : Sta Z h189 sN1 "BROKEN" sN2 (.ref sB) := S_NumberText_Part_BROKEN.wr W189
          have f189_F_integerOnly_a1 : Fld Z h189 a1 sN0 "integerOnly" "Z" (.int io) := F_integerOnly_a1.other W189 (Or.inr (slot_ne (Or.inl (hw _ (List.mem_of_getElem? (i := 25) rfl))) (Or.inl (hw _ (List.mem_of_getElem? (i := 30) rfl))) (by decide) (t := .boolean) (t' := (.object sN1)) (by decide) (by decide)))
          have f189_F_negative_a1 : Fld Z h189 a1 sN0 "negative" "Z" ng := F_negative_a1.other W189 (Or.inr (slot_ne (Or.inl (hw _ (List.mem_of_getElem? (i := 32) rfl))) (Or.inl (hw _ (List.mem_of_getElem? (i := 30) rfl))) (by decide) (t := .boolean) (t' := (.object sN1)) (by decide) (by decide)))
          have f189_F_digitRead_a1 : Fld Z h189 a1 sN0 "digitRead" "Z" (.int dr) := F_digitRead_a1.other W189 (Or.inr (slot_ne (Or.inl (hw _ (List.mem_of_getElem? (i := 34) rfl))) (Or.inl (hw _ (List.mem_of_getElem? (i := 30) rfl))) (by decide) (t := .boolean) (t' := (.object sN1)) (by decide) (by decide)))
          have f189_F_integerDigits_a1 : Fld Z h189 a1 sN0 "integerDigits" "J" (.long id) := F_integerDigits_a1.other W189 (Or.inr (slot_ne (Or.inl (hw _ (List.mem_of_getElem? (i := 36) rfl))) (Or.inl (hw _ (List.mem_of_getElem? (i := 30) rfl))) (by decide) (t := .long) (t' := (.object sN1)) (by decide) (by decide)))
          have f189_F_fractionDigits_a1 : Fld Z h189 a1 sN0 "fractionDigits" "J" (.long fd) := F_fractionDigits_a1.other W189 (Or.inr (slot_ne (Or.inl (hw _ (List.mem_of_getElem? (i := 38) rfl))) (Or.inl (hw _ (List.mem_of_getElem? (i := 30) rfl))) (by decide) (t := .long) (t' := (.object sN1)) (by decide) (by decide)))
          have f189_F_pendingZeros_a1 : Fld Z h189 a1 sN0 "pendingZeros" "J" (.long pz) := F_pendingZeros_a1.other W189 (Or.inr (slot_ne (Or.inl (hw _ (List.mem_of_getElem? (i := 40) rfl))) (Or.inl (hw _ (List.mem_of_getElem? (i := 30) rfl))) (by decide) (t := .long) (t' := (.object sN1)) (by decide) (by decide)))
          have f189_F_unscaled_a1 : Fld Z h189 a1 sN0 "unscaled" "J" (.long us) := F_unscaled_a1.other W189 (Or.inr (slot_ne (Or.inl (hw _ (List.mem_of_getElem? (i := 42) rfl))) (Or.inl (hw _ (List.mem_of_getElem? (i := 30) rfl))) (by decide) (t := .long) (t' := (.object sN1)) (by decide) (by decide)))
          have z189 : n0 ≤ h189.size := by rw [W189.size]; exact Z0
          have K189 : Keep h0 h189 [a1] := (Keep.refl h0 [a1]).wr W189 (Or.inl (List.mem_of_getElem? (i := 0) rfl))
          have N189 := Fr.snoc X189 N0 g_a1
          have R190 : ∀ t, Steps p.tables e below (T189.setTop (mkF m 124 #[rv a1, iv p2] [])) t → Steps p.tables e below (s₁.setTop f0) t := fun t k => R188 t (st189 t k)
          obtain ⟨fs, hr, hrun, hended, hW, hsame⟩ := X189.leave (v := none) (fun _ => rfl)
          refine ⟨_, _, pre0 _ (R190 _ ?_), hrun, hended, _, _, rfl, ?_, ⟨_, rfl⟩, hW, hsame.mono (by decide) (by decide)⟩
          · show Steps p.tables e below (T189.setTop (mkF m 124 #[rv a1, iv p2] [])) _
            exact X189.returnOut hx Bd.returns (hb hby d6_124) hr
          · show Q_rmTake Z a1 p2 2 io ng dr id fd pz us sS sI sF sB B h0 n0 _ T189.heap _
            rw [e189]
            exact ⟨ng, id, fd, pz, us, rfl, N189, K189, f189_F_integerOnly_a1, (by rw [show own_nx 2 p2 io = 3 from by simp [own_nx, own_nxB, own_dr, own_drB, own_D, own_P, own_G, hs15, hs17, hs18]]; exact fw189), f189_F_negative_a1, (by rw [show own_dr 2 p2 dr = dr from by simp [own_nx, own_nxB, own_dr, own_drB, own_D, own_P, own_G, hs15, hs17, hs18]]; exact f189_F_digitRead_a1), f189_F_integerDigits_a1, f189_F_fractionDigits_a1, f189_F_pendingZeros_a1, f189_F_unscaled_a1, ⟨hz.1, by have := hz.2; omega⟩⟩
        · skip
          have R191 : ∀ t, Steps p.tables e below (T160.setTop (mkF m 118 #[rv a1, iv p2] [(.ref a1)])) t → Steps p.tables e below (s₁.setTop f0) t := fun t k => R180 t (by
            show Steps p.tables e below (T160.setTop (mkF m 87 #[rv a1, iv p2] [(.int (46 : Int32)), (.int p2)])) _
            refine XS.icmpYes X160.here hx rfl (pc0 := 87) (pc' := 117) rfl (hb hby d6_87) rfl (feq hs18).2 (by decide) (by decide) ?_
            refine XS.aloadN X160.here hx rfl (hb hby d6_117) rfl rfl ?_
            exact k)
          obtain ⟨T192, X192, e192, st192⟩ := getS2 X160 hx hZ hown (host := "") (Or.inl (hw _ (List.mem_of_getElem? (i := 48) rfl))) Via.refl e160 S_NumberText_Part_BROKEN (g := (mkF m 118 #[rv a1, iv p2] [(.ref a1)])) rfl (hb hby d6_118)
          have R193 : ∀ t, Steps p.tables e below (T192.setTop (mkF m 121 #[rv a1, iv p2] [(.ref sB), (.ref a1)])) t → Steps p.tables e below (s₁.setTop f0) t := fun t k => R191 t (st192 t k)
          obtain ⟨T194, h194, X194, e194, W194, st194⟩ := putF X192 hx hZ hown (host := "") (Or.inl (hw _ (List.mem_of_getElem? (i := 29) rfl))) Via.refl e192 Fp0 E_a1 (Or.inl (hw _ (List.mem_of_getElem? (i := 30) rfl))) (hw _ (List.mem_of_getElem? (i := 6) rfl)) (ty := (.object sN1)) (by decide) rfl rfl (g := (mkF m 121 #[rv a1, iv p2] [(.ref sB), (.ref a1)])) rfl rfl (hb hby d6_121)
          have fw194 : Fld Z h194 a1 sN0 "part" sN2 (.ref sB) := Fp0.same W194
          have f194_E_a1 : Exa Z h194 a1 sN0 := E_a1.wr W194
          have f194_S_NumberText_Part_SIGN : Sta Z h194 sN1 "SIGN" sN2 (.ref sS) := S_NumberText_Part_SIGN.wr W194
          have f194_S_NumberText_Part_INTEGER : Sta Z h194 sN1 "INTEGER" sN2 (.ref sI) := S_NumberText_Part_INTEGER.wr W194
          have f194_S_NumberText_Part_FRACTION : Sta Z h194 sN1 "FRACTION" sN2 (.ref sF) := S_NumberText_Part_FRACTION.wr W194
          have f194_S_NumberText_Part_BROKEN : Sta Z h194 sN1 "BROKEN" sN2 (.ref sB) := S_NumberText_Part_BROKEN.wr W194
          have f194_F_integerOnly_a1 : Fld Z h194 a1 sN0 "integerOnly" "Z" (.int io) := F_integerOnly_a1.other W194 (Or.inr (slot_ne (Or.inl (hw _ (List.mem_of_getElem? (i := 25) rfl))) (Or.inl (hw _ (List.mem_of_getElem? (i := 30) rfl))) (by decide) (t := .boolean) (t' := (.object sN1)) (by decide) (by decide)))
          have f194_F_negative_a1 : Fld Z h194 a1 sN0 "negative" "Z" ng := F_negative_a1.other W194 (Or.inr (slot_ne (Or.inl (hw _ (List.mem_of_getElem? (i := 32) rfl))) (Or.inl (hw _ (List.mem_of_getElem? (i := 30) rfl))) (by decide) (t := .boolean) (t' := (.object sN1)) (by decide) (by decide)))
          have f194_F_digitRead_a1 : Fld Z h194 a1 sN0 "digitRead" "Z" (.int dr) := F_digitRead_a1.other W194 (Or.inr (slot_ne (Or.inl (hw _ (List.mem_of_getElem? (i := 34) rfl))) (Or.inl (hw _ (List.mem_of_getElem? (i := 30) rfl))) (by decide) (t := .boolean) (t' := (.object sN1)) (by decide) (by decide)))
          have f194_F_integerDigits_a1 : Fld Z h194 a1 sN0 "integerDigits" "J" (.long id) := F_integerDigits_a1.other W194 (Or.inr (slot_ne (Or.inl (hw _ (List.mem_of_getElem? (i := 36) rfl))) (Or.inl (hw _ (List.mem_of_getElem? (i := 30) rfl))) (by decide) (t := .long) (t' := (.object sN1)) (by decide) (by decide)))
          have f194_F_fractionDigits_a1 : Fld Z h194 a1 sN0 "fractionDigits" "J" (.long fd) := F_fractionDigits_a1.other W194 (Or.inr (slot_ne (Or.inl (hw _ (List.mem_of_getElem? (i := 38) rfl))) (Or.inl (hw _ (List.mem_of_getElem? (i := 30) rfl))) (by decide) (t := .long) (t' := (.object sN1)) (by decide) (by decide)))
          have f194_F_pendingZeros_a1 : Fld Z h194 a1 sN0 "pendingZeros" "J" (.long pz) := F_pendingZeros_a1.other W194 (Or.inr (slot_ne (Or.inl (hw _ (List.mem_of_getElem? (i := 40) rfl))) (Or.inl (hw _ (List.mem_of_getElem? (i := 30) rfl))) (by decide) (t := .long) (t' := (.object sN1)) (by decide) (by decide)))
          have f194_F_unscaled_a1 : Fld Z h194 a1 sN0 "unscaled" "J" (.long us) := F_unscaled_a1.other W194 (Or.inr (slot_ne (Or.inl (hw _ (List.mem_of_getElem? (i := 42) rfl))) (Or.inl (hw _ (List.mem_of_getElem? (i := 30) rfl))) (by decide) (t := .long) (t' := (.object sN1)) (by decide) (by decide)))
          have z194 : n0 ≤ h194.size := by rw [W194.size]; exact Z0
          have K194 : Keep h0 h194 [a1] := (Keep.refl h0 [a1]).wr W194 (Or.inl (List.mem_of_getElem? (i := 0) rfl))
          have N194 := Fr.snoc X194 N0 g_a1
          have R195 : ∀ t, Steps p.tables e below (T194.setTop (mkF m 124 #[rv a1, iv p2] [])) t → Steps p.tables e below (s₁.setTop f0) t := fun t k => R193 t (st194 t k)
          obtain ⟨fs, hr, hrun, hended, hW, hsame⟩ := X194.leave (v := none) (fun _ => rfl)
          refine ⟨_, _, pre0 _ (R195 _ ?_), hrun, hended, _, _, rfl, ?_, ⟨_, rfl⟩, hW, hsame.mono (by decide) (by decide)⟩
          · show Steps p.tables e below (T194.setTop (mkF m 124 #[rv a1, iv p2] [])) _
            exact X194.returnOut hx Bd.returns (hb hby d6_124) hr
          · show Q_rmTake Z a1 p2 2 io ng dr id fd pz us sS sI sF sB B h0 n0 _ T194.heap _
            rw [e194]
            exact ⟨ng, id, fd, pz, us, rfl, N194, K194, f194_F_integerOnly_a1, (by rw [show own_nx 2 p2 io = 3 from by simp [own_nx, own_nxB, own_dr, own_drB, own_D, own_P, own_G, hs15, hs17, hs18]]; exact fw194), f194_F_negative_a1, (by rw [show own_dr 2 p2 dr = dr from by simp [own_nx, own_nxB, own_dr, own_drB, own_D, own_P, own_G, hs15, hs17, hs18]]; exact f194_F_digitRead_a1), f194_F_integerDigits_a1, f194_F_fractionDigits_a1, f194_F_pendingZeros_a1, f194_F_unscaled_a1, ⟨hz.1, by have := hz.2; omega⟩⟩
      · skip
        have R196 : ∀ t, Steps p.tables e below (T160.setTop (mkF m 70 #[rv a1, iv p2] [(.int (1 : Int32)), (.ref a1)])) t → Steps p.tables e below (s₁.setTop f0) t := fun t k => R179 t (by
          show Steps p.tables e below (T160.setTop (mkF m 65 #[rv a1, iv p2] [(.int (57 : Int32)), (.int p2)])) _
          refine XS.icmpNo X160.here hx rfl (hb hby d6_65) rfl (flt hs17).2.2.1 ?_
          refine XS.aloadN X160.here hx rfl (hb hby d6_68) rfl rfl ?_
          show Steps p.tables e below (T160.setTop (mkF m 69 #[rv a1, iv p2] [(.ref a1)])) _
          refine XS.iconst X160.here hx rfl (hb hby d6_69) ?_
          exact k)
        obtain ⟨T197, h197, X197, e197, W197, st197⟩ := putFN X160 hx hZ hown (hw _ (List.mem_of_getElem? (i := 33) rfl)) Via.refl e160 F_digitRead_a1 E_a1 (Or.inl (hw _ (List.mem_of_getElem? (i := 34) rfl))) (hw _ (List.mem_of_getElem? (i := 6) rfl)) (ty := .boolean) (v' := (.int (1 : Int32))) (by decide) rfl rfl (g := (mkF m 70 #[rv a1, iv p2] [(.int (1 : Int32)), (.ref a1)])) rfl rfl (hb hby d6_70)
        have fw197 : Fld Z h197 a1 sN0 "digitRead" "Z" (.int (1 : Int32)) := F_digitRead_a1.same W197
        have f197_E_a1 : Exa Z h197 a1 sN0 := E_a1.wr W197
        have f197_S_NumberText_Part_SIGN : Sta Z h197 sN1 "SIGN" sN2 (.ref sS) := S_NumberText_Part_SIGN.wr W197
        have f197_S_NumberText_Part_INTEGER : Sta Z h197 sN1 "INTEGER" sN2 (.ref sI) := S_NumberText_Part_INTEGER.wr W197
        have f197_S_NumberText_Part_FRACTION : Sta Z h197 sN1 "FRACTION" sN2 (.ref sF) := S_NumberText_Part_FRACTION.wr W197
        have f197_S_NumberText_Part_BROKEN : Sta Z h197 sN1 "BROKEN" sN2 (.ref sB) := S_NumberText_Part_BROKEN.wr W197
        have f197_F_integerOnly_a1 : Fld Z h197 a1 sN0 "integerOnly" "Z" (.int io) := F_integerOnly_a1.other W197 (Or.inr (slot_ne (Or.inl (hw _ (List.mem_of_getElem? (i := 25) rfl))) (Or.inl (hw _ (List.mem_of_getElem? (i := 34) rfl))) (by decide) (t := .boolean) (t' := .boolean) (by decide) (by decide)))
        have f197_F_part_a1 : Fld Z h197 a1 sN0 "part" sN2 (.ref sF) := Fp0.other W197 (Or.inr (slot_ne (Or.inl (hw _ (List.mem_of_getElem? (i := 30) rfl))) (Or.inl (hw _ (List.mem_of_getElem? (i := 34) rfl))) (by decide) (t := (.object sN1)) (t' := .boolean) (by decide) (by decide)))
        have f197_F_negative_a1 : Fld Z h197 a1 sN0 "negative" "Z" ng := F_negative_a1.other W197 (Or.inr (slot_ne (Or.inl (hw _ (List.mem_of_getElem? (i := 32) rfl))) (Or.inl (hw _ (List.mem_of_getElem? (i := 34) rfl))) (by decide) (t := .boolean) (t' := .boolean) (by decide) (by decide)))
        have f197_F_integerDigits_a1 : Fld Z h197 a1 sN0 "integerDigits" "J" (.long id) := F_integerDigits_a1.other W197 (Or.inr (slot_ne (Or.inl (hw _ (List.mem_of_getElem? (i := 36) rfl))) (Or.inl (hw _ (List.mem_of_getElem? (i := 34) rfl))) (by decide) (t := .long) (t' := .boolean) (by decide) (by decide)))
        have f197_F_fractionDigits_a1 : Fld Z h197 a1 sN0 "fractionDigits" "J" (.long fd) := F_fractionDigits_a1.other W197 (Or.inr (slot_ne (Or.inl (hw _ (List.mem_of_getElem? (i := 38) rfl))) (Or.inl (hw _ (List.mem_of_getElem? (i := 34) rfl))) (by decide) (t := .long) (t' := .boolean) (by decide) (by decide)))
        have f197_F_pendingZeros_a1 : Fld Z h197 a1 sN0 "pendingZeros" "J" (.long pz) := F_pendingZeros_a1.other W197 (Or.inr (slot_ne (Or.inl (hw _ (List.mem_of_getElem? (i := 40) rfl))) (Or.inl (hw _ (List.mem_of_getElem? (i := 34) rfl))) (by decide) (t := .long) (t' := .boolean) (by decide) (by decide)))
        have f197_F_unscaled_a1 : Fld Z h197 a1 sN0 "unscaled" "J" (.long us) := F_unscaled_a1.other W197 (Or.inr (slot_ne (Or.inl (hw _ (List.mem_of_getElem? (i := 42) rfl))) (Or.inl (hw _ (List.mem_of_getElem? (i := 34) rfl))) (by decide) (t := .long) (t' := .boolean) (by decide) (by decide)))
        have z197 : n0 ≤ h197.size := by rw [W197.size]; exact Z0
        have K197 : Keep h0 h197 [a1] := (Keep.refl h0 [a1]).wr W197 (Or.inl (List.mem_of_getElem? (i := 0) rfl))
        have N197 := Fr.snoc X197 N0 g_a1
        have R198 : ∀ t, Steps p.tables e below (T197.setTop (mkF m 73 #[rv a1, iv p2] [])) t → Steps p.tables e below (s₁.setTop f0) t := fun t k => R196 t (st197 t k)
        have R199 : ∀ t, Steps p.tables e below (T197.setTop (mkF m 78 #[rv a1, iv p2] [(.int (p2 - (48 : Int32))), (.ref a1)])) t → Steps p.tables e below (s₁.setTop f0) t := fun t k => R198 t (by
          show Steps p.tables e below (T197.setTop (mkF m 73 #[rv a1, iv p2] [])) _
          refine XS.aloadN X197.here hx rfl (hb hby d6_73) rfl rfl ?_
          refine XS.iloadN X197.here hx rfl (hb hby d6_74) rfl  ?_
          show Steps p.tables e below (T197.setTop (mkF m 75 #[rv a1, iv p2] [(.int p2), (.ref a1)])) _
          refine XS.bipush X197.here hx rfl (hb hby d6_75) ?_
          refine XS.isub X197.here hx rfl (hb hby d6_77) rfl ?_
          exact k)
        obtain ⟨cq200, q200, q200'⟩ := f197_E_a1.cell
        obtain ⟨_, _, ⟨T200, L200, k200, n200⟩, -, X200, ⟨Lc200, hQ200, l200, y200, z200⟩, st200⟩ := X197.privateBack hx (y := (⟨sN0, "digit", "(I)V"⟩ : MethodName)) hown (mvT hZ (hw _ (List.mem_of_getElem? (i := 58) rfl))) (mvT hZ (hw _ (List.mem_of_getElem? (i := 59) rfl))) (own_selp (w := (⟨sN0, "start", sN6⟩ : MethodName)) (mvT hZ (hw _ (List.mem_of_getElem? (i := 20) rfl))) rfl (Cond.privateMethod_at (mvP hZ (hw _ (List.mem_of_getElem? (i := 60) rfl)) (args := #[]))) (mvT hZ (hw _ (List.mem_of_getElem? (i := 59) rfl))) (by decide)) (Cond.privateMethod_at (mvP hZ (hw _ (List.mem_of_getElem? (i := 60) rfl)) (args := #[]))) (mvT hZ (hw _ (List.mem_of_getElem? (i := 61) rfl))) (by decide) (backOf (W := 0) (rmDigitF l Z a0 hw [] a1 (p2 - (48 : Int32)) io ng (1 : Int32) id fd pz us sI sF B h197 n0 z197 f197_E_a1 g_a1 f197_S_NumberText_Part_INTEGER hB hz ne_sI_sF f197_F_integerOnly_a1 f197_F_part_a1 f197_F_negative_a1 fw197 f197_F_integerDigits_a1 f197_F_fractionDigits_a1 f197_F_pendingZeros_a1 f197_F_unscaled_a1) hZ (hw _ (List.mem_of_getElem? (i := 61) rfl)) (hw _ (List.mem_of_getElem? (i := 7) rfl)) (by decide) (by decide)) (g := (mkF m 78 #[rv a1, iv p2] [(.int (p2 - (48 : Int32))), (.ref a1)])) rfl (by rw [hml]; rfl) (Steps.refl _) (a := a1) (by rw [e197]; exact q200) q200' (argsL := [(.int (p2 - (48 : Int32)))]) (rest := []) (lenOf pd_3 rfl) rfl (by show 2 * 0 + _ ≤ _; exact Nat.le_of_eq rfl) (hb hby d6_78) (fun _ _ => ⟨rfl, e197, (by decide : 0 + 0 ≤ _), (by decide : 0 + 0 ≤ _)⟩)
        dsimp only [Pt.U, Pt.locs, Pt.cells, Pt.slots] at X200 l200 y200 z200 st200 hQ200
        subst l200 y200 z200
        obtain ⟨id2_200, fd2_200, pz2_200, us2_200, rfl, N200q, p200_0, p200_1, p200_2, p200_3, p200_4, p200_5, p200_6, p200_7, p200_8, p200_9⟩ := hQ200
        have N200 := Fr.app N197 N200q
        have f200_E_a1 : Exa Z T200.heap a1 sN0 := f197_E_a1.keep p200_0
        have f200_S_NumberText_Part_SIGN : Sta Z T200.heap sN1 "SIGN" sN2 (.ref sS) := own_sta_keep f197_S_NumberText_Part_SIGN p200_0 (nsS f197_E_a1.nostat ns0)
        have f200_S_NumberText_Part_INTEGER : Sta Z T200.heap sN1 "INTEGER" sN2 (.ref sI) := own_sta_keep f197_S_NumberText_Part_INTEGER p200_0 (nsS f197_E_a1.nostat ns0)
        have f200_S_NumberText_Part_FRACTION : Sta Z T200.heap sN1 "FRACTION" sN2 (.ref sF) := own_sta_keep f197_S_NumberText_Part_FRACTION p200_0 (nsS f197_E_a1.nostat ns0)
        have f200_S_NumberText_Part_BROKEN : Sta Z T200.heap sN1 "BROKEN" sN2 (.ref sB) := own_sta_keep f197_S_NumberText_Part_BROKEN p200_0 (nsS f197_E_a1.nostat ns0)
        have z200 : n0 ≤ T200.heap.size := Nat.le_trans z197 p200_0.1
        have K200 : Keep h0 T200.heap [a1] := K197.trans p200_0 (allS (Or.inl (List.mem_of_getElem? (i := 0) rfl)) all0)
        have R201 : ∀ t, Steps p.tables e below (T200.setTop (mkF m 81 #[rv a1, iv p2] [])) t → Steps p.tables e below (s₁.setTop f0) t := fun t k => R199 t (st200.trans k)
        have R202 : ∀ t, Steps p.tables e below (T200.setTop (mkF m 124 #[rv a1, iv p2] [])) t → Steps p.tables e below (s₁.setTop f0) t := fun t k => R201 t (by
          show Steps p.tables e below (T200.setTop (mkF m 81 #[rv a1, iv p2] [])) _
          refine XS.goto X200.here hx rfl (pc0 := 81) (pc' := 124) rfl (hb hby d6_81) (by decide) (by decide) ?_
          exact k)
        obtain ⟨fs, hr, hrun, hended, hW, hsame⟩ := X200.leave (v := none) (fun _ => rfl)
        refine ⟨_, _, pre0 _ (R202 _ ?_), hrun, hended, _, _, rfl, ?_, ⟨_, rfl⟩, hW, hsame.mono (by decide) (by decide)⟩
        · show Steps p.tables e below (T200.setTop (mkF m 124 #[rv a1, iv p2] [])) _
          exact X200.returnOut hx Bd.returns (hb hby d6_124) hr
        · show Q_rmTake Z a1 p2 2 io ng dr id fd pz us sS sI sF sB B h0 n0 _ T200.heap _
          exact ⟨ng, id2_200, fd2_200, pz2_200, us2_200, rfl, N200, K200, p200_1, (by rw [show own_nx 2 p2 io = 2 from by simp [own_nx, own_nxB, own_dr, own_drB, own_D, own_P, own_G, hs15, hs17]]; exact p200_2), p200_3, (by rw [show own_dr 2 p2 dr = (1 : Int32) from by simp [own_nx, own_nxB, own_dr, own_drB, own_D, own_P, own_G, hs15, hs17]]; exact p200_4), p200_5, p200_6, p200_7, p200_8, p200_9⟩
  · skip
    have Fp0 : Fld Z h0 a1 sN0 "part" sN2 (.ref sB) := F_part_a1
    have R203 : ∀ t, Steps p.tables e below (s₁.setTop (mkF m 1 #[rv a1, iv p2] [(.ref a1)])) t → Steps p.tables e below (s₁.setTop f0) t := fun t k => R0 t (by
      show Steps p.tables e below (s₁.setTop (mkF m 0 #[rv a1, iv p2] [])) _
      refine XS.aloadN X0.here hx rfl (hb hby d6_0) rfl rfl ?_
      exact k)
    obtain ⟨T204, X204, e204, st204⟩ := getF X0 hx hZ hown (host := "") (Or.inl (hw _ (List.mem_of_getElem? (i := 29) rfl))) Via.refl e0 Fp0 (g := (mkF m 1 #[rv a1, iv p2] [(.ref a1)])) rfl rfl (hb hby d6_1)
    have R205 : ∀ t, Steps p.tables e below (T204.setTop (mkF m 4 #[rv a1, iv p2] [(.ref sB)])) t → Steps p.tables e below (s₁.setTop f0) t := fun t k => R203 t (st204 t k)
    obtain ⟨T206, X206, e206, st206⟩ := getS2 X204 hx hZ hown (host := "") (Or.inl (hw _ (List.mem_of_getElem? (i := 48) rfl))) Via.refl e204 S_NumberText_Part_BROKEN (g := (mkF m 4 #[rv a1, iv p2] [(.ref sB)])) rfl (hb hby d6_4)
    have R207 : ∀ t, Steps p.tables e below (T206.setTop (mkF m 7 #[rv a1, iv p2] [(.ref sB), (.ref sB)])) t → Steps p.tables e below (s₁.setTop f0) t := fun t k => R205 t (st206 t k)
    have R208 : ∀ t, Steps p.tables e below (T206.setTop (mkF m 10 #[rv a1, iv p2] [])) t → Steps p.tables e below (s₁.setTop f0) t := fun t k => R207 t (by
      show Steps p.tables e below (T206.setTop (mkF m 7 #[rv a1, iv p2] [(.ref sB), (.ref sB)])) _
      refine Jvm.RoadKit.acmp (g := (mkF m 7 #[rv a1, iv p2] [(.ref sB), (.ref sB)])) X206 hx rfl rfl rfl (pc0 := 7) (pc' := 10) (same := true) rfl (hb hby d6_7) rfl (decide_eq_true rfl) (by decide) (by decide) ?_
      exact k)
    obtain ⟨fs, hr, hrun, hended, hW, hsame⟩ := X206.leave (v := none) (fun _ => rfl)
    refine ⟨_, _, pre0 _ (R208 _ ?_), hrun, hended, _, _, rfl, ?_, ⟨_, rfl⟩, hW, hsame.mono (by decide) (by decide)⟩
    · show Steps p.tables e below (T206.setTop (mkF m 10 #[rv a1, iv p2] [])) _
      exact X206.returnOut hx Bd.returns (hb hby d6_10) hr
    · show Q_rmTake Z a1 p2 3 io ng dr id fd pz us sS sI sF sB B h0 n0 _ T206.heap _
      rw [e206]
      exact ⟨ng, id, fd, pz, us, rfl, N0, (Keep.refl h0 [a1]), F_integerOnly_a1, (by rw [show own_nx 3 p2 io = 3 from by simp [own_nx, own_nxB, own_dr, own_drB, own_D, own_P, own_G]]; exact Fp0), F_negative_a1, (by rw [show own_dr 3 p2 dr = dr from by simp [own_nx, own_nxB, own_dr, own_drB, own_D, own_P, own_G]]; exact F_digitRead_a1), F_integerDigits_a1, F_fractionDigits_a1, F_pendingZeros_a1, F_unscaled_a1, ⟨hz.1, by have := hz.2; omega⟩⟩
theorem ef_rmWf (m : MethodId) (x0 : Addr) : entryFrame m #[(.ref x0)] 1 = mkF m 0 #[rv x0] [] := by first | (simp [entryFrame, mkF, argsToLocals, Value.category]; done) | rfl
def Q_rmWf (Z : State) (a1 : Addr) (sc : Nat) (dr : Int32) (sS : Addr) (sI : Addr) (sF : Addr) (sB : Addr) (h0 : Heap) (n0 : Nat) (v : Option Value) (h : Heap) (L : List Loc) : Prop := v = some (.int (own_i (own_wf sc dr))) ∧ Fr n0 L ∧ h = h0
set_option maxRecDepth 65536 in
set_option maxHeartbeats 40000000 in
theorem rmWf (l : Launch) (Z : State) (a0 : Array Value) (hw : ∀ d ∈ tables_1, d.before a0 Z = true) (ws : List Jvm.Cond) (a1 : Addr) (sc : Nat) (dr : Int32) (sS : Addr) (sI : Addr) (sF : Addr) (sB : Addr) (h0 : Heap) (n0 : Nat) (Z0 : n0 ≤ h0.size) (S_NumberText_Part_BROKEN : Sta Z h0 sN1 "BROKEN" sN2 (.ref sB)) (ne_sS_sB : sS ≠ sB) (ne_sI_sB : sI ≠ sB) (ne_sF_sB : sF ≠ sB) (hs : sc < 4) (F_part_a1 : Fld Z h0 a1 sN0 "part" sN2 (.ref (own_ad sS sI sF sB sc))) (F_digitRead_a1 : Fld Z h0 a1 sN0 "digitRead" "Z" (.int dr)) :
    MetFree l (⟨sN0, "wellFormed", "()Z"⟩ : MethodName) (head1 (Jvm.Cond.code (⟨sN0, "wellFormed", "()Z"⟩ : MethodName) prog_10_method_6_code 1 (some .boolean) :: ws) ({ frames := 0, cells := 0, slots := 0, locals := 0 } : Room)) (fun a U => a = #[(.ref a1)] ∧ Z.Warmed39 U.vm ∧ U.heap = h0) (fun _ _ _ _ _ => True) (fun _ U o U' => ∃ v L, o = .returned v ∧ Q_rmWf Z a1 sc dr sS sI sF sB h0 n0 v U'.heap L ∧ FrameEnd U o U' L ({ frames := 0, cells := 0, slots := 0, locals := 0 } : Room).cells ({ frames := 0, cells := 0, slots := 0, locals := 0 } : Room).slots) := by
  refine MetFree.of_bodySF (plainFor_of_name pn_0) hisR ?_
  intro p e s m args below meth c s₁ Bd hml0 hP hK
  obtain ⟨rfl, hZ, hh⟩ := hP
  have hx := Bd.exec
  have hby := Bd.bytes
  have hml : c.maxLocals = 1 := hml0
  have hown : s.vm.findClass sN0 = some m.cls := findClass_of_methodNamed Bd.named
  have hnm := (name_of_methodNamed Bd.named Bd.method).1
  have X0 : Stand p l e ({ frames := 0, cells := 0, slots := 0, locals := 0 } : Room) s m #[(.ref a1)] below meth c s₁ [] 0 0 := Stand.of_body Bd
  have e0 : s₁.heap = h0 := by rw [← hh, Bd.state]; rfl
  have N0 := Fr.nil n0
  obtain ⟨f0, hf0⟩ : ∃ f : JFrame, f = mkF m 0 #[rv a1] [] := ⟨_, rfl⟩
  have pre0 : ∀ t, Steps p.tables e below (s₁.setTop f0) t → Steps p.tables e below (s₁.setTop (entryFrame m #[(.ref a1)] 1)) t := fun t k => castTop ((ef_rmWf m a1).trans hf0.symm) k
  have R0 : ∀ t, Steps p.tables e below (s₁.setTop (mkF m 0 #[rv a1] [])) t → Steps p.tables e below (s₁.setTop f0) t := by rw [hf0]; exact fun t k => k
  rcases own_s4 hs with rfl | rfl | rfl | rfl
  · skip
    have Fp0 : Fld Z h0 a1 sN0 "part" sN2 (.ref sS) := F_part_a1
    have R1 : ∀ t, Steps p.tables e below (s₁.setTop (mkF m 1 #[rv a1] [(.ref a1)])) t → Steps p.tables e below (s₁.setTop f0) t := fun t k => R0 t (by
      show Steps p.tables e below (s₁.setTop (mkF m 0 #[rv a1] [])) _
      refine XS.aloadN X0.here hx rfl (hb hby d5_0) rfl rfl ?_
      exact k)
    obtain ⟨T2, X2, e2, st2⟩ := getF X0 hx hZ hown (host := "") (Or.inl (hw _ (List.mem_of_getElem? (i := 29) rfl))) Via.refl e0 Fp0 (g := (mkF m 1 #[rv a1] [(.ref a1)])) rfl rfl (hb hby d5_1)
    have R3 : ∀ t, Steps p.tables e below (T2.setTop (mkF m 4 #[rv a1] [(.ref sS)])) t → Steps p.tables e below (s₁.setTop f0) t := fun t k => R1 t (st2 t k)
    obtain ⟨T4, X4, e4, st4⟩ := getS2 X2 hx hZ hown (host := "") (Or.inl (hw _ (List.mem_of_getElem? (i := 48) rfl))) Via.refl e2 S_NumberText_Part_BROKEN (g := (mkF m 4 #[rv a1] [(.ref sS)])) rfl (hb hby d5_4)
    have R5 : ∀ t, Steps p.tables e below (T4.setTop (mkF m 7 #[rv a1] [(.ref sB), (.ref sS)])) t → Steps p.tables e below (s₁.setTop f0) t := fun t k => R3 t (st4 t k)
    have R6 : ∀ t, Steps p.tables e below (T4.setTop (mkF m 11 #[rv a1] [(.ref a1)])) t → Steps p.tables e below (s₁.setTop f0) t := fun t k => R5 t (by
      show Steps p.tables e below (T4.setTop (mkF m 7 #[rv a1] [(.ref sB), (.ref sS)])) _
      refine Jvm.RoadKit.acmp (g := (mkF m 7 #[rv a1] [(.ref sB), (.ref sS)])) X4 hx rfl rfl rfl (pc0 := 7) (pc' := 10) (same := false) rfl (hb hby d5_7) rfl (decide_eq_false fun q => ne_sS_sB (Value.ref.inj q)) (by decide) (by decide) ?_
      refine XS.aloadN X4.here hx rfl (hb hby d5_10) rfl rfl ?_
      exact k)
    obtain ⟨T7, X7, e7, st7⟩ := getF X4 hx hZ hown (host := "") (Or.inl (hw _ (List.mem_of_getElem? (i := 33) rfl))) Via.refl e4 F_digitRead_a1 (g := (mkF m 11 #[rv a1] [(.ref a1)])) rfl rfl (hb hby d5_11)
    have R8 : ∀ t, Steps p.tables e below (T7.setTop (mkF m 14 #[rv a1] [(.int dr)])) t → Steps p.tables e below (s₁.setTop f0) t := fun t k => R6 t (st7 t k)
    by_cases hs1 : dr = (0 : Int32)
    · skip
      have R9 : ∀ t, Steps p.tables e below (T7.setTop (mkF m 22 #[rv a1] [(.int (0 : Int32))])) t → Steps p.tables e below (s₁.setTop f0) t := fun t k => R8 t (by
        show Steps p.tables e below (T7.setTop (mkF m 14 #[rv a1] [(.int dr)])) _
        refine XS.ifYes X7.here hx rfl (pc0 := 14) (pc' := 21) rfl (hb hby d5_14) rfl ((if0 _ _).trans (teq hs1).1) (by decide) (by decide) ?_
        refine XS.iconst X7.here hx rfl (hb hby d5_21) ?_
        exact k)
      obtain ⟨fs, hr, hrun, hended, hW, hsame⟩ := X7.leave (v := some (.int (0 : Int32))) (fun h => by rw [Bd.returns] at h; cases h)
      refine ⟨_, _, pre0 _ (R9 _ ?_), hrun, hended, _, _, rfl, ?_, ⟨_, rfl⟩, hW, hsame.mono (by decide) (by decide)⟩
      · show Steps p.tables e below (T7.setTop (mkF m 22 #[rv a1] [(.int (0 : Int32))])) _
        exact retN X7 hx (t := .boolean) Bd.returns (by simp) (hb hby d5_22) hr
      · show Q_rmWf Z a1 0 dr sS sI sF sB h0 n0 _ T7.heap _
        rw [e7]
        exact ⟨(by (try simp only [lw_gt, lw_lt, lw_eq, own_i_eq0, Bool.not_eq_false] at hs1); simp [own_i, own_wf, hs1]), N0, rfl⟩
    · skip
      have R10 : ∀ t, Steps p.tables e below (T7.setTop (mkF m 22 #[rv a1] [(.int (1 : Int32))])) t → Steps p.tables e below (s₁.setTop f0) t := fun t k => R8 t (by
        show Steps p.tables e below (T7.setTop (mkF m 14 #[rv a1] [(.int dr)])) _
        refine XS.ifNo X7.here hx rfl (hb hby d5_14) rfl ((if0 _ _).trans (feq hs1).1) ?_
        refine XS.iconst X7.here hx rfl (hb hby d5_17) ?_
        show Steps p.tables e below (T7.setTop (mkF m 18 #[rv a1] [(.int (1 : Int32))])) _
        refine XS.goto X7.here hx rfl (pc0 := 18) (pc' := 22) rfl (hb hby d5_18) (by decide) (by decide) ?_
        exact k)
      obtain ⟨fs, hr, hrun, hended, hW, hsame⟩ := X7.leave (v := some (.int (1 : Int32))) (fun h => by rw [Bd.returns] at h; cases h)
      refine ⟨_, _, pre0 _ (R10 _ ?_), hrun, hended, _, _, rfl, ?_, ⟨_, rfl⟩, hW, hsame.mono (by decide) (by decide)⟩
      · show Steps p.tables e below (T7.setTop (mkF m 22 #[rv a1] [(.int (1 : Int32))])) _
        exact retN X7 hx (t := .boolean) Bd.returns (by simp) (hb hby d5_22) hr
      · show Q_rmWf Z a1 0 dr sS sI sF sB h0 n0 _ T7.heap _
        rw [e7]
        exact ⟨(by (try simp only [lw_gt, lw_lt, lw_eq, own_i_eq0, Bool.not_eq_false] at hs1); simp [own_i, own_wf, hs1]), N0, rfl⟩
  · skip
    have Fp0 : Fld Z h0 a1 sN0 "part" sN2 (.ref sI) := F_part_a1
    have R11 : ∀ t, Steps p.tables e below (s₁.setTop (mkF m 1 #[rv a1] [(.ref a1)])) t → Steps p.tables e below (s₁.setTop f0) t := fun t k => R0 t (by
      show Steps p.tables e below (s₁.setTop (mkF m 0 #[rv a1] [])) _
      refine XS.aloadN X0.here hx rfl (hb hby d5_0) rfl rfl ?_
      exact k)
    obtain ⟨T12, X12, e12, st12⟩ := getF X0 hx hZ hown (host := "") (Or.inl (hw _ (List.mem_of_getElem? (i := 29) rfl))) Via.refl e0 Fp0 (g := (mkF m 1 #[rv a1] [(.ref a1)])) rfl rfl (hb hby d5_1)
    have R13 : ∀ t, Steps p.tables e below (T12.setTop (mkF m 4 #[rv a1] [(.ref sI)])) t → Steps p.tables e below (s₁.setTop f0) t := fun t k => R11 t (st12 t k)
    obtain ⟨T14, X14, e14, st14⟩ := getS2 X12 hx hZ hown (host := "") (Or.inl (hw _ (List.mem_of_getElem? (i := 48) rfl))) Via.refl e12 S_NumberText_Part_BROKEN (g := (mkF m 4 #[rv a1] [(.ref sI)])) rfl (hb hby d5_4)
    have R15 : ∀ t, Steps p.tables e below (T14.setTop (mkF m 7 #[rv a1] [(.ref sB), (.ref sI)])) t → Steps p.tables e below (s₁.setTop f0) t := fun t k => R13 t (st14 t k)
    have R16 : ∀ t, Steps p.tables e below (T14.setTop (mkF m 11 #[rv a1] [(.ref a1)])) t → Steps p.tables e below (s₁.setTop f0) t := fun t k => R15 t (by
      show Steps p.tables e below (T14.setTop (mkF m 7 #[rv a1] [(.ref sB), (.ref sI)])) _
      refine Jvm.RoadKit.acmp (g := (mkF m 7 #[rv a1] [(.ref sB), (.ref sI)])) X14 hx rfl rfl rfl (pc0 := 7) (pc' := 10) (same := false) rfl (hb hby d5_7) rfl (decide_eq_false fun q => ne_sI_sB (Value.ref.inj q)) (by decide) (by decide) ?_
      refine XS.aloadN X14.here hx rfl (hb hby d5_10) rfl rfl ?_
      exact k)
    obtain ⟨T17, X17, e17, st17⟩ := getF X14 hx hZ hown (host := "") (Or.inl (hw _ (List.mem_of_getElem? (i := 33) rfl))) Via.refl e14 F_digitRead_a1 (g := (mkF m 11 #[rv a1] [(.ref a1)])) rfl rfl (hb hby d5_11)
    have R18 : ∀ t, Steps p.tables e below (T17.setTop (mkF m 14 #[rv a1] [(.int dr)])) t → Steps p.tables e below (s₁.setTop f0) t := fun t k => R16 t (st17 t k)
    by_cases hs2 : dr = (0 : Int32)
    · skip
      have R19 : ∀ t, Steps p.tables e below (T17.setTop (mkF m 22 #[rv a1] [(.int (0 : Int32))])) t → Steps p.tables e below (s₁.setTop f0) t := fun t k => R18 t (by
        show Steps p.tables e below (T17.setTop (mkF m 14 #[rv a1] [(.int dr)])) _
        refine XS.ifYes X17.here hx rfl (pc0 := 14) (pc' := 21) rfl (hb hby d5_14) rfl ((if0 _ _).trans (teq hs2).1) (by decide) (by decide) ?_
        refine XS.iconst X17.here hx rfl (hb hby d5_21) ?_
        exact k)
      obtain ⟨fs, hr, hrun, hended, hW, hsame⟩ := X17.leave (v := some (.int (0 : Int32))) (fun h => by rw [Bd.returns] at h; cases h)
      refine ⟨_, _, pre0 _ (R19 _ ?_), hrun, hended, _, _, rfl, ?_, ⟨_, rfl⟩, hW, hsame.mono (by decide) (by decide)⟩
      · show Steps p.tables e below (T17.setTop (mkF m 22 #[rv a1] [(.int (0 : Int32))])) _
        exact retN X17 hx (t := .boolean) Bd.returns (by simp) (hb hby d5_22) hr
      · show Q_rmWf Z a1 1 dr sS sI sF sB h0 n0 _ T17.heap _
        rw [e17]
        exact ⟨(by (try simp only [lw_gt, lw_lt, lw_eq, own_i_eq0, Bool.not_eq_false] at hs2); simp [own_i, own_wf, hs2]), N0, rfl⟩
    · skip
      have R20 : ∀ t, Steps p.tables e below (T17.setTop (mkF m 22 #[rv a1] [(.int (1 : Int32))])) t → Steps p.tables e below (s₁.setTop f0) t := fun t k => R18 t (by
        show Steps p.tables e below (T17.setTop (mkF m 14 #[rv a1] [(.int dr)])) _
        refine XS.ifNo X17.here hx rfl (hb hby d5_14) rfl ((if0 _ _).trans (feq hs2).1) ?_
        refine XS.iconst X17.here hx rfl (hb hby d5_17) ?_
        show Steps p.tables e below (T17.setTop (mkF m 18 #[rv a1] [(.int (1 : Int32))])) _
        refine XS.goto X17.here hx rfl (pc0 := 18) (pc' := 22) rfl (hb hby d5_18) (by decide) (by decide) ?_
        exact k)
      obtain ⟨fs, hr, hrun, hended, hW, hsame⟩ := X17.leave (v := some (.int (1 : Int32))) (fun h => by rw [Bd.returns] at h; cases h)
      refine ⟨_, _, pre0 _ (R20 _ ?_), hrun, hended, _, _, rfl, ?_, ⟨_, rfl⟩, hW, hsame.mono (by decide) (by decide)⟩
      · show Steps p.tables e below (T17.setTop (mkF m 22 #[rv a1] [(.int (1 : Int32))])) _
        exact retN X17 hx (t := .boolean) Bd.returns (by simp) (hb hby d5_22) hr
      · show Q_rmWf Z a1 1 dr sS sI sF sB h0 n0 _ T17.heap _
        rw [e17]
        exact ⟨(by (try simp only [lw_gt, lw_lt, lw_eq, own_i_eq0, Bool.not_eq_false] at hs2); simp [own_i, own_wf, hs2]), N0, rfl⟩
  · skip
    have Fp0 : Fld Z h0 a1 sN0 "part" sN2 (.ref sF) := F_part_a1
    have R21 : ∀ t, Steps p.tables e below (s₁.setTop (mkF m 1 #[rv a1] [(.ref a1)])) t → Steps p.tables e below (s₁.setTop f0) t := fun t k => R0 t (by
      show Steps p.tables e below (s₁.setTop (mkF m 0 #[rv a1] [])) _
      refine XS.aloadN X0.here hx rfl (hb hby d5_0) rfl rfl ?_
      exact k)
    obtain ⟨T22, X22, e22, st22⟩ := getF X0 hx hZ hown (host := "") (Or.inl (hw _ (List.mem_of_getElem? (i := 29) rfl))) Via.refl e0 Fp0 (g := (mkF m 1 #[rv a1] [(.ref a1)])) rfl rfl (hb hby d5_1)
    have R23 : ∀ t, Steps p.tables e below (T22.setTop (mkF m 4 #[rv a1] [(.ref sF)])) t → Steps p.tables e below (s₁.setTop f0) t := fun t k => R21 t (st22 t k)
    obtain ⟨T24, X24, e24, st24⟩ := getS2 X22 hx hZ hown (host := "") (Or.inl (hw _ (List.mem_of_getElem? (i := 48) rfl))) Via.refl e22 S_NumberText_Part_BROKEN (g := (mkF m 4 #[rv a1] [(.ref sF)])) rfl (hb hby d5_4)
    have R25 : ∀ t, Steps p.tables e below (T24.setTop (mkF m 7 #[rv a1] [(.ref sB), (.ref sF)])) t → Steps p.tables e below (s₁.setTop f0) t := fun t k => R23 t (st24 t k)
    have R26 : ∀ t, Steps p.tables e below (T24.setTop (mkF m 11 #[rv a1] [(.ref a1)])) t → Steps p.tables e below (s₁.setTop f0) t := fun t k => R25 t (by
      show Steps p.tables e below (T24.setTop (mkF m 7 #[rv a1] [(.ref sB), (.ref sF)])) _
      refine Jvm.RoadKit.acmp (g := (mkF m 7 #[rv a1] [(.ref sB), (.ref sF)])) X24 hx rfl rfl rfl (pc0 := 7) (pc' := 10) (same := false) rfl (hb hby d5_7) rfl (decide_eq_false fun q => ne_sF_sB (Value.ref.inj q)) (by decide) (by decide) ?_
      refine XS.aloadN X24.here hx rfl (hb hby d5_10) rfl rfl ?_
      exact k)
    obtain ⟨T27, X27, e27, st27⟩ := getF X24 hx hZ hown (host := "") (Or.inl (hw _ (List.mem_of_getElem? (i := 33) rfl))) Via.refl e24 F_digitRead_a1 (g := (mkF m 11 #[rv a1] [(.ref a1)])) rfl rfl (hb hby d5_11)
    have R28 : ∀ t, Steps p.tables e below (T27.setTop (mkF m 14 #[rv a1] [(.int dr)])) t → Steps p.tables e below (s₁.setTop f0) t := fun t k => R26 t (st27 t k)
    by_cases hs3 : dr = (0 : Int32)
    · skip
      have R29 : ∀ t, Steps p.tables e below (T27.setTop (mkF m 22 #[rv a1] [(.int (0 : Int32))])) t → Steps p.tables e below (s₁.setTop f0) t := fun t k => R28 t (by
        show Steps p.tables e below (T27.setTop (mkF m 14 #[rv a1] [(.int dr)])) _
        refine XS.ifYes X27.here hx rfl (pc0 := 14) (pc' := 21) rfl (hb hby d5_14) rfl ((if0 _ _).trans (teq hs3).1) (by decide) (by decide) ?_
        refine XS.iconst X27.here hx rfl (hb hby d5_21) ?_
        exact k)
      obtain ⟨fs, hr, hrun, hended, hW, hsame⟩ := X27.leave (v := some (.int (0 : Int32))) (fun h => by rw [Bd.returns] at h; cases h)
      refine ⟨_, _, pre0 _ (R29 _ ?_), hrun, hended, _, _, rfl, ?_, ⟨_, rfl⟩, hW, hsame.mono (by decide) (by decide)⟩
      · show Steps p.tables e below (T27.setTop (mkF m 22 #[rv a1] [(.int (0 : Int32))])) _
        exact retN X27 hx (t := .boolean) Bd.returns (by simp) (hb hby d5_22) hr
      · show Q_rmWf Z a1 2 dr sS sI sF sB h0 n0 _ T27.heap _
        rw [e27]
        exact ⟨(by (try simp only [lw_gt, lw_lt, lw_eq, own_i_eq0, Bool.not_eq_false] at hs3); simp [own_i, own_wf, hs3]), N0, rfl⟩
    · skip
      have R30 : ∀ t, Steps p.tables e below (T27.setTop (mkF m 22 #[rv a1] [(.int (1 : Int32))])) t → Steps p.tables e below (s₁.setTop f0) t := fun t k => R28 t (by
        show Steps p.tables e below (T27.setTop (mkF m 14 #[rv a1] [(.int dr)])) _
        refine XS.ifNo X27.here hx rfl (hb hby d5_14) rfl ((if0 _ _).trans (feq hs3).1) ?_
        refine XS.iconst X27.here hx rfl (hb hby d5_17) ?_
        show Steps p.tables e below (T27.setTop (mkF m 18 #[rv a1] [(.int (1 : Int32))])) _
        refine XS.goto X27.here hx rfl (pc0 := 18) (pc' := 22) rfl (hb hby d5_18) (by decide) (by decide) ?_
        exact k)
      obtain ⟨fs, hr, hrun, hended, hW, hsame⟩ := X27.leave (v := some (.int (1 : Int32))) (fun h => by rw [Bd.returns] at h; cases h)
      refine ⟨_, _, pre0 _ (R30 _ ?_), hrun, hended, _, _, rfl, ?_, ⟨_, rfl⟩, hW, hsame.mono (by decide) (by decide)⟩
      · show Steps p.tables e below (T27.setTop (mkF m 22 #[rv a1] [(.int (1 : Int32))])) _
        exact retN X27 hx (t := .boolean) Bd.returns (by simp) (hb hby d5_22) hr
      · show Q_rmWf Z a1 2 dr sS sI sF sB h0 n0 _ T27.heap _
        rw [e27]
        exact ⟨(by (try simp only [lw_gt, lw_lt, lw_eq, own_i_eq0, Bool.not_eq_false] at hs3); simp [own_i, own_wf, hs3]), N0, rfl⟩
  · skip
    have Fp0 : Fld Z h0 a1 sN0 "part" sN2 (.ref sB) := F_part_a1
    have R31 : ∀ t, Steps p.tables e below (s₁.setTop (mkF m 1 #[rv a1] [(.ref a1)])) t → Steps p.tables e below (s₁.setTop f0) t := fun t k => R0 t (by
      show Steps p.tables e below (s₁.setTop (mkF m 0 #[rv a1] [])) _
      refine XS.aloadN X0.here hx rfl (hb hby d5_0) rfl rfl ?_
      exact k)
    obtain ⟨T32, X32, e32, st32⟩ := getF X0 hx hZ hown (host := "") (Or.inl (hw _ (List.mem_of_getElem? (i := 29) rfl))) Via.refl e0 Fp0 (g := (mkF m 1 #[rv a1] [(.ref a1)])) rfl rfl (hb hby d5_1)
    have R33 : ∀ t, Steps p.tables e below (T32.setTop (mkF m 4 #[rv a1] [(.ref sB)])) t → Steps p.tables e below (s₁.setTop f0) t := fun t k => R31 t (st32 t k)
    obtain ⟨T34, X34, e34, st34⟩ := getS2 X32 hx hZ hown (host := "") (Or.inl (hw _ (List.mem_of_getElem? (i := 48) rfl))) Via.refl e32 S_NumberText_Part_BROKEN (g := (mkF m 4 #[rv a1] [(.ref sB)])) rfl (hb hby d5_4)
    have R35 : ∀ t, Steps p.tables e below (T34.setTop (mkF m 7 #[rv a1] [(.ref sB), (.ref sB)])) t → Steps p.tables e below (s₁.setTop f0) t := fun t k => R33 t (st34 t k)
    have R36 : ∀ t, Steps p.tables e below (T34.setTop (mkF m 22 #[rv a1] [(.int (0 : Int32))])) t → Steps p.tables e below (s₁.setTop f0) t := fun t k => R35 t (by
      show Steps p.tables e below (T34.setTop (mkF m 7 #[rv a1] [(.ref sB), (.ref sB)])) _
      refine Jvm.RoadKit.acmp (g := (mkF m 7 #[rv a1] [(.ref sB), (.ref sB)])) X34 hx rfl rfl rfl (pc0 := 7) (pc' := 21) (same := true) rfl (hb hby d5_7) rfl (decide_eq_true rfl) (by decide) (by decide) ?_
      refine XS.iconst X34.here hx rfl (hb hby d5_21) ?_
      exact k)
    obtain ⟨fs, hr, hrun, hended, hW, hsame⟩ := X34.leave (v := some (.int (0 : Int32))) (fun h => by rw [Bd.returns] at h; cases h)
    refine ⟨_, _, pre0 _ (R36 _ ?_), hrun, hended, _, _, rfl, ?_, ⟨_, rfl⟩, hW, hsame.mono (by decide) (by decide)⟩
    · show Steps p.tables e below (T34.setTop (mkF m 22 #[rv a1] [(.int (0 : Int32))])) _
      exact retN X34 hx (t := .boolean) Bd.returns (by simp) (hb hby d5_22) hr
    · show Q_rmWf Z a1 3 dr sS sI sF sB h0 n0 _ T34.heap _
      rw [e34]
      exact ⟨(by simp [own_i, own_wf]), N0, rfl⟩
theorem ef_rmDraw (m : MethodId) (x0 : Int32) : entryFrame m #[(.int x0)] 3 = mkF m 0 #[iv x0, .unset, .unset] [] := by first | (simp [entryFrame, mkF, argsToLocals, Value.category]; done) | rfl
def Q_rmDraw (Z : State) (p1 : Int32) (h0 : Heap) (n0 : Nat) (v : Option Value) (h : Heap) (L : List Loc) : Prop := ∃ r : Int32, v = some (.int r) ∧ Fr n0 L ∧ h = h0
set_option maxRecDepth 65536 in
set_option maxHeartbeats 40000000 in
theorem rmDraw (l : Launch) (Z : State) (a0 : Array Value) (hw : ∀ d ∈ tables_1, d.before a0 Z = true) (ws : List Jvm.Cond) (p1 : Int32) (h0 : Heap) (n0 : Nat) (Z0 : n0 ≤ h0.size) :
    MetFree l (⟨sN5, "draw", "(I)C"⟩ : MethodName) (head1 (Jvm.Cond.code (⟨sN5, "draw", "(I)C"⟩ : MethodName) method_2_code 3 (some .char) :: ws) ({ frames := 0, cells := 0, slots := 0, locals := 0 } : Room)) (fun a U => a = #[(.int p1)] ∧ Z.Warmed39 U.vm ∧ U.heap = h0) (fun _ _ _ _ _ => True) (fun _ U o U' => ∃ v L, o = .returned v ∧ Q_rmDraw Z p1 h0 n0 v U'.heap L ∧ FrameEnd U o U' L ({ frames := 0, cells := 0, slots := 0, locals := 0 } : Room).cells ({ frames := 0, cells := 0, slots := 0, locals := 0 } : Room).slots) := by
  refine MetFree.of_bodySF (plainFor_of_name pn_4) hisR ?_
  intro p e s m args below meth c s₁ Bd hml0 hP hK
  obtain ⟨rfl, hZ, hh⟩ := hP
  have hx := Bd.exec
  have hby := Bd.bytes
  have hml : c.maxLocals = 3 := hml0
  have hown : s.vm.findClass sN5 = some m.cls := findClass_of_methodNamed Bd.named
  have hnm := (name_of_methodNamed Bd.named Bd.method).1
  have X0 : Stand p l e ({ frames := 0, cells := 0, slots := 0, locals := 0 } : Room) s m #[(.int p1)] below meth c s₁ [] 0 0 := Stand.of_body Bd
  have e0 : s₁.heap = h0 := by rw [← hh, Bd.state]; rfl
  have N0 := Fr.nil n0
  obtain ⟨f0, hf0⟩ : ∃ f : JFrame, f = mkF m 0 #[iv p1, .unset, .unset] [] := ⟨_, rfl⟩
  have pre0 : ∀ t, Steps p.tables e below (s₁.setTop f0) t → Steps p.tables e below (s₁.setTop (entryFrame m #[(.int p1)] 3)) t := fun t k => castTop ((ef_rmDraw m p1).trans hf0.symm) k
  have R0 : ∀ t, Steps p.tables e below (s₁.setTop (mkF m 0 #[iv p1, .unset, .unset] [])) t → Steps p.tables e below (s₁.setTop f0) t := by rw [hf0]; exact fun t k => k
  have R1 : ∀ t, Steps p.tables e below (s₁.setTop (mkF m 9 #[iv p1, iv (p1 &&& (3 : Int32)), iv ((p1.toUInt32 >>> ((2 : Int32) &&& 31).toUInt32).toInt32)] [(.int (p1 &&& (3 : Int32)))])) t → Steps p.tables e below (s₁.setTop f0) t := fun t k => R0 t (by
    show Steps p.tables e below (s₁.setTop (mkF m 0 #[iv p1, .unset, .unset] [])) _
    refine XS.iloadN X0.here hx rfl (hb hby d1_0) rfl  ?_
    refine XS.iconst X0.here hx rfl (hb hby d1_1) ?_
    show Steps p.tables e below (s₁.setTop (mkF m 2 #[iv p1, .unset, .unset] [(.int (3 : Int32)), (.int p1)])) _
    refine XS.iand X0.here hx rfl (hb hby d1_2) rfl ?_
    refine XS.istoreN X0.here hx rfl (hb hby d1_3) rfl (l' := #[iv p1, iv (p1 &&& (3 : Int32)), .unset]) rfl ?_
    show Steps p.tables e below (s₁.setTop (mkF m 4 #[iv p1, iv (p1 &&& (3 : Int32)), .unset] [])) _
    refine XS.iloadN X0.here hx rfl (hb hby d1_4) rfl  ?_
    refine XS.iconst X0.here hx rfl (hb hby d1_5) ?_
    show Steps p.tables e below (s₁.setTop (mkF m 6 #[iv p1, iv (p1 &&& (3 : Int32)), .unset] [(.int (2 : Int32)), (.int p1)])) _
    refine XS.iushr X0.here hx rfl (hb hby d1_6) rfl ?_
    refine XS.istoreN X0.here hx rfl (hb hby d1_7) rfl (l' := #[iv p1, iv (p1 &&& (3 : Int32)), iv ((p1.toUInt32 >>> ((2 : Int32) &&& 31).toUInt32).toInt32)]) rfl ?_
    show Steps p.tables e below (s₁.setTop (mkF m 8 #[iv p1, iv (p1 &&& (3 : Int32)), iv ((p1.toUInt32 >>> ((2 : Int32) &&& 31).toUInt32).toInt32)] [])) _
    refine XS.iloadN X0.here hx rfl (hb hby d1_8) rfl  ?_
    exact k)
  by_cases hs1 : (p1 &&& (3 : Int32)) = (0 : Int32)
  · skip
    have R2 : ∀ t, Steps p.tables e below (s₁.setTop (mkF m 20 #[iv p1, iv (p1 &&& (3 : Int32)), iv ((p1.toUInt32 >>> ((2 : Int32) &&& 31).toUInt32).toInt32)] [(.int (((48 : Int32) + (((p1.toUInt32 >>> ((2 : Int32) &&& 31).toUInt32).toInt32) % (10 : Int32))).toUInt32.toUInt16.toUInt32.toInt32))])) t → Steps p.tables e below (s₁.setTop f0) t := fun t k => R1 t (by
      show Steps p.tables e below (s₁.setTop (mkF m 9 #[iv p1, iv (p1 &&& (3 : Int32)), iv ((p1.toUInt32 >>> ((2 : Int32) &&& 31).toUInt32).toInt32)] [(.int (p1 &&& (3 : Int32)))])) _
      refine XS.ifNo X0.here hx rfl (hb hby d1_9) rfl ((if0 _ _).trans (teq hs1).2) ?_
      refine XS.bipush X0.here hx rfl (hb hby d1_12) ?_
      show Steps p.tables e below (s₁.setTop (mkF m 14 #[iv p1, iv (p1 &&& (3 : Int32)), iv ((p1.toUInt32 >>> ((2 : Int32) &&& 31).toUInt32).toInt32)] [(.int (48 : Int32))])) _
      refine XS.iloadN X0.here hx rfl (hb hby d1_14) rfl  ?_
      refine XS.bipush X0.here hx rfl (hb hby d1_15) ?_
      show Steps p.tables e below (s₁.setTop (mkF m 17 #[iv p1, iv (p1 &&& (3 : Int32)), iv ((p1.toUInt32 >>> ((2 : Int32) &&& 31).toUInt32).toInt32)] [(.int (10 : Int32)), (.int ((p1.toUInt32 >>> ((2 : Int32) &&& 31).toUInt32).toInt32)), (.int (48 : Int32))])) _
      refine iremM X0 hx rfl (hb hby d1_17) rfl (by decide) ?_
      refine XS.iadd X0.here hx rfl (hb hby d1_18) rfl ?_
      show Steps p.tables e below (s₁.setTop (mkF m 19 #[iv p1, iv (p1 &&& (3 : Int32)), iv ((p1.toUInt32 >>> ((2 : Int32) &&& 31).toUInt32).toInt32)] [(.int ((48 : Int32) + (((p1.toUInt32 >>> ((2 : Int32) &&& 31).toUInt32).toInt32) % (10 : Int32))))])) _
      refine XS.i2c X0.here hx rfl (hb hby d1_19) rfl ?_
      exact k)
    obtain ⟨fs, hr, hrun, hended, hW, hsame⟩ := X0.leave (v := some (.int (nar .char (((48 : Int32) + (((p1.toUInt32 >>> ((2 : Int32) &&& 31).toUInt32).toInt32) % (10 : Int32))).toUInt32.toUInt16.toUInt32.toInt32)))) (fun h => by rw [Bd.returns] at h; cases h)
    refine ⟨_, _, pre0 _ (R2 _ ?_), hrun, hended, _, _, rfl, ?_, ⟨_, rfl⟩, hW, hsame.mono (by decide) (by decide)⟩
    · show Steps p.tables e below (s₁.setTop (mkF m 20 #[iv p1, iv (p1 &&& (3 : Int32)), iv ((p1.toUInt32 >>> ((2 : Int32) &&& 31).toUInt32).toInt32)] [(.int (((48 : Int32) + (((p1.toUInt32 >>> ((2 : Int32) &&& 31).toUInt32).toInt32) % (10 : Int32))).toUInt32.toUInt16.toUInt32.toInt32))])) _
      exact retN X0 hx (t := .char) Bd.returns (by simp) (hb hby d1_20) hr
    · show Q_rmDraw Z p1 h0 n0 _ s₁.heap _
      rw [e0]
      exact ⟨(nar .char (((48 : Int32) + (((p1.toUInt32 >>> ((2 : Int32) &&& 31).toUInt32).toInt32) % (10 : Int32))).toUInt32.toUInt16.toUInt32.toInt32)), rfl, N0, rfl⟩
  · skip
    have R3 : ∀ t, Steps p.tables e below (s₁.setTop (mkF m 23 #[iv p1, iv (p1 &&& (3 : Int32)), iv ((p1.toUInt32 >>> ((2 : Int32) &&& 31).toUInt32).toInt32)] [(.int (1 : Int32)), (.int (p1 &&& (3 : Int32)))])) t → Steps p.tables e below (s₁.setTop f0) t := fun t k => R1 t (by
      show Steps p.tables e below (s₁.setTop (mkF m 9 #[iv p1, iv (p1 &&& (3 : Int32)), iv ((p1.toUInt32 >>> ((2 : Int32) &&& 31).toUInt32).toInt32)] [(.int (p1 &&& (3 : Int32)))])) _
      refine XS.ifYes X0.here hx rfl (pc0 := 9) (pc' := 21) rfl (hb hby d1_9) rfl ((if0 _ _).trans (feq hs1).2) (by decide) (by decide) ?_
      refine XS.iloadN X0.here hx rfl (hb hby d1_21) rfl  ?_
      show Steps p.tables e below (s₁.setTop (mkF m 22 #[iv p1, iv (p1 &&& (3 : Int32)), iv ((p1.toUInt32 >>> ((2 : Int32) &&& 31).toUInt32).toInt32)] [(.int (p1 &&& (3 : Int32)))])) _
      refine XS.iconst X0.here hx rfl (hb hby d1_22) ?_
      exact k)
    by_cases hs2 : (p1 &&& (3 : Int32)) = (1 : Int32)
    · skip
      have R4 : ∀ t, Steps p.tables e below (s₁.setTop (mkF m 29 #[iv p1, iv (p1 &&& (3 : Int32)), iv ((p1.toUInt32 >>> ((2 : Int32) &&& 31).toUInt32).toInt32)] [(.int (((p1.toUInt32 >>> ((2 : Int32) &&& 31).toUInt32).toInt32) &&& (1 : Int32)))])) t → Steps p.tables e below (s₁.setTop f0) t := fun t k => R3 t (by
        show Steps p.tables e below (s₁.setTop (mkF m 23 #[iv p1, iv (p1 &&& (3 : Int32)), iv ((p1.toUInt32 >>> ((2 : Int32) &&& 31).toUInt32).toInt32)] [(.int (1 : Int32)), (.int (p1 &&& (3 : Int32)))])) _
        refine XS.icmpNo X0.here hx rfl (hb hby d1_23) rfl (teq hs2).2 ?_
        refine XS.iloadN X0.here hx rfl (hb hby d1_26) rfl  ?_
        show Steps p.tables e below (s₁.setTop (mkF m 27 #[iv p1, iv (p1 &&& (3 : Int32)), iv ((p1.toUInt32 >>> ((2 : Int32) &&& 31).toUInt32).toInt32)] [(.int ((p1.toUInt32 >>> ((2 : Int32) &&& 31).toUInt32).toInt32))])) _
        refine XS.iconst X0.here hx rfl (hb hby d1_27) ?_
        refine XS.iand X0.here hx rfl (hb hby d1_28) rfl ?_
        exact k)
      by_cases hs3 : (((p1.toUInt32 >>> ((2 : Int32) &&& 31).toUInt32).toInt32) &&& (1 : Int32)) = (0 : Int32)
      · skip
        have R5 : ∀ t, Steps p.tables e below (s₁.setTop (mkF m 39 #[iv p1, iv (p1 &&& (3 : Int32)), iv ((p1.toUInt32 >>> ((2 : Int32) &&& 31).toUInt32).toInt32)] [(.int (43 : Int32))])) t → Steps p.tables e below (s₁.setTop f0) t := fun t k => R4 t (by
          show Steps p.tables e below (s₁.setTop (mkF m 29 #[iv p1, iv (p1 &&& (3 : Int32)), iv ((p1.toUInt32 >>> ((2 : Int32) &&& 31).toUInt32).toInt32)] [(.int (((p1.toUInt32 >>> ((2 : Int32) &&& 31).toUInt32).toInt32) &&& (1 : Int32)))])) _
          refine XS.ifNo X0.here hx rfl (hb hby d1_29) rfl ((if0 _ _).trans (teq hs3).2) ?_
          refine XS.bipush X0.here hx rfl (hb hby d1_32) ?_
          show Steps p.tables e below (s₁.setTop (mkF m 34 #[iv p1, iv (p1 &&& (3 : Int32)), iv ((p1.toUInt32 >>> ((2 : Int32) &&& 31).toUInt32).toInt32)] [(.int (43 : Int32))])) _
          refine XS.goto X0.here hx rfl (pc0 := 34) (pc' := 39) rfl (hb hby d1_34) (by decide) (by decide) ?_
          exact k)
        obtain ⟨fs, hr, hrun, hended, hW, hsame⟩ := X0.leave (v := some (.int (43 : Int32))) (fun h => by rw [Bd.returns] at h; cases h)
        refine ⟨_, _, pre0 _ (R5 _ ?_), hrun, hended, _, _, rfl, ?_, ⟨_, rfl⟩, hW, hsame.mono (by decide) (by decide)⟩
        · show Steps p.tables e below (s₁.setTop (mkF m 39 #[iv p1, iv (p1 &&& (3 : Int32)), iv ((p1.toUInt32 >>> ((2 : Int32) &&& 31).toUInt32).toInt32)] [(.int (43 : Int32))])) _
          exact retN X0 hx (t := .char) Bd.returns (by simp) (hb hby d1_39) hr
        · show Q_rmDraw Z p1 h0 n0 _ s₁.heap _
          rw [e0]
          exact ⟨(43 : Int32), rfl, N0, rfl⟩
      · skip
        have R6 : ∀ t, Steps p.tables e below (s₁.setTop (mkF m 39 #[iv p1, iv (p1 &&& (3 : Int32)), iv ((p1.toUInt32 >>> ((2 : Int32) &&& 31).toUInt32).toInt32)] [(.int (45 : Int32))])) t → Steps p.tables e below (s₁.setTop f0) t := fun t k => R4 t (by
          show Steps p.tables e below (s₁.setTop (mkF m 29 #[iv p1, iv (p1 &&& (3 : Int32)), iv ((p1.toUInt32 >>> ((2 : Int32) &&& 31).toUInt32).toInt32)] [(.int (((p1.toUInt32 >>> ((2 : Int32) &&& 31).toUInt32).toInt32) &&& (1 : Int32)))])) _
          refine XS.ifYes X0.here hx rfl (pc0 := 29) (pc' := 37) rfl (hb hby d1_29) rfl ((if0 _ _).trans (feq hs3).2) (by decide) (by decide) ?_
          refine XS.bipush X0.here hx rfl (hb hby d1_37) ?_
          exact k)
        obtain ⟨fs, hr, hrun, hended, hW, hsame⟩ := X0.leave (v := some (.int (45 : Int32))) (fun h => by rw [Bd.returns] at h; cases h)
        refine ⟨_, _, pre0 _ (R6 _ ?_), hrun, hended, _, _, rfl, ?_, ⟨_, rfl⟩, hW, hsame.mono (by decide) (by decide)⟩
        · show Steps p.tables e below (s₁.setTop (mkF m 39 #[iv p1, iv (p1 &&& (3 : Int32)), iv ((p1.toUInt32 >>> ((2 : Int32) &&& 31).toUInt32).toInt32)] [(.int (45 : Int32))])) _
          exact retN X0 hx (t := .char) Bd.returns (by simp) (hb hby d1_39) hr
        · show Q_rmDraw Z p1 h0 n0 _ s₁.heap _
          rw [e0]
          exact ⟨(45 : Int32), rfl, N0, rfl⟩
    · skip
      have R7 : ∀ t, Steps p.tables e below (s₁.setTop (mkF m 42 #[iv p1, iv (p1 &&& (3 : Int32)), iv ((p1.toUInt32 >>> ((2 : Int32) &&& 31).toUInt32).toInt32)] [(.int (2 : Int32)), (.int (p1 &&& (3 : Int32)))])) t → Steps p.tables e below (s₁.setTop f0) t := fun t k => R3 t (by
        show Steps p.tables e below (s₁.setTop (mkF m 23 #[iv p1, iv (p1 &&& (3 : Int32)), iv ((p1.toUInt32 >>> ((2 : Int32) &&& 31).toUInt32).toInt32)] [(.int (1 : Int32)), (.int (p1 &&& (3 : Int32)))])) _
        refine XS.icmpYes X0.here hx rfl (pc0 := 23) (pc' := 40) rfl (hb hby d1_23) rfl (feq hs2).2 (by decide) (by decide) ?_
        refine XS.iloadN X0.here hx rfl (hb hby d1_40) rfl  ?_
        show Steps p.tables e below (s₁.setTop (mkF m 41 #[iv p1, iv (p1 &&& (3 : Int32)), iv ((p1.toUInt32 >>> ((2 : Int32) &&& 31).toUInt32).toInt32)] [(.int (p1 &&& (3 : Int32)))])) _
        refine XS.iconst X0.here hx rfl (hb hby d1_41) ?_
        exact k)
      by_cases hs4 : (p1 &&& (3 : Int32)) = (2 : Int32)
      · skip
        have R8 : ∀ t, Steps p.tables e below (s₁.setTop (mkF m 47 #[iv p1, iv (p1 &&& (3 : Int32)), iv ((p1.toUInt32 >>> ((2 : Int32) &&& 31).toUInt32).toInt32)] [(.int (46 : Int32))])) t → Steps p.tables e below (s₁.setTop f0) t := fun t k => R7 t (by
          show Steps p.tables e below (s₁.setTop (mkF m 42 #[iv p1, iv (p1 &&& (3 : Int32)), iv ((p1.toUInt32 >>> ((2 : Int32) &&& 31).toUInt32).toInt32)] [(.int (2 : Int32)), (.int (p1 &&& (3 : Int32)))])) _
          refine XS.icmpNo X0.here hx rfl (hb hby d1_42) rfl (teq hs4).2 ?_
          refine XS.bipush X0.here hx rfl (hb hby d1_45) ?_
          exact k)
        obtain ⟨fs, hr, hrun, hended, hW, hsame⟩ := X0.leave (v := some (.int (46 : Int32))) (fun h => by rw [Bd.returns] at h; cases h)
        refine ⟨_, _, pre0 _ (R8 _ ?_), hrun, hended, _, _, rfl, ?_, ⟨_, rfl⟩, hW, hsame.mono (by decide) (by decide)⟩
        · show Steps p.tables e below (s₁.setTop (mkF m 47 #[iv p1, iv (p1 &&& (3 : Int32)), iv ((p1.toUInt32 >>> ((2 : Int32) &&& 31).toUInt32).toInt32)] [(.int (46 : Int32))])) _
          exact retN X0 hx (t := .char) Bd.returns (by simp) (hb hby d1_47) hr
        · show Q_rmDraw Z p1 h0 n0 _ s₁.heap _
          rw [e0]
          exact ⟨(46 : Int32), rfl, N0, rfl⟩
      · skip
        have R9 : ∀ t, Steps p.tables e below (s₁.setTop (mkF m 50 #[iv p1, iv (p1 &&& (3 : Int32)), iv ((p1.toUInt32 >>> ((2 : Int32) &&& 31).toUInt32).toInt32)] [(.int (((p1.toUInt32 >>> ((2 : Int32) &&& 31).toUInt32).toInt32).toUInt32.toUInt16.toUInt32.toInt32))])) t → Steps p.tables e below (s₁.setTop f0) t := fun t k => R7 t (by
          show Steps p.tables e below (s₁.setTop (mkF m 42 #[iv p1, iv (p1 &&& (3 : Int32)), iv ((p1.toUInt32 >>> ((2 : Int32) &&& 31).toUInt32).toInt32)] [(.int (2 : Int32)), (.int (p1 &&& (3 : Int32)))])) _
          refine XS.icmpYes X0.here hx rfl (pc0 := 42) (pc' := 48) rfl (hb hby d1_42) rfl (feq hs4).2 (by decide) (by decide) ?_
          refine XS.iloadN X0.here hx rfl (hb hby d1_48) rfl  ?_
          show Steps p.tables e below (s₁.setTop (mkF m 49 #[iv p1, iv (p1 &&& (3 : Int32)), iv ((p1.toUInt32 >>> ((2 : Int32) &&& 31).toUInt32).toInt32)] [(.int ((p1.toUInt32 >>> ((2 : Int32) &&& 31).toUInt32).toInt32))])) _
          refine XS.i2c X0.here hx rfl (hb hby d1_49) rfl ?_
          exact k)
        obtain ⟨fs, hr, hrun, hended, hW, hsame⟩ := X0.leave (v := some (.int (nar .char (((p1.toUInt32 >>> ((2 : Int32) &&& 31).toUInt32).toInt32).toUInt32.toUInt16.toUInt32.toInt32)))) (fun h => by rw [Bd.returns] at h; cases h)
        refine ⟨_, _, pre0 _ (R9 _ ?_), hrun, hended, _, _, rfl, ?_, ⟨_, rfl⟩, hW, hsame.mono (by decide) (by decide)⟩
        · show Steps p.tables e below (s₁.setTop (mkF m 50 #[iv p1, iv (p1 &&& (3 : Int32)), iv ((p1.toUInt32 >>> ((2 : Int32) &&& 31).toUInt32).toInt32)] [(.int (((p1.toUInt32 >>> ((2 : Int32) &&& 31).toUInt32).toInt32).toUInt32.toUInt16.toUInt32.toInt32))])) _
          exact retN X0 hx (t := .char) Bd.returns (by simp) (hb hby d1_50) hr
        · show Q_rmDraw Z p1 h0 n0 _ s₁.heap _
          rw [e0]
          exact ⟨(nar .char (((p1.toUInt32 >>> ((2 : Int32) &&& 31).toUInt32).toInt32).toUInt32.toUInt16.toUInt32.toInt32)), rfl, N0, rfl⟩
theorem ef_rmIsd (m : MethodId) (x0 : Int32) : entryFrame m #[(.int x0)] 1 = mkF m 0 #[iv x0] [] := by first | (simp [entryFrame, mkF, argsToLocals, Value.category]; done) | rfl
def Q_rmIsd (Z : State) (p1 : Int32) (h0 : Heap) (n0 : Nat) (v : Option Value) (h : Heap) (L : List Loc) : Prop := v = some (.int (own_i (own_D p1))) ∧ Fr n0 L ∧ h = h0
set_option maxRecDepth 65536 in
set_option maxHeartbeats 40000000 in
theorem rmIsd (l : Launch) (Z : State) (a0 : Array Value) (hw : ∀ d ∈ tables_1, d.before a0 Z = true) (ws : List Jvm.Cond) (p1 : Int32) (h0 : Heap) (n0 : Nat) (Z0 : n0 ≤ h0.size) :
    MetFree l (⟨sN5, "isDigit", "(C)Z"⟩ : MethodName) (head1 (Jvm.Cond.code (⟨sN5, "isDigit", "(C)Z"⟩ : MethodName) method_3_code 1 (some .boolean) :: ws) ({ frames := 0, cells := 0, slots := 0, locals := 0 } : Room)) (fun a U => a = #[(.int p1)] ∧ Z.Warmed39 U.vm ∧ U.heap = h0) (fun _ _ _ _ _ => True) (fun _ U o U' => ∃ v L, o = .returned v ∧ Q_rmIsd Z p1 h0 n0 v U'.heap L ∧ FrameEnd U o U' L ({ frames := 0, cells := 0, slots := 0, locals := 0 } : Room).cells ({ frames := 0, cells := 0, slots := 0, locals := 0 } : Room).slots) := by
  refine MetFree.of_bodySF (plainFor_of_name pn_4) hisR ?_
  intro p e s m args below meth c s₁ Bd hml0 hP hK
  obtain ⟨rfl, hZ, hh⟩ := hP
  have hx := Bd.exec
  have hby := Bd.bytes
  have hml : c.maxLocals = 1 := hml0
  have hown : s.vm.findClass sN5 = some m.cls := findClass_of_methodNamed Bd.named
  have hnm := (name_of_methodNamed Bd.named Bd.method).1
  have X0 : Stand p l e ({ frames := 0, cells := 0, slots := 0, locals := 0 } : Room) s m #[(.int p1)] below meth c s₁ [] 0 0 := Stand.of_body Bd
  have e0 : s₁.heap = h0 := by rw [← hh, Bd.state]; rfl
  have N0 := Fr.nil n0
  obtain ⟨f0, hf0⟩ : ∃ f : JFrame, f = mkF m 0 #[iv p1] [] := ⟨_, rfl⟩
  have pre0 : ∀ t, Steps p.tables e below (s₁.setTop f0) t → Steps p.tables e below (s₁.setTop (entryFrame m #[(.int p1)] 1)) t := fun t k => castTop ((ef_rmIsd m p1).trans hf0.symm) k
  have R0 : ∀ t, Steps p.tables e below (s₁.setTop (mkF m 0 #[iv p1] [])) t → Steps p.tables e below (s₁.setTop f0) t := by rw [hf0]; exact fun t k => k
  have R1 : ∀ t, Steps p.tables e below (s₁.setTop (mkF m 3 #[iv p1] [(.int (48 : Int32)), (.int p1)])) t → Steps p.tables e below (s₁.setTop f0) t := fun t k => R0 t (by
    show Steps p.tables e below (s₁.setTop (mkF m 0 #[iv p1] [])) _
    refine XS.iloadN X0.here hx rfl (hb hby d11_0) rfl  ?_
    refine XS.bipush X0.here hx rfl (hb hby d11_1) ?_
    exact k)
  by_cases hs1 : p1 < (48 : Int32)
  · skip
    have R2 : ∀ t, Steps p.tables e below (s₁.setTop (mkF m 17 #[iv p1] [(.int (0 : Int32))])) t → Steps p.tables e below (s₁.setTop f0) t := fun t k => R1 t (by
      show Steps p.tables e below (s₁.setTop (mkF m 3 #[iv p1] [(.int (48 : Int32)), (.int p1)])) _
      refine XS.icmpYes X0.here hx rfl (pc0 := 3) (pc' := 16) rfl (hb hby d11_3) rfl (tlt hs1).1 (by decide) (by decide) ?_
      refine XS.iconst X0.here hx rfl (hb hby d11_16) ?_
      exact k)
    obtain ⟨fs, hr, hrun, hended, hW, hsame⟩ := X0.leave (v := some (.int (0 : Int32))) (fun h => by rw [Bd.returns] at h; cases h)
    refine ⟨_, _, pre0 _ (R2 _ ?_), hrun, hended, _, _, rfl, ?_, ⟨_, rfl⟩, hW, hsame.mono (by decide) (by decide)⟩
    · show Steps p.tables e below (s₁.setTop (mkF m 17 #[iv p1] [(.int (0 : Int32))])) _
      exact retN X0 hx (t := .boolean) Bd.returns (by simp) (hb hby d11_17) hr
    · show Q_rmIsd Z p1 h0 n0 _ s₁.heap _
      rw [e0]
      exact ⟨(by (try simp only [lw_gt, lw_lt, lw_eq, own_i_eq0, Bool.not_eq_false] at hs1); simp [own_i, own_D, hs1]), N0, rfl⟩
  · skip
    have R3 : ∀ t, Steps p.tables e below (s₁.setTop (mkF m 9 #[iv p1] [(.int (57 : Int32)), (.int p1)])) t → Steps p.tables e below (s₁.setTop f0) t := fun t k => R1 t (by
      show Steps p.tables e below (s₁.setTop (mkF m 3 #[iv p1] [(.int (48 : Int32)), (.int p1)])) _
      refine XS.icmpNo X0.here hx rfl (hb hby d11_3) rfl (flt hs1).1 ?_
      refine XS.iloadN X0.here hx rfl (hb hby d11_6) rfl  ?_
      show Steps p.tables e below (s₁.setTop (mkF m 7 #[iv p1] [(.int p1)])) _
      refine XS.bipush X0.here hx rfl (hb hby d11_7) ?_
      exact k)
    by_cases hs2 : (57 : Int32) < p1
    · skip
      have R4 : ∀ t, Steps p.tables e below (s₁.setTop (mkF m 17 #[iv p1] [(.int (0 : Int32))])) t → Steps p.tables e below (s₁.setTop f0) t := fun t k => R3 t (by
        show Steps p.tables e below (s₁.setTop (mkF m 9 #[iv p1] [(.int (57 : Int32)), (.int p1)])) _
        refine XS.icmpYes X0.here hx rfl (pc0 := 9) (pc' := 16) rfl (hb hby d11_9) rfl (tlt hs2).2.2.1 (by decide) (by decide) ?_
        refine XS.iconst X0.here hx rfl (hb hby d11_16) ?_
        exact k)
      obtain ⟨fs, hr, hrun, hended, hW, hsame⟩ := X0.leave (v := some (.int (0 : Int32))) (fun h => by rw [Bd.returns] at h; cases h)
      refine ⟨_, _, pre0 _ (R4 _ ?_), hrun, hended, _, _, rfl, ?_, ⟨_, rfl⟩, hW, hsame.mono (by decide) (by decide)⟩
      · show Steps p.tables e below (s₁.setTop (mkF m 17 #[iv p1] [(.int (0 : Int32))])) _
        exact retN X0 hx (t := .boolean) Bd.returns (by simp) (hb hby d11_17) hr
      · show Q_rmIsd Z p1 h0 n0 _ s₁.heap _
        rw [e0]
        exact ⟨(by (try simp only [lw_gt, lw_lt, lw_eq, own_i_eq0, Bool.not_eq_false] at hs1); (try simp only [lw_gt, lw_lt, lw_eq, own_i_eq0, Bool.not_eq_false] at hs2); simp [own_i, own_D, hs1, hs2]), N0, rfl⟩
    · skip
      have R5 : ∀ t, Steps p.tables e below (s₁.setTop (mkF m 17 #[iv p1] [(.int (1 : Int32))])) t → Steps p.tables e below (s₁.setTop f0) t := fun t k => R3 t (by
        show Steps p.tables e below (s₁.setTop (mkF m 9 #[iv p1] [(.int (57 : Int32)), (.int p1)])) _
        refine XS.icmpNo X0.here hx rfl (hb hby d11_9) rfl (flt hs2).2.2.1 ?_
        refine XS.iconst X0.here hx rfl (hb hby d11_12) ?_
        show Steps p.tables e below (s₁.setTop (mkF m 13 #[iv p1] [(.int (1 : Int32))])) _
        refine XS.goto X0.here hx rfl (pc0 := 13) (pc' := 17) rfl (hb hby d11_13) (by decide) (by decide) ?_
        exact k)
      obtain ⟨fs, hr, hrun, hended, hW, hsame⟩ := X0.leave (v := some (.int (1 : Int32))) (fun h => by rw [Bd.returns] at h; cases h)
      refine ⟨_, _, pre0 _ (R5 _ ?_), hrun, hended, _, _, rfl, ?_, ⟨_, rfl⟩, hW, hsame.mono (by decide) (by decide)⟩
      · show Steps p.tables e below (s₁.setTop (mkF m 17 #[iv p1] [(.int (1 : Int32))])) _
        exact retN X0 hx (t := .boolean) Bd.returns (by simp) (hb hby d11_17) hr
      · show Q_rmIsd Z p1 h0 n0 _ s₁.heap _
        rw [e0]
        exact ⟨(by (try simp only [lw_gt, lw_lt, lw_eq, own_i_eq0, Bool.not_eq_false] at hs1); (try simp only [lw_gt, lw_lt, lw_eq, own_i_eq0, Bool.not_eq_false] at hs2); simp [own_i, own_D, hs1, hs2]), N0, rfl⟩
theorem ef_rmAll (m : MethodId) (x0 : Int32) (x1 : Int32) : entryFrame m #[(.int x0), (.int x1)] 2 = mkF m 0 #[iv x0, iv x1] [] := by first | (simp [entryFrame, mkF, argsToLocals, Value.category]; done) | rfl
def Q_rmAll (Z : State) (p1 : Int32) (p2 : Int32) (h0 : Heap) (n0 : Nat) (v : Option Value) (h : Heap) (L : List Loc) : Prop := v = some (.int (own_i (own_al p1 p2))) ∧ Fr n0 L ∧ h = h0
set_option maxRecDepth 65536 in
set_option maxHeartbeats 40000000 in
theorem rmAll (l : Launch) (Z : State) (a0 : Array Value) (hw : ∀ d ∈ tables_1, d.before a0 Z = true) (ws : List Jvm.Cond) (p1 : Int32) (p2 : Int32) (h0 : Heap) (n0 : Nat) (Z0 : n0 ≤ h0.size) :
    MetFree l (⟨sN5, "allowed", "(CI)Z"⟩ : MethodName) (head1 (Jvm.Cond.code (⟨sN5, "allowed", "(CI)Z"⟩ : MethodName) method_4_code 2 (some .boolean) :: ws) ({ frames := 1, cells := 0, slots := 0, locals := 12 } : Room)) (fun a U => a = #[(.int p1), (.int p2)] ∧ Z.Warmed39 U.vm ∧ U.heap = h0) (fun _ _ _ _ _ => True) (fun _ U o U' => ∃ v L, o = .returned v ∧ Q_rmAll Z p1 p2 h0 n0 v U'.heap L ∧ FrameEnd U o U' L ({ frames := 1, cells := 0, slots := 0, locals := 12 } : Room).cells ({ frames := 1, cells := 0, slots := 0, locals := 12 } : Room).slots) := by
  refine MetFree.of_bodySF (plainFor_of_name pn_4) hisR ?_
  intro p e s m args below meth c s₁ Bd hml0 hP hK
  obtain ⟨rfl, hZ, hh⟩ := hP
  have hx := Bd.exec
  have hby := Bd.bytes
  have hml : c.maxLocals = 2 := hml0
  have hown : s.vm.findClass sN5 = some m.cls := findClass_of_methodNamed Bd.named
  have hnm := (name_of_methodNamed Bd.named Bd.method).1
  have X0 : Stand p l e ({ frames := 1, cells := 0, slots := 0, locals := 12 } : Room) s m #[(.int p1), (.int p2)] below meth c s₁ [] 0 0 := Stand.of_body Bd
  have e0 : s₁.heap = h0 := by rw [← hh, Bd.state]; rfl
  have N0 := Fr.nil n0
  obtain ⟨f0, hf0⟩ : ∃ f : JFrame, f = mkF m 0 #[iv p1, iv p2] [] := ⟨_, rfl⟩
  have pre0 : ∀ t, Steps p.tables e below (s₁.setTop f0) t → Steps p.tables e below (s₁.setTop (entryFrame m #[(.int p1), (.int p2)] 2)) t := fun t k => castTop ((ef_rmAll m p1 p2).trans hf0.symm) k
  have R0 : ∀ t, Steps p.tables e below (s₁.setTop (mkF m 0 #[iv p1, iv p2] [])) t → Steps p.tables e below (s₁.setTop f0) t := by rw [hf0]; exact fun t k => k
  have R1 : ∀ t, Steps p.tables e below (s₁.setTop (mkF m 1 #[iv p1, iv p2] [(.int p1)])) t → Steps p.tables e below (s₁.setTop f0) t := fun t k => R0 t (by
    show Steps p.tables e below (s₁.setTop (mkF m 0 #[iv p1, iv p2] [])) _
    refine XS.iloadN X0.here hx rfl (hb hby d10_0) rfl  ?_
    exact k)
  obtain ⟨_, _, ⟨T2, L2, k2, n2⟩, -, X2, ⟨Lc2, hQ2, l2, y2, z2⟩, st2⟩ := Jvm.LawKit.callS X0 hx (y := (⟨sN5, "isDigit", "(C)Z"⟩ : MethodName)) hown (mvT hZ (hw _ (List.mem_of_getElem? (i := 76) rfl))) (mvT hZ (hw _ (List.mem_of_getElem? (i := 77) rfl))) (mvT hZ (hw _ (List.mem_of_getElem? (i := 3) rfl))) (mvT hZ (hw _ (List.mem_of_getElem? (i := 78) rfl))) (by decide) (backOf (W := 0) (rmIsd l Z a0 hw [] p1 h0 n0 Z0) hZ (hw _ (List.mem_of_getElem? (i := 78) rfl)) (hw _ (List.mem_of_getElem? (i := 3) rfl)) (by decide) (by decide)) (g := (mkF m 1 #[iv p1, iv p2] [(.int p1)])) rfl (by rw [hml]; rfl) (argsL := [(.int p1)]) (rest := []) (lenOf pd_5 rfl) rfl (by show 2 * 0 + _ ≤ _; exact Nat.le_of_eq rfl) (hb hby d10_1) (fun _ _ => ⟨rfl, e0, (by decide : 0 + 0 ≤ _), (by decide : 0 + 0 ≤ _)⟩)
  dsimp only [Pt.U, Pt.locs, Pt.cells, Pt.slots] at X2 l2 y2 z2 st2 hQ2
  subst l2 y2 z2
  obtain ⟨rfl, N2q, p2_0⟩ := hQ2
  have N2 := Fr.app N0 N2q
  have R3 : ∀ t, Steps p.tables e below (T2.setTop (mkF m 4 #[iv p1, iv p2] [(.int (own_i (own_D p1)))])) t → Steps p.tables e below (s₁.setTop f0) t := fun t k => R1 t (st2 t k)
  by_cases hs1 : (own_i (own_D p1)) = (0 : Int32)
  · skip
    have R4 : ∀ t, Steps p.tables e below (T2.setTop (mkF m 10 #[iv p1, iv p2] [(.int (46 : Int32)), (.int p1)])) t → Steps p.tables e below (s₁.setTop f0) t := fun t k => R3 t (by
      show Steps p.tables e below (T2.setTop (mkF m 4 #[iv p1, iv p2] [(.int (own_i (own_D p1)))])) _
      refine XS.ifNo X2.here hx rfl (hb hby d10_4) rfl ((if0 _ _).trans (teq hs1).2) ?_
      refine XS.iloadN X2.here hx rfl (hb hby d10_7) rfl  ?_
      show Steps p.tables e below (T2.setTop (mkF m 8 #[iv p1, iv p2] [(.int p1)])) _
      refine XS.bipush X2.here hx rfl (hb hby d10_8) ?_
      exact k)
    by_cases hs2 : p1 = (46 : Int32)
    · skip
      have R5 : ∀ t, Steps p.tables e below (T2.setTop (mkF m 34 #[iv p1, iv p2] [(.int (1 : Int32))])) t → Steps p.tables e below (s₁.setTop f0) t := fun t k => R4 t (by
        show Steps p.tables e below (T2.setTop (mkF m 10 #[iv p1, iv p2] [(.int (46 : Int32)), (.int p1)])) _
        refine XS.icmpYes X2.here hx rfl (pc0 := 10) (pc' := 29) rfl (hb hby d10_10) rfl (teq hs2).1 (by decide) (by decide) ?_
        refine XS.iconst X2.here hx rfl (hb hby d10_29) ?_
        show Steps p.tables e below (T2.setTop (mkF m 30 #[iv p1, iv p2] [(.int (1 : Int32))])) _
        refine XS.goto X2.here hx rfl (pc0 := 30) (pc' := 34) rfl (hb hby d10_30) (by decide) (by decide) ?_
        exact k)
      obtain ⟨fs, hr, hrun, hended, hW, hsame⟩ := X2.leave (v := some (.int (1 : Int32))) (fun h => by rw [Bd.returns] at h; cases h)
      refine ⟨_, _, pre0 _ (R5 _ ?_), hrun, hended, _, _, rfl, ?_, ⟨_, rfl⟩, hW, hsame.mono (by decide) (by decide)⟩
      · show Steps p.tables e below (T2.setTop (mkF m 34 #[iv p1, iv p2] [(.int (1 : Int32))])) _
        exact retN X2 hx (t := .boolean) Bd.returns (by simp) (hb hby d10_34) hr
      · show Q_rmAll Z p1 p2 h0 n0 _ T2.heap _
        rw [p2_0]
        exact ⟨(by (try simp only [lw_gt, lw_lt, lw_eq, own_i_eq0, Bool.not_eq_false] at hs1); (try simp only [lw_gt, lw_lt, lw_eq, own_i_eq0, Bool.not_eq_false] at hs2); simp [own_i, own_al, own_P, own_G, hs1, hs2]), N2, rfl⟩
    · skip
      have R6 : ∀ t, Steps p.tables e below (T2.setTop (mkF m 14 #[iv p1, iv p2] [(.int p2)])) t → Steps p.tables e below (s₁.setTop f0) t := fun t k => R4 t (by
        show Steps p.tables e below (T2.setTop (mkF m 10 #[iv p1, iv p2] [(.int (46 : Int32)), (.int p1)])) _
        refine XS.icmpNo X2.here hx rfl (hb hby d10_10) rfl (feq hs2).1 ?_
        refine XS.iloadN X2.here hx rfl (hb hby d10_13) rfl  ?_
        exact k)
      by_cases hs3 : p2 = (0 : Int32)
      · skip
        have R7 : ∀ t, Steps p.tables e below (T2.setTop (mkF m 20 #[iv p1, iv p2] [(.int (43 : Int32)), (.int p1)])) t → Steps p.tables e below (s₁.setTop f0) t := fun t k => R6 t (by
          show Steps p.tables e below (T2.setTop (mkF m 14 #[iv p1, iv p2] [(.int p2)])) _
          refine XS.ifNo X2.here hx rfl (hb hby d10_14) rfl ((if0 _ _).trans (teq hs3).2) ?_
          refine XS.iloadN X2.here hx rfl (hb hby d10_17) rfl  ?_
          show Steps p.tables e below (T2.setTop (mkF m 18 #[iv p1, iv p2] [(.int p1)])) _
          refine XS.bipush X2.here hx rfl (hb hby d10_18) ?_
          exact k)
        by_cases hs4 : p1 = (43 : Int32)
        · skip
          have R8 : ∀ t, Steps p.tables e below (T2.setTop (mkF m 34 #[iv p1, iv p2] [(.int (1 : Int32))])) t → Steps p.tables e below (s₁.setTop f0) t := fun t k => R7 t (by
            show Steps p.tables e below (T2.setTop (mkF m 20 #[iv p1, iv p2] [(.int (43 : Int32)), (.int p1)])) _
            refine XS.icmpYes X2.here hx rfl (pc0 := 20) (pc' := 29) rfl (hb hby d10_20) rfl (teq hs4).1 (by decide) (by decide) ?_
            refine XS.iconst X2.here hx rfl (hb hby d10_29) ?_
            show Steps p.tables e below (T2.setTop (mkF m 30 #[iv p1, iv p2] [(.int (1 : Int32))])) _
            refine XS.goto X2.here hx rfl (pc0 := 30) (pc' := 34) rfl (hb hby d10_30) (by decide) (by decide) ?_
            exact k)
          obtain ⟨fs, hr, hrun, hended, hW, hsame⟩ := X2.leave (v := some (.int (1 : Int32))) (fun h => by rw [Bd.returns] at h; cases h)
          refine ⟨_, _, pre0 _ (R8 _ ?_), hrun, hended, _, _, rfl, ?_, ⟨_, rfl⟩, hW, hsame.mono (by decide) (by decide)⟩
          · show Steps p.tables e below (T2.setTop (mkF m 34 #[iv p1, iv p2] [(.int (1 : Int32))])) _
            exact retN X2 hx (t := .boolean) Bd.returns (by simp) (hb hby d10_34) hr
          · show Q_rmAll Z p1 p2 h0 n0 _ T2.heap _
            rw [p2_0]
            exact ⟨(by (try simp only [lw_gt, lw_lt, lw_eq, own_i_eq0, Bool.not_eq_false] at hs1); (try simp only [lw_gt, lw_lt, lw_eq, own_i_eq0, Bool.not_eq_false] at hs2); (try simp only [lw_gt, lw_lt, lw_eq, own_i_eq0, Bool.not_eq_false] at hs3); (try simp only [lw_gt, lw_lt, lw_eq, own_i_eq0, Bool.not_eq_false] at hs4); simp [own_i, own_al, own_P, own_G, hs1, hs2, hs3, hs4]), N2, rfl⟩
        · skip
          have R9 : ∀ t, Steps p.tables e below (T2.setTop (mkF m 26 #[iv p1, iv p2] [(.int (45 : Int32)), (.int p1)])) t → Steps p.tables e below (s₁.setTop f0) t := fun t k => R7 t (by
            show Steps p.tables e below (T2.setTop (mkF m 20 #[iv p1, iv p2] [(.int (43 : Int32)), (.int p1)])) _
            refine XS.icmpNo X2.here hx rfl (hb hby d10_20) rfl (feq hs4).1 ?_
            refine XS.iloadN X2.here hx rfl (hb hby d10_23) rfl  ?_
            show Steps p.tables e below (T2.setTop (mkF m 24 #[iv p1, iv p2] [(.int p1)])) _
            refine XS.bipush X2.here hx rfl (hb hby d10_24) ?_
            exact k)
          by_cases hs5 : p1 = (45 : Int32)
          · skip
            have R10 : ∀ t, Steps p.tables e below (T2.setTop (mkF m 34 #[iv p1, iv p2] [(.int (1 : Int32))])) t → Steps p.tables e below (s₁.setTop f0) t := fun t k => R9 t (by
              show Steps p.tables e below (T2.setTop (mkF m 26 #[iv p1, iv p2] [(.int (45 : Int32)), (.int p1)])) _
              refine XS.icmpNo X2.here hx rfl (hb hby d10_26) rfl (teq hs5).2 ?_
              refine XS.iconst X2.here hx rfl (hb hby d10_29) ?_
              show Steps p.tables e below (T2.setTop (mkF m 30 #[iv p1, iv p2] [(.int (1 : Int32))])) _
              refine XS.goto X2.here hx rfl (pc0 := 30) (pc' := 34) rfl (hb hby d10_30) (by decide) (by decide) ?_
              exact k)
            obtain ⟨fs, hr, hrun, hended, hW, hsame⟩ := X2.leave (v := some (.int (1 : Int32))) (fun h => by rw [Bd.returns] at h; cases h)
            refine ⟨_, _, pre0 _ (R10 _ ?_), hrun, hended, _, _, rfl, ?_, ⟨_, rfl⟩, hW, hsame.mono (by decide) (by decide)⟩
            · show Steps p.tables e below (T2.setTop (mkF m 34 #[iv p1, iv p2] [(.int (1 : Int32))])) _
              exact retN X2 hx (t := .boolean) Bd.returns (by simp) (hb hby d10_34) hr
            · show Q_rmAll Z p1 p2 h0 n0 _ T2.heap _
              rw [p2_0]
              exact ⟨(by (try simp only [lw_gt, lw_lt, lw_eq, own_i_eq0, Bool.not_eq_false] at hs1); (try simp only [lw_gt, lw_lt, lw_eq, own_i_eq0, Bool.not_eq_false] at hs2); (try simp only [lw_gt, lw_lt, lw_eq, own_i_eq0, Bool.not_eq_false] at hs3); (try simp only [lw_gt, lw_lt, lw_eq, own_i_eq0, Bool.not_eq_false] at hs4); (try simp only [lw_gt, lw_lt, lw_eq, own_i_eq0, Bool.not_eq_false] at hs5); simp [own_i, own_al, own_P, own_G, hs1, hs2, hs3, hs4, hs5]), N2, rfl⟩
          · skip
            have R11 : ∀ t, Steps p.tables e below (T2.setTop (mkF m 34 #[iv p1, iv p2] [(.int (0 : Int32))])) t → Steps p.tables e below (s₁.setTop f0) t := fun t k => R9 t (by
              show Steps p.tables e below (T2.setTop (mkF m 26 #[iv p1, iv p2] [(.int (45 : Int32)), (.int p1)])) _
              refine XS.icmpYes X2.here hx rfl (pc0 := 26) (pc' := 33) rfl (hb hby d10_26) rfl (feq hs5).2 (by decide) (by decide) ?_
              refine XS.iconst X2.here hx rfl (hb hby d10_33) ?_
              exact k)
            obtain ⟨fs, hr, hrun, hended, hW, hsame⟩ := X2.leave (v := some (.int (0 : Int32))) (fun h => by rw [Bd.returns] at h; cases h)
            refine ⟨_, _, pre0 _ (R11 _ ?_), hrun, hended, _, _, rfl, ?_, ⟨_, rfl⟩, hW, hsame.mono (by decide) (by decide)⟩
            · show Steps p.tables e below (T2.setTop (mkF m 34 #[iv p1, iv p2] [(.int (0 : Int32))])) _
              exact retN X2 hx (t := .boolean) Bd.returns (by simp) (hb hby d10_34) hr
            · show Q_rmAll Z p1 p2 h0 n0 _ T2.heap _
              rw [p2_0]
              exact ⟨(by (try simp only [lw_gt, lw_lt, lw_eq, own_i_eq0, Bool.not_eq_false] at hs1); (try simp only [lw_gt, lw_lt, lw_eq, own_i_eq0, Bool.not_eq_false] at hs2); (try simp only [lw_gt, lw_lt, lw_eq, own_i_eq0, Bool.not_eq_false] at hs3); (try simp only [lw_gt, lw_lt, lw_eq, own_i_eq0, Bool.not_eq_false] at hs4); (try simp only [lw_gt, lw_lt, lw_eq, own_i_eq0, Bool.not_eq_false] at hs5); simp [own_i, own_al, own_P, own_G, hs1, hs2, hs3, hs4, hs5]), N2, rfl⟩
      · skip
        have R12 : ∀ t, Steps p.tables e below (T2.setTop (mkF m 34 #[iv p1, iv p2] [(.int (0 : Int32))])) t → Steps p.tables e below (s₁.setTop f0) t := fun t k => R6 t (by
          show Steps p.tables e below (T2.setTop (mkF m 14 #[iv p1, iv p2] [(.int p2)])) _
          refine XS.ifYes X2.here hx rfl (pc0 := 14) (pc' := 33) rfl (hb hby d10_14) rfl ((if0 _ _).trans (feq hs3).2) (by decide) (by decide) ?_
          refine XS.iconst X2.here hx rfl (hb hby d10_33) ?_
          exact k)
        obtain ⟨fs, hr, hrun, hended, hW, hsame⟩ := X2.leave (v := some (.int (0 : Int32))) (fun h => by rw [Bd.returns] at h; cases h)
        refine ⟨_, _, pre0 _ (R12 _ ?_), hrun, hended, _, _, rfl, ?_, ⟨_, rfl⟩, hW, hsame.mono (by decide) (by decide)⟩
        · show Steps p.tables e below (T2.setTop (mkF m 34 #[iv p1, iv p2] [(.int (0 : Int32))])) _
          exact retN X2 hx (t := .boolean) Bd.returns (by simp) (hb hby d10_34) hr
        · show Q_rmAll Z p1 p2 h0 n0 _ T2.heap _
          rw [p2_0]
          exact ⟨(by (try simp only [lw_gt, lw_lt, lw_eq, own_i_eq0, Bool.not_eq_false] at hs1); (try simp only [lw_gt, lw_lt, lw_eq, own_i_eq0, Bool.not_eq_false] at hs2); (try simp only [lw_gt, lw_lt, lw_eq, own_i_eq0, Bool.not_eq_false] at hs3); simp [own_i, own_al, own_P, own_G, hs1, hs2, hs3]), N2, rfl⟩
  · skip
    have R13 : ∀ t, Steps p.tables e below (T2.setTop (mkF m 34 #[iv p1, iv p2] [(.int (1 : Int32))])) t → Steps p.tables e below (s₁.setTop f0) t := fun t k => R3 t (by
      show Steps p.tables e below (T2.setTop (mkF m 4 #[iv p1, iv p2] [(.int (own_i (own_D p1)))])) _
      refine XS.ifYes X2.here hx rfl (pc0 := 4) (pc' := 29) rfl (hb hby d10_4) rfl ((if0 _ _).trans (feq hs1).2) (by decide) (by decide) ?_
      refine XS.iconst X2.here hx rfl (hb hby d10_29) ?_
      show Steps p.tables e below (T2.setTop (mkF m 30 #[iv p1, iv p2] [(.int (1 : Int32))])) _
      refine XS.goto X2.here hx rfl (pc0 := 30) (pc' := 34) rfl (hb hby d10_30) (by decide) (by decide) ?_
      exact k)
    obtain ⟨fs, hr, hrun, hended, hW, hsame⟩ := X2.leave (v := some (.int (1 : Int32))) (fun h => by rw [Bd.returns] at h; cases h)
    refine ⟨_, _, pre0 _ (R13 _ ?_), hrun, hended, _, _, rfl, ?_, ⟨_, rfl⟩, hW, hsame.mono (by decide) (by decide)⟩
    · show Steps p.tables e below (T2.setTop (mkF m 34 #[iv p1, iv p2] [(.int (1 : Int32))])) _
      exact retN X2 hx (t := .boolean) Bd.returns (by simp) (hb hby d10_34) hr
    · show Q_rmAll Z p1 p2 h0 n0 _ T2.heap _
      rw [p2_0]
      exact ⟨(by (try simp only [lw_gt, lw_lt, lw_eq, own_i_eq0, Bool.not_eq_false] at hs1); simp [own_i, own_al, own_P, own_G, hs1]), N2, rfl⟩
theorem ef_rmLaw (m : MethodId) (x0 : Int32) (x1 : Int32) (x2 : Int32) (x3 : Int32) (x4 : Int32) : entryFrame m #[(.int x0), (.int x1), (.int x2), (.int x3), (.int x4)] maxLocals = mkF m 0 #[iv x0, iv x1, iv x2, iv x3, iv x4, .unset, .unset, .unset, .unset, .unset, .unset, .unset, .unset, .unset] [] := by first | (simp [entryFrame, mkF, argsToLocals, Value.category, maxLocals]; done) | rfl
def Q_rmLaw (Z : State) (p0 : Int32) (p1 : Int32) (p2 : Int32) (p3 : Int32) (p4 : Int32) (fI : Addr) (fD : Addr) (sS : Addr) (sI : Addr) (sF : Addr) (sB : Addr) (h0 : Heap) (n0 : Nat) (v : Option Value) (h : Heap) (L : List Loc) : Prop := v = some (.int (1 : Int32)) ∧ Fr n0 L
set_option maxRecDepth 65536 in
set_option maxHeartbeats 40000000 in
theorem rmLaw (l : Launch) (Z : State) (a0 : Array Value) (hw : ∀ d ∈ tables_1, d.before a0 Z = true) (ws : List Jvm.Cond) (p0 : Int32) (p1 : Int32) (p2 : Int32) (p3 : Int32) (p4 : Int32) (fI : Addr) (fD : Addr) (sS : Addr) (sI : Addr) (sF : Addr) (sB : Addr) (h0 : Heap) (n0 : Nat) (Z0 : n0 ≤ h0.size) (S_SimpleType_Form_INTEGER : Sta Z h0 sN4 "INTEGER" sN3 (.ref fI)) (S_SimpleType_Form_DECIMAL : Sta Z h0 sN4 "DECIMAL" sN3 (.ref fD)) (ne_fD_fI : fD ≠ fI) (S_NumberText_Part_SIGN : Sta Z h0 sN1 "SIGN" sN2 (.ref sS)) (S_NumberText_Part_INTEGER : Sta Z h0 sN1 "INTEGER" sN2 (.ref sI)) (S_NumberText_Part_FRACTION : Sta Z h0 sN1 "FRACTION" sN2 (.ref sF)) (S_NumberText_Part_BROKEN : Sta Z h0 sN1 "BROKEN" sN2 (.ref sB)) (ne_sS_sI : sS ≠ sI) (ne_sS_sF : sS ≠ sF) (ne_sS_sB : sS ≠ sB) (ne_sI_sF : sI ≠ sF) (ne_sI_sB : sI ≠ sB) (ne_sF_sB : sF ≠ sB) :
    MetFree l x (head1 (Jvm.Cond.code x code maxLocals ret :: ws) room_1) (fun a U => a = #[(.int p0), (.int p1), (.int p2), (.int p3), (.int p4)] ∧ Z.Warmed39 U.vm ∧ U.heap = h0) (fun _ _ _ _ _ => True) (fun _ U o U' => ∃ v L, o = .returned v ∧ Q_rmLaw Z p0 p1 p2 p3 p4 fI fD sS sI sF sB h0 n0 v U'.heap L ∧ FrameEnd U o U' L room_1.cells room_1.slots) := by
  refine MetFree.of_bodySF (plainFor_of_name pn_4) hisR ?_
  intro p e s m args below meth c s₁ Bd hml0 hP hK
  obtain ⟨rfl, hZ, hh⟩ := hP
  have hx := Bd.exec
  have hby := Bd.bytes
  have hml : c.maxLocals = 14 := hml0
  have hown : s.vm.findClass sN5 = some m.cls := findClass_of_methodNamed Bd.named
  have hnm := (name_of_methodNamed Bd.named Bd.method).1
  have X0 : Stand p l e room_1 s m #[(.int p0), (.int p1), (.int p2), (.int p3), (.int p4)] below meth c s₁ [] 0 0 := Stand.of_body Bd
  have e0 : s₁.heap = h0 := by rw [← hh, Bd.state]; rfl
  have N0 := Fr.nil n0
  obtain ⟨f0, hf0⟩ : ∃ f : JFrame, f = mkF m 0 #[iv p0, iv p1, iv p2, iv p3, iv p4, .unset, .unset, .unset, .unset, .unset, .unset, .unset, .unset, .unset] [] := ⟨_, rfl⟩
  have pre0 : ∀ t, Steps p.tables e below (s₁.setTop f0) t → Steps p.tables e below (s₁.setTop (entryFrame m #[(.int p0), (.int p1), (.int p2), (.int p3), (.int p4)] maxLocals)) t := fun t k => castTop ((ef_rmLaw m p0 p1 p2 p3 p4).trans hf0.symm) k
  have R0 : ∀ t, Steps p.tables e below (s₁.setTop (mkF m 0 #[iv p0, iv p1, iv p2, iv p3, iv p4, .unset, .unset, .unset, .unset, .unset, .unset, .unset, .unset, .unset] [])) t → Steps p.tables e below (s₁.setTop f0) t := by rw [hf0]; exact fun t k => k
  have R1 : ∀ t, Steps p.tables e below (s₁.setTop (mkF m 3 #[iv p0, iv p1, iv p2, iv p3, iv p4, .unset, .unset, .unset, .unset, .unset, .unset, .unset, .unset, .unset] [(.int (p0 &&& (1 : Int32)))])) t → Steps p.tables e below (s₁.setTop f0) t := fun t k => R0 t (by
    show Steps p.tables e below (s₁.setTop (mkF m 0 #[iv p0, iv p1, iv p2, iv p3, iv p4, .unset, .unset, .unset, .unset, .unset, .unset, .unset, .unset, .unset] [])) _
    refine XS.iloadN X0.here hx rfl (hb hby at_0) rfl  ?_
    refine XS.iconst X0.here hx rfl (hb hby at_1) ?_
    show Steps p.tables e below (s₁.setTop (mkF m 2 #[iv p0, iv p1, iv p2, iv p3, iv p4, .unset, .unset, .unset, .unset, .unset, .unset, .unset, .unset, .unset] [(.int (1 : Int32)), (.int p0)])) _
    refine XS.iand X0.here hx rfl (hb hby at_2) rfl ?_
    exact k)
  have R2 : ∀ t, Steps p.tables e below (s₁.setTop (mkF m 11 #[iv p0, iv p1, iv p2, iv p3, iv p4, .unset, .unset, .unset, .unset, .unset, .unset, .unset, .unset, .unset] [(.int (own_i (! decide ((p0 &&& (1 : Int32)) = 0))))])) t → Steps p.tables e below (s₁.setTop f0) t := by
    intro t k
    refine R1 t ?_
    by_cases hm1 : (p0 &&& (1 : Int32)) = (0 : Int32)
    · skip
      show Steps p.tables e below (s₁.setTop (mkF m 3 #[iv p0, iv p1, iv p2, iv p3, iv p4, .unset, .unset, .unset, .unset, .unset, .unset, .unset, .unset, .unset] [(.int (p0 &&& (1 : Int32)))])) _
      refine XS.ifYes X0.here hx rfl (pc0 := 3) (pc' := 10) rfl (hb hby at_3) rfl ((if0 _ _).trans (teq hm1).1) (by decide) (by decide) ?_
      refine XS.iconst X0.here hx rfl (hb hby at_10) ?_
      have hv : (own_i (! decide ((p0 &&& (1 : Int32)) = 0))) = (0 : Int32) := by (try simp only [lw_gt, lw_lt, lw_eq, own_i_eq0, Bool.not_eq_false] at hm1); simp [own_i, hm1]
      rw [hv] at k
      exact k
    · skip
      show Steps p.tables e below (s₁.setTop (mkF m 3 #[iv p0, iv p1, iv p2, iv p3, iv p4, .unset, .unset, .unset, .unset, .unset, .unset, .unset, .unset, .unset] [(.int (p0 &&& (1 : Int32)))])) _
      refine XS.ifNo X0.here hx rfl (hb hby at_3) rfl ((if0 _ _).trans (feq hm1).1) ?_
      refine XS.iconst X0.here hx rfl (hb hby at_6) ?_
      show Steps p.tables e below (s₁.setTop (mkF m 7 #[iv p0, iv p1, iv p2, iv p3, iv p4, .unset, .unset, .unset, .unset, .unset, .unset, .unset, .unset, .unset] [(.int (1 : Int32))])) _
      refine XS.goto X0.here hx rfl (pc0 := 7) (pc' := 11) rfl (hb hby at_7) (by decide) (by decide) ?_
      have hv : (own_i (! decide ((p0 &&& (1 : Int32)) = 0))) = (1 : Int32) := by (try simp only [lw_gt, lw_lt, lw_eq, own_i_eq0, Bool.not_eq_false] at hm1); simp [own_i, hm1]
      rw [hv] at k
      exact k
  obtain ⟨ii, e_ii⟩ : ∃ z : Int32, z = (own_i (! decide ((p0 &&& (1 : Int32)) = 0))) := ⟨_, rfl⟩
  have R3 : ∀ t, Steps p.tables e below (s₁.setTop (mkF m 11 #[iv p0, iv p1, iv p2, iv p3, iv p4, .unset, .unset, .unset, .unset, .unset, .unset, .unset, .unset, .unset] [(.int ii)])) t → Steps p.tables e below (s₁.setTop f0) t := by have q := R2; rw [← e_ii] at q; exact q
  have R4 : ∀ t, Steps p.tables e below (s₁.setTop (mkF m 18 #[iv p0, iv p1, iv p2, iv p3, iv p4, iv ii, .unset, .unset, .unset, .unset, .unset, .unset, .unset, .unset] [(.int (((p0.toUInt32 >>> ((1 : Int32) &&& 31).toUInt32).toInt32) % (5 : Int32)))])) t → Steps p.tables e below (s₁.setTop f0) t := fun t k => R3 t (by
    show Steps p.tables e below (s₁.setTop (mkF m 11 #[iv p0, iv p1, iv p2, iv p3, iv p4, .unset, .unset, .unset, .unset, .unset, .unset, .unset, .unset, .unset] [(.int ii)])) _
    refine XS.istore X0.here hx rfl (hb hby at_11) rfl (l' := #[iv p0, iv p1, iv p2, iv p3, iv p4, iv ii, .unset, .unset, .unset, .unset, .unset, .unset, .unset, .unset]) rfl ?_
    refine XS.iloadN X0.here hx rfl (hb hby at_13) rfl  ?_
    show Steps p.tables e below (s₁.setTop (mkF m 14 #[iv p0, iv p1, iv p2, iv p3, iv p4, iv ii, .unset, .unset, .unset, .unset, .unset, .unset, .unset, .unset] [(.int p0)])) _
    refine XS.iconst X0.here hx rfl (hb hby at_14) ?_
    refine XS.iushr X0.here hx rfl (hb hby at_15) rfl ?_
    show Steps p.tables e below (s₁.setTop (mkF m 16 #[iv p0, iv p1, iv p2, iv p3, iv p4, iv ii, .unset, .unset, .unset, .unset, .unset, .unset, .unset, .unset] [(.int ((p0.toUInt32 >>> ((1 : Int32) &&& 31).toUInt32).toInt32))])) _
    refine XS.iconst X0.here hx rfl (hb hby at_16) ?_
    refine iremM X0 hx rfl (hb hby at_17) rfl (by decide) ?_
    exact k)
  obtain ⟨nn, e_nn⟩ : ∃ z : Int32, z = (((p0.toUInt32 >>> ((1 : Int32) &&& 31).toUInt32).toInt32) % (5 : Int32)) := ⟨_, rfl⟩
  have R5 : ∀ t, Steps p.tables e below (s₁.setTop (mkF m 18 #[iv p0, iv p1, iv p2, iv p3, iv p4, iv ii, .unset, .unset, .unset, .unset, .unset, .unset, .unset, .unset] [(.int nn)])) t → Steps p.tables e below (s₁.setTop f0) t := by have q := R4; rw [← e_nn] at q; exact q
  have R6 : ∀ t, Steps p.tables e below (s₁.setTop (mkF m 21 #[iv p0, iv p1, iv p2, iv p3, iv p4, iv ii, iv nn, .unset, .unset, .unset, .unset, .unset, .unset, .unset] [(.int (4 : Int32))])) t → Steps p.tables e below (s₁.setTop f0) t := fun t k => R5 t (by
    show Steps p.tables e below (s₁.setTop (mkF m 18 #[iv p0, iv p1, iv p2, iv p3, iv p4, iv ii, .unset, .unset, .unset, .unset, .unset, .unset, .unset, .unset] [(.int nn)])) _
    refine XS.istore X0.here hx rfl (hb hby at_18) rfl (l' := #[iv p0, iv p1, iv p2, iv p3, iv p4, iv ii, iv nn, .unset, .unset, .unset, .unset, .unset, .unset, .unset]) rfl ?_
    refine XS.iconst X0.here hx rfl (hb hby at_20) ?_
    exact k)
  obtain ⟨T7, h7, k7, X7, e7, E7, A7, st7⟩ := newP X0 hx hZ (hw _ (List.mem_of_getElem? (i := 0) rfl)) e0 (g := (mkF m 21 #[iv p0, iv p1, iv p2, iv p3, iv p4, iv ii, iv nn, .unset, .unset, .unset, .unset, .unset, .unset, .unset] [(.int (4 : Int32))])) rfl (hb hby at_21) rfl (by decide) (cap := 4) (by decide) (by decide) (by decide) (by decide)
  obtain ⟨b7, g7⟩ : ∃ z, z = h0.size := ⟨_, rfl⟩
  rw [← g7] at A7 st7
  have g_b7 : n0 ≤ b7 := Nat.le_trans Z0 (Nat.le_of_eq g7.symm)
  have sz_b7 : h0.size ≤ b7 := Nat.le_trans (Keep.refl h0 []).1 (Nat.le_of_eq g7.symm)
  have f7_S_SimpleType_Form_INTEGER : Sta Z h7 sN4 "INTEGER" sN3 (.ref fI) := S_SimpleType_Form_INTEGER.ext E7
  have f7_S_SimpleType_Form_DECIMAL : Sta Z h7 sN4 "DECIMAL" sN3 (.ref fD) := S_SimpleType_Form_DECIMAL.ext E7
  have f7_S_NumberText_Part_SIGN : Sta Z h7 sN1 "SIGN" sN2 (.ref sS) := S_NumberText_Part_SIGN.ext E7
  have f7_S_NumberText_Part_INTEGER : Sta Z h7 sN1 "INTEGER" sN2 (.ref sI) := S_NumberText_Part_INTEGER.ext E7
  have f7_S_NumberText_Part_FRACTION : Sta Z h7 sN1 "FRACTION" sN2 (.ref sF) := S_NumberText_Part_FRACTION.ext E7
  have f7_S_NumberText_Part_BROKEN : Sta Z h7 sN1 "BROKEN" sN2 (.ref sB) := S_NumberText_Part_BROKEN.ext E7
  have z7 : n0 ≤ h7.size := Nat.le_trans Z0 E7.1
  have K7 : Keep h0 h7 [] := (Keep.refl h0 []).ext E7
  have v7 : Arv Z h7 b7 k7 .char (4 : Int32) [(.int (0 : Int32)), (.int (0 : Int32)), (.int (0 : Int32)), (.int (0 : Int32))] (.int (0 : Int32)) := (Arv.new A7 (by decide)).pad (pad_rep [] (.int (0 : Int32)) 4)
  have R8 : ∀ t, Steps p.tables e below (T7.setTop (mkF m 23 #[iv p0, iv p1, iv p2, iv p3, iv p4, iv ii, iv nn, .unset, .unset, .unset, .unset, .unset, .unset, .unset] [(.ref b7)])) t → Steps p.tables e below (s₁.setTop f0) t := fun t k => R6 t (st7 t k)
  have R9 : ∀ t, Steps p.tables e below (T7.setTop (mkF m 26 #[iv p0, iv p1, iv p2, iv p3, iv p4, iv ii, iv nn, .unset, .unset, .unset, .unset, .unset, .unset, .unset] [(.int p1), (.int (0 : Int32)), (.ref b7), (.ref b7)])) t → Steps p.tables e below (s₁.setTop f0) t := fun t k => R8 t (by
    show Steps p.tables e below (T7.setTop (mkF m 23 #[iv p0, iv p1, iv p2, iv p3, iv p4, iv ii, iv nn, .unset, .unset, .unset, .unset, .unset, .unset, .unset] [(.ref b7)])) _
    refine XS.dup X7.here hx rfl (hb hby at_23) rfl rfl ?_
    refine XS.iconst X7.here hx rfl (hb hby at_24) ?_
    show Steps p.tables e below (T7.setTop (mkF m 25 #[iv p0, iv p1, iv p2, iv p3, iv p4, iv ii, iv nn, .unset, .unset, .unset, .unset, .unset, .unset, .unset] [(.int (0 : Int32)), (.ref b7), (.ref b7)])) _
    refine XS.iloadN X7.here hx rfl (hb hby at_25) rfl  ?_
    exact k)
  obtain ⟨_, _, ⟨T10, L10, k10, n10⟩, -, X10, ⟨Lc10, hQ10, l10, y10, z10⟩, st10⟩ := Jvm.LawKit.callS X7 hx (y := (⟨sN5, "draw", "(I)C"⟩ : MethodName)) hown (mvT hZ (hw _ (List.mem_of_getElem? (i := 1) rfl))) (mvT hZ (hw _ (List.mem_of_getElem? (i := 2) rfl))) (mvT hZ (hw _ (List.mem_of_getElem? (i := 3) rfl))) (mvT hZ (hw _ (List.mem_of_getElem? (i := 4) rfl))) (by decide) (backOf (W := 3) (rmDraw l Z a0 hw [] p1 h7 n0 z7) hZ (hw _ (List.mem_of_getElem? (i := 4) rfl)) (hw _ (List.mem_of_getElem? (i := 3) rfl)) (by decide) (by decide)) (g := (mkF m 26 #[iv p0, iv p1, iv p2, iv p3, iv p4, iv ii, iv nn, .unset, .unset, .unset, .unset, .unset, .unset, .unset] [(.int p1), (.int (0 : Int32)), (.ref b7), (.ref b7)])) rfl (by rw [hml]; rfl) (argsL := [(.int p1)]) (rest := [(.int (0 : Int32)), (.ref b7), (.ref b7)]) (lenOf pd_6 rfl) rfl (by show 2 * 0 + _ ≤ _; exact Nat.le_of_eq rfl) (hb hby at_26) (fun _ _ => ⟨rfl, e7, (by decide : 1 + 0 ≤ _), (by decide : 4 + 0 ≤ _)⟩)
  dsimp only [Pt.U, Pt.locs, Pt.cells, Pt.slots] at X10 l10 y10 z10 st10 hQ10
  subst l10 y10 z10
  obtain ⟨r_10, rfl, N10q, p10_0⟩ := hQ10
  have N10 := Fr.app N0 N10q
  have R11 : ∀ t, Steps p.tables e below (T10.setTop (mkF m 29 #[iv p0, iv p1, iv p2, iv p3, iv p4, iv ii, iv nn, .unset, .unset, .unset, .unset, .unset, .unset, .unset] [(.int r_10), (.int (0 : Int32)), (.ref b7), (.ref b7)])) t → Steps p.tables e below (s₁.setTop f0) t := fun t k => R9 t (st10 t k)
  obtain ⟨cl12, Ar12, q12, S12, n12_, H12, G12⟩ := id v7
  have hin12 : ¬ ((0 : Int32) < 0 ∨ cl12.slots.size ≤ ((0 : Int32)).toNatClampNeg) := inb_of S12 ⟨by decide, by decide⟩
  obtain ⟨T12, h12, X12, e12, W12, st12⟩ := stC X10 hx hZ p10_0 Ar12 (j := (0 : Int32)) hin12 (g := (mkF m 29 #[iv p0, iv p1, iv p2, iv p3, iv p4, iv ii, iv nn, .unset, .unset, .unset, .unset, .unset, .unset, .unset] [(.int r_10), (.int (0 : Int32)), (.ref b7), (.ref b7)])) rfl rfl (hb hby at_29)
  have f12_S_SimpleType_Form_INTEGER : Sta Z h12 sN4 "INTEGER" sN3 (.ref fI) := f7_S_SimpleType_Form_INTEGER.wr W12
  have f12_S_SimpleType_Form_DECIMAL : Sta Z h12 sN4 "DECIMAL" sN3 (.ref fD) := f7_S_SimpleType_Form_DECIMAL.wr W12
  have f12_S_NumberText_Part_SIGN : Sta Z h12 sN1 "SIGN" sN2 (.ref sS) := f7_S_NumberText_Part_SIGN.wr W12
  have f12_S_NumberText_Part_INTEGER : Sta Z h12 sN1 "INTEGER" sN2 (.ref sI) := f7_S_NumberText_Part_INTEGER.wr W12
  have f12_S_NumberText_Part_FRACTION : Sta Z h12 sN1 "FRACTION" sN2 (.ref sF) := f7_S_NumberText_Part_FRACTION.wr W12
  have f12_S_NumberText_Part_BROKEN : Sta Z h12 sN1 "BROKEN" sN2 (.ref sB) := f7_S_NumberText_Part_BROKEN.wr W12
  have z12 : n0 ≤ h12.size := by rw [W12.size]; exact z7
  have K12 : Keep h0 h12 [] := K7.wr W12 (Or.inr sz_b7)
  have v12 : Arv Z h12 b7 k7 .char (4 : Int32) [(.int (nar .char r_10)), (.int (0 : Int32)), (.int (0 : Int32)), (.int (0 : Int32))] (.int (0 : Int32)) := Arv.set Ar12 q12 S12 n12_ H12 G12 (fits_nar_char _) W12 0 rfl (Nat.le_of_ble_eq_true rfl)
  have N12 := Fr.snoc X12 N10 g_b7
  have R13 : ∀ t, Steps p.tables e below (T12.setTop (mkF m 30 #[iv p0, iv p1, iv p2, iv p3, iv p4, iv ii, iv nn, .unset, .unset, .unset, .unset, .unset, .unset, .unset] [(.ref b7)])) t → Steps p.tables e below (s₁.setTop f0) t := fun t k => R11 t (st12 t k)
  have R14 : ∀ t, Steps p.tables e below (T12.setTop (mkF m 33 #[iv p0, iv p1, iv p2, iv p3, iv p4, iv ii, iv nn, .unset, .unset, .unset, .unset, .unset, .unset, .unset] [(.int p2), (.int (1 : Int32)), (.ref b7), (.ref b7)])) t → Steps p.tables e below (s₁.setTop f0) t := fun t k => R13 t (by
    show Steps p.tables e below (T12.setTop (mkF m 30 #[iv p0, iv p1, iv p2, iv p3, iv p4, iv ii, iv nn, .unset, .unset, .unset, .unset, .unset, .unset, .unset] [(.ref b7)])) _
    refine XS.dup X12.here hx rfl (hb hby at_30) rfl rfl ?_
    refine XS.iconst X12.here hx rfl (hb hby at_31) ?_
    show Steps p.tables e below (T12.setTop (mkF m 32 #[iv p0, iv p1, iv p2, iv p3, iv p4, iv ii, iv nn, .unset, .unset, .unset, .unset, .unset, .unset, .unset] [(.int (1 : Int32)), (.ref b7), (.ref b7)])) _
    refine XS.iloadN X12.here hx rfl (hb hby at_32) rfl  ?_
    exact k)
  obtain ⟨_, _, ⟨T15, L15, k15, n15⟩, -, X15, ⟨Lc15, hQ15, l15, y15, z15⟩, st15⟩ := Jvm.LawKit.callS X12 hx (y := (⟨sN5, "draw", "(I)C"⟩ : MethodName)) hown (mvT hZ (hw _ (List.mem_of_getElem? (i := 1) rfl))) (mvT hZ (hw _ (List.mem_of_getElem? (i := 2) rfl))) (mvT hZ (hw _ (List.mem_of_getElem? (i := 3) rfl))) (mvT hZ (hw _ (List.mem_of_getElem? (i := 4) rfl))) (by decide) (backOf (W := 3) (rmDraw l Z a0 hw [] p2 h12 n0 z12) hZ (hw _ (List.mem_of_getElem? (i := 4) rfl)) (hw _ (List.mem_of_getElem? (i := 3) rfl)) (by decide) (by decide)) (g := (mkF m 33 #[iv p0, iv p1, iv p2, iv p3, iv p4, iv ii, iv nn, .unset, .unset, .unset, .unset, .unset, .unset, .unset] [(.int p2), (.int (1 : Int32)), (.ref b7), (.ref b7)])) rfl (by rw [hml]; rfl) (argsL := [(.int p2)]) (rest := [(.int (1 : Int32)), (.ref b7), (.ref b7)]) (lenOf pd_6 rfl) rfl (by show 2 * 0 + _ ≤ _; exact Nat.le_of_eq rfl) (hb hby at_33) (fun _ _ => ⟨rfl, e12, (by decide : 1 + 0 ≤ _), (by decide : 4 + 0 ≤ _)⟩)
  dsimp only [Pt.U, Pt.locs, Pt.cells, Pt.slots] at X15 l15 y15 z15 st15 hQ15
  subst l15 y15 z15
  obtain ⟨r_15, rfl, N15q, p15_0⟩ := hQ15
  have N15 := Fr.app N12 N15q
  have R16 : ∀ t, Steps p.tables e below (T15.setTop (mkF m 36 #[iv p0, iv p1, iv p2, iv p3, iv p4, iv ii, iv nn, .unset, .unset, .unset, .unset, .unset, .unset, .unset] [(.int r_15), (.int (1 : Int32)), (.ref b7), (.ref b7)])) t → Steps p.tables e below (s₁.setTop f0) t := fun t k => R14 t (st15 t k)
  obtain ⟨cl17, Ar17, q17, S17, n17_, H17, G17⟩ := id v12
  have hin17 : ¬ ((1 : Int32) < 0 ∨ cl17.slots.size ≤ ((1 : Int32)).toNatClampNeg) := inb_of S17 ⟨by decide, by decide⟩
  obtain ⟨T17, h17, X17, e17, W17, st17⟩ := stC X15 hx hZ p15_0 Ar17 (j := (1 : Int32)) hin17 (g := (mkF m 36 #[iv p0, iv p1, iv p2, iv p3, iv p4, iv ii, iv nn, .unset, .unset, .unset, .unset, .unset, .unset, .unset] [(.int r_15), (.int (1 : Int32)), (.ref b7), (.ref b7)])) rfl rfl (hb hby at_36)
  have f17_S_SimpleType_Form_INTEGER : Sta Z h17 sN4 "INTEGER" sN3 (.ref fI) := f12_S_SimpleType_Form_INTEGER.wr W17
  have f17_S_SimpleType_Form_DECIMAL : Sta Z h17 sN4 "DECIMAL" sN3 (.ref fD) := f12_S_SimpleType_Form_DECIMAL.wr W17
  have f17_S_NumberText_Part_SIGN : Sta Z h17 sN1 "SIGN" sN2 (.ref sS) := f12_S_NumberText_Part_SIGN.wr W17
  have f17_S_NumberText_Part_INTEGER : Sta Z h17 sN1 "INTEGER" sN2 (.ref sI) := f12_S_NumberText_Part_INTEGER.wr W17
  have f17_S_NumberText_Part_FRACTION : Sta Z h17 sN1 "FRACTION" sN2 (.ref sF) := f12_S_NumberText_Part_FRACTION.wr W17
  have f17_S_NumberText_Part_BROKEN : Sta Z h17 sN1 "BROKEN" sN2 (.ref sB) := f12_S_NumberText_Part_BROKEN.wr W17
  have z17 : n0 ≤ h17.size := by rw [W17.size]; exact z12
  have K17 : Keep h0 h17 [] := K12.wr W17 (Or.inr sz_b7)
  have v17 : Arv Z h17 b7 k7 .char (4 : Int32) [(.int (nar .char r_10)), (.int (nar .char r_15)), (.int (0 : Int32)), (.int (0 : Int32))] (.int (0 : Int32)) := Arv.set Ar17 q17 S17 n17_ H17 G17 (fits_nar_char _) W17 1 rfl (Nat.le_of_ble_eq_true rfl)
  have N17 := Fr.snoc X17 N15 g_b7
  have R18 : ∀ t, Steps p.tables e below (T17.setTop (mkF m 37 #[iv p0, iv p1, iv p2, iv p3, iv p4, iv ii, iv nn, .unset, .unset, .unset, .unset, .unset, .unset, .unset] [(.ref b7)])) t → Steps p.tables e below (s₁.setTop f0) t := fun t k => R16 t (st17 t k)
  have R19 : ∀ t, Steps p.tables e below (T17.setTop (mkF m 40 #[iv p0, iv p1, iv p2, iv p3, iv p4, iv ii, iv nn, .unset, .unset, .unset, .unset, .unset, .unset, .unset] [(.int p3), (.int (2 : Int32)), (.ref b7), (.ref b7)])) t → Steps p.tables e below (s₁.setTop f0) t := fun t k => R18 t (by
    show Steps p.tables e below (T17.setTop (mkF m 37 #[iv p0, iv p1, iv p2, iv p3, iv p4, iv ii, iv nn, .unset, .unset, .unset, .unset, .unset, .unset, .unset] [(.ref b7)])) _
    refine XS.dup X17.here hx rfl (hb hby at_37) rfl rfl ?_
    refine XS.iconst X17.here hx rfl (hb hby at_38) ?_
    show Steps p.tables e below (T17.setTop (mkF m 39 #[iv p0, iv p1, iv p2, iv p3, iv p4, iv ii, iv nn, .unset, .unset, .unset, .unset, .unset, .unset, .unset] [(.int (2 : Int32)), (.ref b7), (.ref b7)])) _
    refine XS.iloadN X17.here hx rfl (hb hby at_39) rfl  ?_
    exact k)
  obtain ⟨_, _, ⟨T20, L20, k20, n20⟩, -, X20, ⟨Lc20, hQ20, l20, y20, z20⟩, st20⟩ := Jvm.LawKit.callS X17 hx (y := (⟨sN5, "draw", "(I)C"⟩ : MethodName)) hown (mvT hZ (hw _ (List.mem_of_getElem? (i := 1) rfl))) (mvT hZ (hw _ (List.mem_of_getElem? (i := 2) rfl))) (mvT hZ (hw _ (List.mem_of_getElem? (i := 3) rfl))) (mvT hZ (hw _ (List.mem_of_getElem? (i := 4) rfl))) (by decide) (backOf (W := 3) (rmDraw l Z a0 hw [] p3 h17 n0 z17) hZ (hw _ (List.mem_of_getElem? (i := 4) rfl)) (hw _ (List.mem_of_getElem? (i := 3) rfl)) (by decide) (by decide)) (g := (mkF m 40 #[iv p0, iv p1, iv p2, iv p3, iv p4, iv ii, iv nn, .unset, .unset, .unset, .unset, .unset, .unset, .unset] [(.int p3), (.int (2 : Int32)), (.ref b7), (.ref b7)])) rfl (by rw [hml]; rfl) (argsL := [(.int p3)]) (rest := [(.int (2 : Int32)), (.ref b7), (.ref b7)]) (lenOf pd_6 rfl) rfl (by show 2 * 0 + _ ≤ _; exact Nat.le_of_eq rfl) (hb hby at_40) (fun _ _ => ⟨rfl, e17, (by decide : 1 + 0 ≤ _), (by decide : 4 + 0 ≤ _)⟩)
  dsimp only [Pt.U, Pt.locs, Pt.cells, Pt.slots] at X20 l20 y20 z20 st20 hQ20
  subst l20 y20 z20
  obtain ⟨r_20, rfl, N20q, p20_0⟩ := hQ20
  have N20 := Fr.app N17 N20q
  have R21 : ∀ t, Steps p.tables e below (T20.setTop (mkF m 43 #[iv p0, iv p1, iv p2, iv p3, iv p4, iv ii, iv nn, .unset, .unset, .unset, .unset, .unset, .unset, .unset] [(.int r_20), (.int (2 : Int32)), (.ref b7), (.ref b7)])) t → Steps p.tables e below (s₁.setTop f0) t := fun t k => R19 t (st20 t k)
  obtain ⟨cl22, Ar22, q22, S22, n22_, H22, G22⟩ := id v17
  have hin22 : ¬ ((2 : Int32) < 0 ∨ cl22.slots.size ≤ ((2 : Int32)).toNatClampNeg) := inb_of S22 ⟨by decide, by decide⟩
  obtain ⟨T22, h22, X22, e22, W22, st22⟩ := stC X20 hx hZ p20_0 Ar22 (j := (2 : Int32)) hin22 (g := (mkF m 43 #[iv p0, iv p1, iv p2, iv p3, iv p4, iv ii, iv nn, .unset, .unset, .unset, .unset, .unset, .unset, .unset] [(.int r_20), (.int (2 : Int32)), (.ref b7), (.ref b7)])) rfl rfl (hb hby at_43)
  have f22_S_SimpleType_Form_INTEGER : Sta Z h22 sN4 "INTEGER" sN3 (.ref fI) := f17_S_SimpleType_Form_INTEGER.wr W22
  have f22_S_SimpleType_Form_DECIMAL : Sta Z h22 sN4 "DECIMAL" sN3 (.ref fD) := f17_S_SimpleType_Form_DECIMAL.wr W22
  have f22_S_NumberText_Part_SIGN : Sta Z h22 sN1 "SIGN" sN2 (.ref sS) := f17_S_NumberText_Part_SIGN.wr W22
  have f22_S_NumberText_Part_INTEGER : Sta Z h22 sN1 "INTEGER" sN2 (.ref sI) := f17_S_NumberText_Part_INTEGER.wr W22
  have f22_S_NumberText_Part_FRACTION : Sta Z h22 sN1 "FRACTION" sN2 (.ref sF) := f17_S_NumberText_Part_FRACTION.wr W22
  have f22_S_NumberText_Part_BROKEN : Sta Z h22 sN1 "BROKEN" sN2 (.ref sB) := f17_S_NumberText_Part_BROKEN.wr W22
  have z22 : n0 ≤ h22.size := by rw [W22.size]; exact z17
  have K22 : Keep h0 h22 [] := K17.wr W22 (Or.inr sz_b7)
  have v22 : Arv Z h22 b7 k7 .char (4 : Int32) [(.int (nar .char r_10)), (.int (nar .char r_15)), (.int (nar .char r_20)), (.int (0 : Int32))] (.int (0 : Int32)) := Arv.set Ar22 q22 S22 n22_ H22 G22 (fits_nar_char _) W22 2 rfl (Nat.le_of_ble_eq_true rfl)
  have N22 := Fr.snoc X22 N20 g_b7
  have R23 : ∀ t, Steps p.tables e below (T22.setTop (mkF m 44 #[iv p0, iv p1, iv p2, iv p3, iv p4, iv ii, iv nn, .unset, .unset, .unset, .unset, .unset, .unset, .unset] [(.ref b7)])) t → Steps p.tables e below (s₁.setTop f0) t := fun t k => R21 t (st22 t k)
  have R24 : ∀ t, Steps p.tables e below (T22.setTop (mkF m 48 #[iv p0, iv p1, iv p2, iv p3, iv p4, iv ii, iv nn, .unset, .unset, .unset, .unset, .unset, .unset, .unset] [(.int p4), (.int (3 : Int32)), (.ref b7), (.ref b7)])) t → Steps p.tables e below (s₁.setTop f0) t := fun t k => R23 t (by
    show Steps p.tables e below (T22.setTop (mkF m 44 #[iv p0, iv p1, iv p2, iv p3, iv p4, iv ii, iv nn, .unset, .unset, .unset, .unset, .unset, .unset, .unset] [(.ref b7)])) _
    refine XS.dup X22.here hx rfl (hb hby at_44) rfl rfl ?_
    refine XS.iconst X22.here hx rfl (hb hby at_45) ?_
    show Steps p.tables e below (T22.setTop (mkF m 46 #[iv p0, iv p1, iv p2, iv p3, iv p4, iv ii, iv nn, .unset, .unset, .unset, .unset, .unset, .unset, .unset] [(.int (3 : Int32)), (.ref b7), (.ref b7)])) _
    refine XS.iload X22.here hx rfl (hb hby at_46) rfl  ?_
    exact k)
  obtain ⟨_, _, ⟨T25, L25, k25, n25⟩, -, X25, ⟨Lc25, hQ25, l25, y25, z25⟩, st25⟩ := Jvm.LawKit.callS X22 hx (y := (⟨sN5, "draw", "(I)C"⟩ : MethodName)) hown (mvT hZ (hw _ (List.mem_of_getElem? (i := 1) rfl))) (mvT hZ (hw _ (List.mem_of_getElem? (i := 2) rfl))) (mvT hZ (hw _ (List.mem_of_getElem? (i := 3) rfl))) (mvT hZ (hw _ (List.mem_of_getElem? (i := 4) rfl))) (by decide) (backOf (W := 3) (rmDraw l Z a0 hw [] p4 h22 n0 z22) hZ (hw _ (List.mem_of_getElem? (i := 4) rfl)) (hw _ (List.mem_of_getElem? (i := 3) rfl)) (by decide) (by decide)) (g := (mkF m 48 #[iv p0, iv p1, iv p2, iv p3, iv p4, iv ii, iv nn, .unset, .unset, .unset, .unset, .unset, .unset, .unset] [(.int p4), (.int (3 : Int32)), (.ref b7), (.ref b7)])) rfl (by rw [hml]; rfl) (argsL := [(.int p4)]) (rest := [(.int (3 : Int32)), (.ref b7), (.ref b7)]) (lenOf pd_6 rfl) rfl (by show 2 * 0 + _ ≤ _; exact Nat.le_of_eq rfl) (hb hby at_48) (fun _ _ => ⟨rfl, e22, (by decide : 1 + 0 ≤ _), (by decide : 4 + 0 ≤ _)⟩)
  dsimp only [Pt.U, Pt.locs, Pt.cells, Pt.slots] at X25 l25 y25 z25 st25 hQ25
  subst l25 y25 z25
  obtain ⟨r_25, rfl, N25q, p25_0⟩ := hQ25
  have N25 := Fr.app N22 N25q
  have R26 : ∀ t, Steps p.tables e below (T25.setTop (mkF m 51 #[iv p0, iv p1, iv p2, iv p3, iv p4, iv ii, iv nn, .unset, .unset, .unset, .unset, .unset, .unset, .unset] [(.int r_25), (.int (3 : Int32)), (.ref b7), (.ref b7)])) t → Steps p.tables e below (s₁.setTop f0) t := fun t k => R24 t (st25 t k)
  obtain ⟨cl27, Ar27, q27, S27, n27_, H27, G27⟩ := id v22
  have hin27 : ¬ ((3 : Int32) < 0 ∨ cl27.slots.size ≤ ((3 : Int32)).toNatClampNeg) := inb_of S27 ⟨by decide, by decide⟩
  obtain ⟨T27, h27, X27, e27, W27, st27⟩ := stC X25 hx hZ p25_0 Ar27 (j := (3 : Int32)) hin27 (g := (mkF m 51 #[iv p0, iv p1, iv p2, iv p3, iv p4, iv ii, iv nn, .unset, .unset, .unset, .unset, .unset, .unset, .unset] [(.int r_25), (.int (3 : Int32)), (.ref b7), (.ref b7)])) rfl rfl (hb hby at_51)
  have f27_S_SimpleType_Form_INTEGER : Sta Z h27 sN4 "INTEGER" sN3 (.ref fI) := f22_S_SimpleType_Form_INTEGER.wr W27
  have f27_S_SimpleType_Form_DECIMAL : Sta Z h27 sN4 "DECIMAL" sN3 (.ref fD) := f22_S_SimpleType_Form_DECIMAL.wr W27
  have f27_S_NumberText_Part_SIGN : Sta Z h27 sN1 "SIGN" sN2 (.ref sS) := f22_S_NumberText_Part_SIGN.wr W27
  have f27_S_NumberText_Part_INTEGER : Sta Z h27 sN1 "INTEGER" sN2 (.ref sI) := f22_S_NumberText_Part_INTEGER.wr W27
  have f27_S_NumberText_Part_FRACTION : Sta Z h27 sN1 "FRACTION" sN2 (.ref sF) := f22_S_NumberText_Part_FRACTION.wr W27
  have f27_S_NumberText_Part_BROKEN : Sta Z h27 sN1 "BROKEN" sN2 (.ref sB) := f22_S_NumberText_Part_BROKEN.wr W27
  have z27 : n0 ≤ h27.size := by rw [W27.size]; exact z22
  have K27 : Keep h0 h27 [] := K22.wr W27 (Or.inr sz_b7)
  have v27 : Arv Z h27 b7 k7 .char (4 : Int32) [(.int (nar .char r_10)), (.int (nar .char r_15)), (.int (nar .char r_20)), (.int (nar .char r_25))] (.int (0 : Int32)) := Arv.set Ar27 q27 S27 n27_ H27 G27 (fits_nar_char _) W27 3 rfl (Nat.le_of_ble_eq_true rfl)
  have N27 := Fr.snoc X27 N25 g_b7
  have R28 : ∀ t, Steps p.tables e below (T27.setTop (mkF m 52 #[iv p0, iv p1, iv p2, iv p3, iv p4, iv ii, iv nn, .unset, .unset, .unset, .unset, .unset, .unset, .unset] [(.ref b7)])) t → Steps p.tables e below (s₁.setTop f0) t := fun t k => R26 t (st27 t k)
  have R29 : ∀ t, Steps p.tables e below (T27.setTop (mkF m 54 #[iv p0, iv p1, iv p2, iv p3, iv p4, iv ii, iv nn, rv b7, .unset, .unset, .unset, .unset, .unset, .unset] [])) t → Steps p.tables e below (s₁.setTop f0) t := fun t k => R28 t (by
    show Steps p.tables e below (T27.setTop (mkF m 52 #[iv p0, iv p1, iv p2, iv p3, iv p4, iv ii, iv nn, .unset, .unset, .unset, .unset, .unset, .unset, .unset] [(.ref b7)])) _
    refine XS.astore X27.here hx rfl (hb hby at_52) rfl rfl (l' := #[iv p0, iv p1, iv p2, iv p3, iv p4, iv ii, iv nn, rv b7, .unset, .unset, .unset, .unset, .unset, .unset]) rfl ?_
    exact k)
  obtain ⟨T30, h30, X30, e30, E30, A30, D30, -, st30⟩ := newO X27 hx hZ hown (hw _ (List.mem_of_getElem? (i := 5) rfl)) (hw _ (List.mem_of_getElem? (i := 6) rfl)) (hw _ (List.mem_of_getElem? (i := 7) rfl)) e27 (g := (mkF m 54 #[iv p0, iv p1, iv p2, iv p3, iv p4, iv ii, iv nn, rv b7, .unset, .unset, .unset, .unset, .unset, .unset] [])) rfl (hb hby at_54) (by decide) (by decide)
  obtain ⟨b30, g30⟩ : ∃ z, z = h27.size := ⟨_, rfl⟩
  rw [← g30] at A30 D30 st30
  have g_b30 : n0 ≤ b30 := Nat.le_trans z27 (Nat.le_of_eq g30.symm)
  have sz_b30 : h0.size ≤ b30 := Nat.le_trans K27.1 (Nat.le_of_eq g30.symm)
  have ne_b7_b30 : b7 ≠ b30 := Nat.ne_of_lt (Nat.lt_of_lt_of_le v27.lt (Nat.le_of_eq g30.symm))
  have f30_S_SimpleType_Form_INTEGER : Sta Z h30 sN4 "INTEGER" sN3 (.ref fI) := f27_S_SimpleType_Form_INTEGER.ext E30
  have f30_S_SimpleType_Form_DECIMAL : Sta Z h30 sN4 "DECIMAL" sN3 (.ref fD) := f27_S_SimpleType_Form_DECIMAL.ext E30
  have f30_S_NumberText_Part_SIGN : Sta Z h30 sN1 "SIGN" sN2 (.ref sS) := f27_S_NumberText_Part_SIGN.ext E30
  have f30_S_NumberText_Part_INTEGER : Sta Z h30 sN1 "INTEGER" sN2 (.ref sI) := f27_S_NumberText_Part_INTEGER.ext E30
  have f30_S_NumberText_Part_FRACTION : Sta Z h30 sN1 "FRACTION" sN2 (.ref sF) := f27_S_NumberText_Part_FRACTION.ext E30
  have f30_S_NumberText_Part_BROKEN : Sta Z h30 sN1 "BROKEN" sN2 (.ref sB) := f27_S_NumberText_Part_BROKEN.ext E30
  have f30_A_b7 : Arv Z h30 b7 k7 .char (4 : Int32) [(.int (nar .char r_10)), (.int (nar .char r_15)), (.int (nar .char r_20)), (.int (nar .char r_25))] (.int (0 : Int32)) := v27.ext E30
  have z30 : n0 ≤ h30.size := Nat.le_trans z27 E30.1
  have K30 : Keep h0 h30 [] := K27.ext E30
  have d30_integerOnly : Fld Z h30 b30 sN0 "integerOnly" "Z" (.int (0 : Int32)) := D30 (Or.inl (hw _ (List.mem_of_getElem? (i := 25) rfl))) (ty := .boolean) (by decide)
  have d30_part : Fld Z h30 b30 sN0 "part" sN2 .null := D30 (Or.inl (hw _ (List.mem_of_getElem? (i := 30) rfl))) (ty := (.object sN1)) (by decide)
  have d30_negative : Fld Z h30 b30 sN0 "negative" "Z" (.int (0 : Int32)) := D30 (Or.inl (hw _ (List.mem_of_getElem? (i := 32) rfl))) (ty := .boolean) (by decide)
  have d30_digitRead : Fld Z h30 b30 sN0 "digitRead" "Z" (.int (0 : Int32)) := D30 (Or.inl (hw _ (List.mem_of_getElem? (i := 34) rfl))) (ty := .boolean) (by decide)
  have d30_integerDigits : Fld Z h30 b30 sN0 "integerDigits" "J" (.long (0 : Int64)) := D30 (Or.inl (hw _ (List.mem_of_getElem? (i := 36) rfl))) (ty := .long) (by decide)
  have d30_fractionDigits : Fld Z h30 b30 sN0 "fractionDigits" "J" (.long (0 : Int64)) := D30 (Or.inl (hw _ (List.mem_of_getElem? (i := 38) rfl))) (ty := .long) (by decide)
  have d30_pendingZeros : Fld Z h30 b30 sN0 "pendingZeros" "J" (.long (0 : Int64)) := D30 (Or.inl (hw _ (List.mem_of_getElem? (i := 40) rfl))) (ty := .long) (by decide)
  have d30_unscaled : Fld Z h30 b30 sN0 "unscaled" "J" (.long (0 : Int64)) := D30 (Or.inl (hw _ (List.mem_of_getElem? (i := 42) rfl))) (ty := .long) (by decide)
  have R31 : ∀ t, Steps p.tables e below (T30.setTop (mkF m 57 #[iv p0, iv p1, iv p2, iv p3, iv p4, iv ii, iv nn, rv b7, .unset, .unset, .unset, .unset, .unset, .unset] [(.ref b30)])) t → Steps p.tables e below (s₁.setTop f0) t := fun t k => R29 t (st30 t k)
  have R32 : ∀ t, Steps p.tables e below (T30.setTop (mkF m 58 #[iv p0, iv p1, iv p2, iv p3, iv p4, iv ii, iv nn, rv b7, .unset, .unset, .unset, .unset, .unset, .unset] [(.ref b30), (.ref b30)])) t → Steps p.tables e below (s₁.setTop f0) t := fun t k => R31 t (by
    show Steps p.tables e below (T30.setTop (mkF m 57 #[iv p0, iv p1, iv p2, iv p3, iv p4, iv ii, iv nn, rv b7, .unset, .unset, .unset, .unset, .unset, .unset] [(.ref b30)])) _
    refine XS.dup X30.here hx rfl (hb hby at_57) rfl rfl ?_
    exact k)
  obtain ⟨_, _, ⟨T33, L33, k33, n33⟩, -, X33, ⟨Lc33, hQ33, l33, y33, z33⟩, st33⟩ := X30.specialBack hx (y := (⟨sN0, "<init>", "()V"⟩ : MethodName)) rfl hown (mvT hZ (hw _ (List.mem_of_getElem? (i := 8) rfl))) (mvT hZ (hw _ (List.mem_of_getElem? (i := 9) rfl))) (mvT hZ (hw _ (List.mem_of_getElem? (i := 10) rfl))) (by decide) (backOf (W := 1) (rmInit l Z a0 hw [] b30 h30 n0 z30) hZ (hw _ (List.mem_of_getElem? (i := 10) rfl)) (hw _ (List.mem_of_getElem? (i := 7) rfl)) (by decide) (by decide)) (g := (mkF m 58 #[iv p0, iv p1, iv p2, iv p3, iv p4, iv ii, iv nn, rv b7, .unset, .unset, .unset, .unset, .unset, .unset] [(.ref b30), (.ref b30)])) rfl (by rw [hml]; rfl) (Steps.refl _) (a := b30) (argsL := []) (rest := [(.ref b30)]) (lenOf pd_7 rfl) rfl (by show 2 * 0 + _ ≤ _; exact Nat.le_of_eq rfl) (hb hby at_58) (fun _ _ => ⟨rfl, e30, (by decide : 2 + 0 ≤ _), (by decide : 12 + 0 ≤ _)⟩)
  dsimp only [Pt.U, Pt.locs, Pt.cells, Pt.slots] at X33 l33 y33 z33 st33 hQ33
  subst l33 y33 z33
  obtain ⟨rfl, N33q, p33_0⟩ := hQ33
  have N33 := Fr.app N27 N33q
  have R34 : ∀ t, Steps p.tables e below (T33.setTop (mkF m 61 #[iv p0, iv p1, iv p2, iv p3, iv p4, iv ii, iv nn, rv b7, .unset, .unset, .unset, .unset, .unset, .unset] [(.ref b30)])) t → Steps p.tables e below (s₁.setTop f0) t := fun t k => R32 t (st33.trans k)
  have R35 : ∀ t, Steps p.tables e below (T33.setTop (mkF m 67 #[iv p0, iv p1, iv p2, iv p3, iv p4, iv ii, iv nn, rv b7, rv b30, .unset, .unset, .unset, .unset, .unset] [(.int ii), (.ref b30)])) t → Steps p.tables e below (s₁.setTop f0) t := fun t k => R34 t (by
    show Steps p.tables e below (T33.setTop (mkF m 61 #[iv p0, iv p1, iv p2, iv p3, iv p4, iv ii, iv nn, rv b7, .unset, .unset, .unset, .unset, .unset, .unset] [(.ref b30)])) _
    refine XS.astore X33.here hx rfl (hb hby at_61) rfl rfl (l' := #[iv p0, iv p1, iv p2, iv p3, iv p4, iv ii, iv nn, rv b7, rv b30, .unset, .unset, .unset, .unset, .unset]) rfl ?_
    refine XS.aload X33.here hx rfl (hb hby at_63) rfl rfl ?_
    show Steps p.tables e below (T33.setTop (mkF m 65 #[iv p0, iv p1, iv p2, iv p3, iv p4, iv ii, iv nn, rv b7, rv b30, .unset, .unset, .unset, .unset, .unset] [(.ref b30)])) _
    refine XS.iload X33.here hx rfl (hb hby at_65) rfl  ?_
    exact k)
  obtain ⟨T43, L43, X43, N43, e43, R43⟩ : ∃ (T' : State) (L' : List Loc), Stand p l e room_1 s m #[(.int p0), (.int p1), (.int p2), (.int p3), (.int p4)] below meth c T' L' 2 12 ∧ Fr n0 L' ∧ T'.heap = h30 ∧ ∀ t, Steps p.tables e below (T'.setTop (mkF m 79 #[iv p0, iv p1, iv p2, iv p3, iv p4, iv ii, iv nn, rv b7, rv b30, .unset, .unset, .unset, .unset, .unset] [(.ref (own_sel (decide (ii = 0)) fD fI)), (.ref b30)])) t → Steps p.tables e below (s₁.setTop f0) t := by
    by_cases hg1 : ii = (0 : Int32)
    · skip
      have R36 : ∀ t, Steps p.tables e below (T33.setTop (mkF m 76 #[iv p0, iv p1, iv p2, iv p3, iv p4, iv ii, iv nn, rv b7, rv b30, .unset, .unset, .unset, .unset, .unset] [(.ref b30)])) t → Steps p.tables e below (s₁.setTop f0) t := fun t k => R35 t (by
        show Steps p.tables e below (T33.setTop (mkF m 67 #[iv p0, iv p1, iv p2, iv p3, iv p4, iv ii, iv nn, rv b7, rv b30, .unset, .unset, .unset, .unset, .unset] [(.int ii), (.ref b30)])) _
        refine XS.ifYes X33.here hx rfl (pc0 := 67) (pc' := 76) rfl (hb hby at_67) rfl ((if0 _ _).trans (teq hg1).1) (by decide) (by decide) ?_
        exact k)
      obtain ⟨T37, X37, e37, st37⟩ := getS2 X33 hx hZ hown (host := "") (Or.inl (hw _ (List.mem_of_getElem? (i := 14) rfl))) Via.refl p33_0 f30_S_SimpleType_Form_DECIMAL (g := (mkF m 76 #[iv p0, iv p1, iv p2, iv p3, iv p4, iv ii, iv nn, rv b7, rv b30, .unset, .unset, .unset, .unset, .unset] [(.ref b30)])) rfl (hb hby at_76)
      have R38 : ∀ t, Steps p.tables e below (T37.setTop (mkF m 79 #[iv p0, iv p1, iv p2, iv p3, iv p4, iv ii, iv nn, rv b7, rv b30, .unset, .unset, .unset, .unset, .unset] [(.ref fD), (.ref b30)])) t → Steps p.tables e below (s₁.setTop f0) t := fun t k => R36 t (st37 t k)
      have hv0 : (own_sel (decide (ii = 0)) fD fI) = fD := by (try simp only [lw_gt, lw_lt, lw_eq, own_i_eq0, Bool.not_eq_false] at hg1); simp [own_sel, hg1]
      rw [hv0]
      exact ⟨T37, _, X37, N33, e37, R38⟩
    · skip
      have R39 : ∀ t, Steps p.tables e below (T33.setTop (mkF m 70 #[iv p0, iv p1, iv p2, iv p3, iv p4, iv ii, iv nn, rv b7, rv b30, .unset, .unset, .unset, .unset, .unset] [(.ref b30)])) t → Steps p.tables e below (s₁.setTop f0) t := fun t k => R35 t (by
        show Steps p.tables e below (T33.setTop (mkF m 67 #[iv p0, iv p1, iv p2, iv p3, iv p4, iv ii, iv nn, rv b7, rv b30, .unset, .unset, .unset, .unset, .unset] [(.int ii), (.ref b30)])) _
        refine XS.ifNo X33.here hx rfl (hb hby at_67) rfl ((if0 _ _).trans (feq hg1).1) ?_
        exact k)
      obtain ⟨T40, X40, e40, st40⟩ := getS2 X33 hx hZ hown (host := "") (Or.inl (hw _ (List.mem_of_getElem? (i := 50) rfl))) Via.refl p33_0 f30_S_SimpleType_Form_INTEGER (g := (mkF m 70 #[iv p0, iv p1, iv p2, iv p3, iv p4, iv ii, iv nn, rv b7, rv b30, .unset, .unset, .unset, .unset, .unset] [(.ref b30)])) rfl (hb hby at_70)
      have R41 : ∀ t, Steps p.tables e below (T40.setTop (mkF m 73 #[iv p0, iv p1, iv p2, iv p3, iv p4, iv ii, iv nn, rv b7, rv b30, .unset, .unset, .unset, .unset, .unset] [(.ref fI), (.ref b30)])) t → Steps p.tables e below (s₁.setTop f0) t := fun t k => R39 t (st40 t k)
      have R42 : ∀ t, Steps p.tables e below (T40.setTop (mkF m 79 #[iv p0, iv p1, iv p2, iv p3, iv p4, iv ii, iv nn, rv b7, rv b30, .unset, .unset, .unset, .unset, .unset] [(.ref fI), (.ref b30)])) t → Steps p.tables e below (s₁.setTop f0) t := fun t k => R41 t (by
        show Steps p.tables e below (T40.setTop (mkF m 73 #[iv p0, iv p1, iv p2, iv p3, iv p4, iv ii, iv nn, rv b7, rv b30, .unset, .unset, .unset, .unset, .unset] [(.ref fI), (.ref b30)])) _
        refine XS.goto X40.here hx rfl (pc0 := 73) (pc' := 79) rfl (hb hby at_73) (by decide) (by decide) ?_
        exact k)
      have hv0 : (own_sel (decide (ii = 0)) fD fI) = fI := by (try simp only [lw_gt, lw_lt, lw_eq, own_i_eq0, Bool.not_eq_false] at hg1); simp [own_sel, hg1]
      rw [hv0]
      exact ⟨T40, _, X40, N33, e40, R42⟩
  obtain ⟨cq44, kq44, q44a, q44b, q44c⟩ := isOf hZ e43 A30
  obtain ⟨_, _, ⟨T44, L44, k44, n44⟩, -, X44, ⟨Lc44, hQ44, l44, y44, z44⟩, st44⟩ := X43.virtualBack hx (y := (⟨sN0, "start", sN6⟩ : MethodName)) (z := (⟨sN0, "start", sN6⟩ : MethodName)) hown (mvT hZ (hw _ (List.mem_of_getElem? (i := 17) rfl))) (mvT hZ (hw _ (List.mem_of_getElem? (i := 18) rfl))) (notFace_of_selects (args := #[]) (mvT hZ (hw _ (List.mem_of_getElem? (i := 20) rfl)))) (mvT hZ (hw _ (List.mem_of_getElem? (i := 20) rfl))) (mvT hZ (hw _ (List.mem_of_getElem? (i := 19) rfl))) (by decide) (backOf (W := 0) (rmStart l Z a0 hw [] b30 (own_sel (decide (ii = 0)) fD fI) fI sS (.int (0 : Int32)) .null (.int (0 : Int32)) (.int (0 : Int32)) (.long (0 : Int64)) (.long (0 : Int64)) (.long (0 : Int64)) (.long (0 : Int64)) h30 n0 z30 A30 g_b30 f30_S_SimpleType_Form_INTEGER f30_S_NumberText_Part_SIGN d30_integerOnly d30_part d30_negative d30_digitRead d30_integerDigits d30_fractionDigits d30_pendingZeros d30_unscaled) hZ (hw _ (List.mem_of_getElem? (i := 21) rfl)) (hw _ (List.mem_of_getElem? (i := 7) rfl)) (by decide) (by decide)) q44a q44c (g := (mkF m 79 #[iv p0, iv p1, iv p2, iv p3, iv p4, iv ii, iv nn, rv b7, rv b30, .unset, .unset, .unset, .unset, .unset] [(.ref (own_sel (decide (ii = 0)) fD fI)), (.ref b30)])) rfl (by rw [hml]; rfl) (Steps.refl _) (argsL := [(.ref (own_sel (decide (ii = 0)) fD fI))]) (rest := []) (lenOf pd_8 rfl) rfl (by show 2 * 0 + _ ≤ _; exact Nat.le_of_eq rfl) (hb hby at_79) (fun _ _ => ⟨rfl, e43, (by decide : 2 + 0 ≤ _), (by decide : 12 + 0 ≤ _)⟩)
  dsimp only [Pt.U, Pt.locs, Pt.cells, Pt.slots] at X44 l44 y44 z44 st44 hQ44
  subst l44 y44 z44
  obtain ⟨rfl, N44q, p44_0, p44_1, p44_2, p44_3, p44_4, p44_5, p44_6, p44_7, p44_8⟩ := hQ44
  have N44 := Fr.app N43 N44q
  have f44_S_SimpleType_Form_INTEGER : Sta Z T44.heap sN4 "INTEGER" sN3 (.ref fI) := own_sta_keep f30_S_SimpleType_Form_INTEGER p44_0 (nsS A30.nostat ns0)
  have f44_S_SimpleType_Form_DECIMAL : Sta Z T44.heap sN4 "DECIMAL" sN3 (.ref fD) := own_sta_keep f30_S_SimpleType_Form_DECIMAL p44_0 (nsS A30.nostat ns0)
  have f44_S_NumberText_Part_SIGN : Sta Z T44.heap sN1 "SIGN" sN2 (.ref sS) := own_sta_keep f30_S_NumberText_Part_SIGN p44_0 (nsS A30.nostat ns0)
  have f44_S_NumberText_Part_INTEGER : Sta Z T44.heap sN1 "INTEGER" sN2 (.ref sI) := own_sta_keep f30_S_NumberText_Part_INTEGER p44_0 (nsS A30.nostat ns0)
  have f44_S_NumberText_Part_FRACTION : Sta Z T44.heap sN1 "FRACTION" sN2 (.ref sF) := own_sta_keep f30_S_NumberText_Part_FRACTION p44_0 (nsS A30.nostat ns0)
  have f44_S_NumberText_Part_BROKEN : Sta Z T44.heap sN1 "BROKEN" sN2 (.ref sB) := own_sta_keep f30_S_NumberText_Part_BROKEN p44_0 (nsS A30.nostat ns0)
  have f44_A_b7 : Arv Z T44.heap b7 k7 .char (4 : Int32) [(.int (nar .char r_10)), (.int (nar .char r_15)), (.int (nar .char r_20)), (.int (nar .char r_25))] (.int (0 : Int32)) := f30_A_b7.keep p44_0 (ninS ne_b7_b30 nin0)
  have f44_E_b30 : Exa Z T44.heap b30 sN0 := A30.keep p44_0
  have z44 : n0 ≤ T44.heap.size := Nat.le_trans z30 p44_0.1
  have K44 : Keep h0 T44.heap [] := K30.trans p44_0 (allS (Or.inr sz_b30) all0)
  have R45 : ∀ t, Steps p.tables e below (T44.setTop (mkF m 82 #[iv p0, iv p1, iv p2, iv p3, iv p4, iv ii, iv nn, rv b7, rv b30, .unset, .unset, .unset, .unset, .unset] [])) t → Steps p.tables e below (s₁.setTop f0) t := fun t k => R43 t (st44.trans k)
  have io46 : Fld Z T44.heap b30 sN0 "integerOnly" "Z" (.int ii) := by rw [own_io e_ii ne_fD_fI]; exact p44_1
  obtain ⟨c0, ec0⟩ : ∃ z : Int32, z = (nar .char r_10) := ⟨_, rfl⟩
  obtain ⟨c1, ec1⟩ : ∃ z : Int32, z = (nar .char r_15) := ⟨_, rfl⟩
  obtain ⟨c2, ec2⟩ : ∃ z : Int32, z = (nar .char r_20) := ⟨_, rfl⟩
  obtain ⟨c3, ec3⟩ : ∃ z : Int32, z = (nar .char r_25) := ⟨_, rfl⟩
  have vc : Arv Z T44.heap b7 k7 .char (4 : Int32) [(.int c0), (.int c1), (.int c2), (.int c3)] (.int (0 : Int32)) := by rw [ec0, ec1, ec2, ec3]; exact f44_A_b7
  have R47 : ∀ t, Steps p.tables e below (T44.setTop (mkF m 84 #[iv p0, iv p1, iv p2, iv p3, iv p4, iv ii, iv nn, rv b7, rv b30, .unset, .unset, .unset, .unset, .unset] [(.int nn)])) t → Steps p.tables e below (s₁.setTop f0) t := fun t k => R45 t (by
    show Steps p.tables e below (T44.setTop (mkF m 82 #[iv p0, iv p1, iv p2, iv p3, iv p4, iv ii, iv nn, rv b7, rv b30, .unset, .unset, .unset, .unset, .unset] [])) _
    refine XS.iload X44.here hx rfl (hb hby at_82) rfl  ?_
    exact k)
  rcases own_n5 e_nn with hn | hn | hn | hn | hn
  · skip
    have R48 : ∀ t, Steps p.tables e below (T44.setTop (mkF m 84 #[iv p0, iv p1, iv p2, iv p3, iv p4, iv ii, iv (0 : Int32), rv b7, rv b30, .unset, .unset, .unset, .unset, .unset] [(.int (0 : Int32))])) t → Steps p.tables e below (s₁.setTop f0) t := by have q := R47; rw [(hn : nn = (0 : Int32))] at q; exact q
    have R49 : ∀ t, Steps p.tables e below (T44.setTop (mkF m 143 #[iv p0, iv p1, iv p2, iv p3, iv p4, iv ii, iv (0 : Int32), rv b7, rv b30, .unset, .unset, .unset, .unset, .unset] [(.ref b30)])) t → Steps p.tables e below (s₁.setTop f0) t := fun t k => R48 t (by
      show Steps p.tables e below (T44.setTop (mkF m 84 #[iv p0, iv p1, iv p2, iv p3, iv p4, iv ii, iv (0 : Int32), rv b7, rv b30, .unset, .unset, .unset, .unset, .unset] [(.int (0 : Int32))])) _
      refine XS.ifYes X44.here hx rfl (pc0 := 84) (pc' := 96) rfl (hb hby at_84) rfl ((if0 _ _).trans (flt (by decide : ¬ ((0 : Int32) < (0 : Int32)))).2.2.2) (by decide) (by decide) ?_
      refine XS.iload X44.here hx rfl (hb hby at_96) rfl  ?_
      show Steps p.tables e below (T44.setTop (mkF m 98 #[iv p0, iv p1, iv p2, iv p3, iv p4, iv ii, iv (0 : Int32), rv b7, rv b30, .unset, .unset, .unset, .unset, .unset] [(.int (0 : Int32))])) _
      refine XS.iconst X44.here hx rfl (hb hby at_98) ?_
      refine XS.icmpYes X44.here hx rfl (pc0 := 99) (pc' := 111) rfl (hb hby at_99) rfl (flt (by decide : ¬ ((1 : Int32) < (0 : Int32)))).2.2.2 (by decide) (by decide) ?_
      show Steps p.tables e below (T44.setTop (mkF m 111 #[iv p0, iv p1, iv p2, iv p3, iv p4, iv ii, iv (0 : Int32), rv b7, rv b30, .unset, .unset, .unset, .unset, .unset] [])) _
      refine XS.iload X44.here hx rfl (hb hby at_111) rfl  ?_
      refine XS.iconst X44.here hx rfl (hb hby at_113) ?_
      show Steps p.tables e below (T44.setTop (mkF m 114 #[iv p0, iv p1, iv p2, iv p3, iv p4, iv ii, iv (0 : Int32), rv b7, rv b30, .unset, .unset, .unset, .unset, .unset] [(.int (2 : Int32)), (.int (0 : Int32))])) _
      refine XS.icmpYes X44.here hx rfl (pc0 := 114) (pc' := 126) rfl (hb hby at_114) rfl (flt (by decide : ¬ ((2 : Int32) < (0 : Int32)))).2.2.2 (by decide) (by decide) ?_
      refine XS.iload X44.here hx rfl (hb hby at_126) rfl  ?_
      show Steps p.tables e below (T44.setTop (mkF m 128 #[iv p0, iv p1, iv p2, iv p3, iv p4, iv ii, iv (0 : Int32), rv b7, rv b30, .unset, .unset, .unset, .unset, .unset] [(.int (0 : Int32))])) _
      refine XS.iconst X44.here hx rfl (hb hby at_128) ?_
      refine XS.icmpYes X44.here hx rfl (pc0 := 129) (pc' := 141) rfl (hb hby at_129) rfl (flt (by decide : ¬ ((3 : Int32) < (0 : Int32)))).2.2.2 (by decide) (by decide) ?_
      show Steps p.tables e below (T44.setTop (mkF m 141 #[iv p0, iv p1, iv p2, iv p3, iv p4, iv ii, iv (0 : Int32), rv b7, rv b30, .unset, .unset, .unset, .unset, .unset] [])) _
      refine XS.aload X44.here hx rfl (hb hby at_141) rfl rfl ?_
      exact k)
    obtain ⟨cq50, kq50, q50a, q50b, q50c⟩ := isOf hZ rfl f44_E_b30
    obtain ⟨_, _, ⟨T50, L50, k50, n50⟩, -, X50, ⟨Lc50, hQ50, l50, y50, z50⟩, st50⟩ := X44.virtualBack hx (y := (⟨sN0, "wellFormed", "()Z"⟩ : MethodName)) (z := (⟨sN0, "wellFormed", "()Z"⟩ : MethodName)) hown (mvT hZ (hw _ (List.mem_of_getElem? (i := 43) rfl))) (mvT hZ (hw _ (List.mem_of_getElem? (i := 44) rfl))) (notFace_of_selects (args := #[]) (mvT hZ (hw _ (List.mem_of_getElem? (i := 46) rfl)))) (mvT hZ (hw _ (List.mem_of_getElem? (i := 46) rfl))) (mvT hZ (hw _ (List.mem_of_getElem? (i := 45) rfl))) (by decide) (backOf (W := 0) (rmWf l Z a0 hw [] b30 0 (0 : Int32) sS sI sF sB T44.heap n0 z44 f44_S_NumberText_Part_BROKEN ne_sS_sB ne_sI_sB ne_sF_sB (by decide) p44_2 p44_4) hZ (hw _ (List.mem_of_getElem? (i := 47) rfl)) (hw _ (List.mem_of_getElem? (i := 7) rfl)) (by decide) (by decide)) q50a q50c (g := (mkF m 143 #[iv p0, iv p1, iv p2, iv p3, iv p4, iv ii, iv (0 : Int32), rv b7, rv b30, .unset, .unset, .unset, .unset, .unset] [(.ref b30)])) rfl (by rw [hml]; rfl) (Steps.refl _) (argsL := []) (rest := []) (lenOf pd_9 rfl) rfl (by show 2 * 0 + _ ≤ _; exact Nat.le_of_eq rfl) (hb hby at_143) (fun _ _ => ⟨rfl, rfl, (by decide : 2 + 0 ≤ _), (by decide : 12 + 0 ≤ _)⟩)
    dsimp only [Pt.U, Pt.locs, Pt.cells, Pt.slots] at X50 l50 y50 z50 st50 hQ50
    subst l50 y50 z50
    obtain ⟨rfl, N50q, p50_0⟩ := hQ50
    have N50 := Fr.app N44 N50q
    have R51 : ∀ t, Steps p.tables e below (T50.setTop (mkF m 146 #[iv p0, iv p1, iv p2, iv p3, iv p4, iv ii, iv (0 : Int32), rv b7, rv b30, .unset, .unset, .unset, .unset, .unset] [(.int (own_i (own_wf 0 (0 : Int32))))])) t → Steps p.tables e below (s₁.setTop f0) t := fun t k => R49 t (st50.trans k)
    have R52 : ∀ t, Steps p.tables e below (T50.setTop (mkF m 473 #[iv p0, iv p1, iv p2, iv p3, iv p4, iv ii, iv (0 : Int32), rv b7, rv b30, iv (own_i (own_wf 0 (0 : Int32))), iv (1 : Int32), iv (0 : Int32), iv (0 : Int32), iv (0 : Int32)] [(.int (1 : Int32))])) t → Steps p.tables e below (s₁.setTop f0) t := fun t k => R51 t (by
      show Steps p.tables e below (T50.setTop (mkF m 146 #[iv p0, iv p1, iv p2, iv p3, iv p4, iv ii, iv (0 : Int32), rv b7, rv b30, .unset, .unset, .unset, .unset, .unset] [(.int (own_i (own_wf 0 (0 : Int32))))])) _
      refine XS.istore X50.here hx rfl (hb hby at_146) rfl (l' := #[iv p0, iv p1, iv p2, iv p3, iv p4, iv ii, iv (0 : Int32), rv b7, rv b30, iv (own_i (own_wf 0 (0 : Int32))), .unset, .unset, .unset, .unset]) rfl ?_
      refine XS.iconst X50.here hx rfl (hb hby at_148) ?_
      show Steps p.tables e below (T50.setTop (mkF m 149 #[iv p0, iv p1, iv p2, iv p3, iv p4, iv ii, iv (0 : Int32), rv b7, rv b30, iv (own_i (own_wf 0 (0 : Int32))), .unset, .unset, .unset, .unset] [(.int (1 : Int32))])) _
      refine XS.istore X50.here hx rfl (hb hby at_149) rfl (l' := #[iv p0, iv p1, iv p2, iv p3, iv p4, iv ii, iv (0 : Int32), rv b7, rv b30, iv (own_i (own_wf 0 (0 : Int32))), iv (1 : Int32), .unset, .unset, .unset]) rfl ?_
      refine XS.iconst X50.here hx rfl (hb hby at_151) ?_
      show Steps p.tables e below (T50.setTop (mkF m 152 #[iv p0, iv p1, iv p2, iv p3, iv p4, iv ii, iv (0 : Int32), rv b7, rv b30, iv (own_i (own_wf 0 (0 : Int32))), iv (1 : Int32), .unset, .unset, .unset] [(.int (0 : Int32))])) _
      refine XS.istore X50.here hx rfl (hb hby at_152) rfl (l' := #[iv p0, iv p1, iv p2, iv p3, iv p4, iv ii, iv (0 : Int32), rv b7, rv b30, iv (own_i (own_wf 0 (0 : Int32))), iv (1 : Int32), iv (0 : Int32), .unset, .unset]) rfl ?_
      refine XS.iconst X50.here hx rfl (hb hby at_154) ?_
      show Steps p.tables e below (T50.setTop (mkF m 155 #[iv p0, iv p1, iv p2, iv p3, iv p4, iv ii, iv (0 : Int32), rv b7, rv b30, iv (own_i (own_wf 0 (0 : Int32))), iv (1 : Int32), iv (0 : Int32), .unset, .unset] [(.int (0 : Int32))])) _
      refine XS.istore X50.here hx rfl (hb hby at_155) rfl (l' := #[iv p0, iv p1, iv p2, iv p3, iv p4, iv ii, iv (0 : Int32), rv b7, rv b30, iv (own_i (own_wf 0 (0 : Int32))), iv (1 : Int32), iv (0 : Int32), iv (0 : Int32), .unset]) rfl ?_
      refine XS.iload X50.here hx rfl (hb hby at_157) rfl  ?_
      show Steps p.tables e below (T50.setTop (mkF m 159 #[iv p0, iv p1, iv p2, iv p3, iv p4, iv ii, iv (0 : Int32), rv b7, rv b30, iv (own_i (own_wf 0 (0 : Int32))), iv (1 : Int32), iv (0 : Int32), iv (0 : Int32), .unset] [(.int (0 : Int32))])) _
      refine XS.ifYes X50.here hx rfl (pc0 := 159) (pc' := 224) rfl (hb hby at_159) rfl ((if0 _ _).trans (flt (by decide : ¬ ((0 : Int32) < (0 : Int32)))).2.2.2) (by decide) (by decide) ?_
      refine XS.iload X50.here hx rfl (hb hby at_224) rfl  ?_
      show Steps p.tables e below (T50.setTop (mkF m 226 #[iv p0, iv p1, iv p2, iv p3, iv p4, iv ii, iv (0 : Int32), rv b7, rv b30, iv (own_i (own_wf 0 (0 : Int32))), iv (1 : Int32), iv (0 : Int32), iv (0 : Int32), .unset] [(.int (0 : Int32))])) _
      refine XS.iconst X50.here hx rfl (hb hby at_226) ?_
      refine XS.icmpYes X50.here hx rfl (pc0 := 227) (pc' := 292) rfl (hb hby at_227) rfl (flt (by decide : ¬ ((1 : Int32) < (0 : Int32)))).2.2.2 (by decide) (by decide) ?_
      show Steps p.tables e below (T50.setTop (mkF m 292 #[iv p0, iv p1, iv p2, iv p3, iv p4, iv ii, iv (0 : Int32), rv b7, rv b30, iv (own_i (own_wf 0 (0 : Int32))), iv (1 : Int32), iv (0 : Int32), iv (0 : Int32), .unset] [])) _
      refine XS.iload X50.here hx rfl (hb hby at_292) rfl  ?_
      refine XS.iconst X50.here hx rfl (hb hby at_294) ?_
      show Steps p.tables e below (T50.setTop (mkF m 295 #[iv p0, iv p1, iv p2, iv p3, iv p4, iv ii, iv (0 : Int32), rv b7, rv b30, iv (own_i (own_wf 0 (0 : Int32))), iv (1 : Int32), iv (0 : Int32), iv (0 : Int32), .unset] [(.int (2 : Int32)), (.int (0 : Int32))])) _
      refine XS.icmpYes X50.here hx rfl (pc0 := 295) (pc' := 360) rfl (hb hby at_295) rfl (flt (by decide : ¬ ((2 : Int32) < (0 : Int32)))).2.2.2 (by decide) (by decide) ?_
      refine XS.iload X50.here hx rfl (hb hby at_360) rfl  ?_
      show Steps p.tables e below (T50.setTop (mkF m 362 #[iv p0, iv p1, iv p2, iv p3, iv p4, iv ii, iv (0 : Int32), rv b7, rv b30, iv (own_i (own_wf 0 (0 : Int32))), iv (1 : Int32), iv (0 : Int32), iv (0 : Int32), .unset] [(.int (0 : Int32))])) _
      refine XS.iconst X50.here hx rfl (hb hby at_362) ?_
      refine XS.icmpYes X50.here hx rfl (pc0 := 363) (pc' := 428) rfl (hb hby at_363) rfl (flt (by decide : ¬ ((3 : Int32) < (0 : Int32)))).2.2.2 (by decide) (by decide) ?_
      show Steps p.tables e below (T50.setTop (mkF m 428 #[iv p0, iv p1, iv p2, iv p3, iv p4, iv ii, iv (0 : Int32), rv b7, rv b30, iv (own_i (own_wf 0 (0 : Int32))), iv (1 : Int32), iv (0 : Int32), iv (0 : Int32), .unset] [])) _
      refine XS.iload X50.here hx rfl (hb hby at_428) rfl  ?_
      refine XS.ifNo X50.here hx rfl (hb hby at_430) rfl ((if0 _ _).trans (feq (by decide : ¬ ((1 : Int32) = (0 : Int32)))).1) ?_
      show Steps p.tables e below (T50.setTop (mkF m 433 #[iv p0, iv p1, iv p2, iv p3, iv p4, iv ii, iv (0 : Int32), rv b7, rv b30, iv (own_i (own_wf 0 (0 : Int32))), iv (1 : Int32), iv (0 : Int32), iv (0 : Int32), .unset] [])) _
      refine XS.iload X50.here hx rfl (hb hby at_433) rfl  ?_
      refine XS.iconst X50.here hx rfl (hb hby at_435) ?_
      show Steps p.tables e below (T50.setTop (mkF m 436 #[iv p0, iv p1, iv p2, iv p3, iv p4, iv ii, iv (0 : Int32), rv b7, rv b30, iv (own_i (own_wf 0 (0 : Int32))), iv (1 : Int32), iv (0 : Int32), iv (0 : Int32), .unset] [(.int (1 : Int32)), (.int (0 : Int32))])) _
      refine XS.icmpYes X50.here hx rfl (pc0 := 436) (pc' := 458) rfl (hb hby at_436) rfl (tlt (by decide : (0 : Int32) < (1 : Int32))).1 (by decide) (by decide) ?_
      refine XS.iconst X50.here hx rfl (hb hby at_458) ?_
      show Steps p.tables e below (T50.setTop (mkF m 459 #[iv p0, iv p1, iv p2, iv p3, iv p4, iv ii, iv (0 : Int32), rv b7, rv b30, iv (own_i (own_wf 0 (0 : Int32))), iv (1 : Int32), iv (0 : Int32), iv (0 : Int32), .unset] [(.int (0 : Int32))])) _
      refine XS.istore X50.here hx rfl (hb hby at_459) rfl (l' := #[iv p0, iv p1, iv p2, iv p3, iv p4, iv ii, iv (0 : Int32), rv b7, rv b30, iv (own_i (own_wf 0 (0 : Int32))), iv (1 : Int32), iv (0 : Int32), iv (0 : Int32), iv (0 : Int32)]) rfl ?_
      refine XS.iload X50.here hx rfl (hb hby at_461) rfl  ?_
      show Steps p.tables e below (T50.setTop (mkF m 463 #[iv p0, iv p1, iv p2, iv p3, iv p4, iv ii, iv (0 : Int32), rv b7, rv b30, iv (own_i (own_wf 0 (0 : Int32))), iv (1 : Int32), iv (0 : Int32), iv (0 : Int32), iv (0 : Int32)] [(.int (own_i (own_wf 0 (0 : Int32))))])) _
      refine XS.iload X50.here hx rfl (hb hby at_463) rfl  ?_
      refine XS.icmpNo X50.here hx rfl (hb hby at_465) rfl (teq (by exact own_fin_0 : (own_i (own_wf 0 (0 : Int32))) = (0 : Int32))).2 ?_
      show Steps p.tables e below (T50.setTop (mkF m 468 #[iv p0, iv p1, iv p2, iv p3, iv p4, iv ii, iv (0 : Int32), rv b7, rv b30, iv (own_i (own_wf 0 (0 : Int32))), iv (1 : Int32), iv (0 : Int32), iv (0 : Int32), iv (0 : Int32)] [])) _
      refine XS.iconst X50.here hx rfl (hb hby at_468) ?_
      refine XS.goto X50.here hx rfl (pc0 := 469) (pc' := 473) rfl (hb hby at_469) (by decide) (by decide) ?_
      exact k)
    obtain ⟨fs, hr, hrun, hended, hW, hsame⟩ := X50.leave (v := some (.int (1 : Int32))) (fun h => by rw [Bd.returns] at h; cases h)
    refine ⟨_, _, pre0 _ (R52 _ ?_), hrun, hended, _, _, rfl, ?_, ⟨_, rfl⟩, hW, hsame.mono (by decide) (by decide)⟩
    · show Steps p.tables e below (T50.setTop (mkF m 473 #[iv p0, iv p1, iv p2, iv p3, iv p4, iv ii, iv (0 : Int32), rv b7, rv b30, iv (own_i (own_wf 0 (0 : Int32))), iv (1 : Int32), iv (0 : Int32), iv (0 : Int32), iv (0 : Int32)] [(.int (1 : Int32))])) _
      exact retN X50 hx (t := .boolean) Bd.returns (by simp) (hb hby at_473) hr
    · show Q_rmLaw Z p0 p1 p2 p3 p4 fI fD sS sI sF sB h0 n0 _ T50.heap _
      rw [p50_0]
      exact ⟨rfl, N50⟩
  · skip
    have R53 : ∀ t, Steps p.tables e below (T44.setTop (mkF m 84 #[iv p0, iv p1, iv p2, iv p3, iv p4, iv ii, iv (1 : Int32), rv b7, rv b30, .unset, .unset, .unset, .unset, .unset] [(.int (1 : Int32))])) t → Steps p.tables e below (s₁.setTop f0) t := by have q := R47; rw [(hn : nn = (1 : Int32))] at q; exact q
    have R54 : ∀ t, Steps p.tables e below (T44.setTop (mkF m 92 #[iv p0, iv p1, iv p2, iv p3, iv p4, iv ii, iv (1 : Int32), rv b7, rv b30, .unset, .unset, .unset, .unset, .unset] [(.int (0 : Int32)), (.ref b7), (.ref b30)])) t → Steps p.tables e below (s₁.setTop f0) t := fun t k => R53 t (by
      show Steps p.tables e below (T44.setTop (mkF m 84 #[iv p0, iv p1, iv p2, iv p3, iv p4, iv ii, iv (1 : Int32), rv b7, rv b30, .unset, .unset, .unset, .unset, .unset] [(.int (1 : Int32))])) _
      refine XS.ifNo X44.here hx rfl (hb hby at_84) rfl ((if0 _ _).trans (tlt (by decide : (0 : Int32) < (1 : Int32))).2.2.2) ?_
      refine XS.aload X44.here hx rfl (hb hby at_87) rfl rfl ?_
      show Steps p.tables e below (T44.setTop (mkF m 89 #[iv p0, iv p1, iv p2, iv p3, iv p4, iv ii, iv (1 : Int32), rv b7, rv b30, .unset, .unset, .unset, .unset, .unset] [(.ref b30)])) _
      refine XS.aload X44.here hx rfl (hb hby at_89) rfl rfl ?_
      refine XS.iconst X44.here hx rfl (hb hby at_91) ?_
      exact k)
    obtain ⟨cl55, Ar55, q55, S55, n55_, H55, G55⟩ := id vc
    have hin55 : ¬ ((0 : Int32) < 0 ∨ cl55.slots.size ≤ ((0 : Int32)).toNatClampNeg) := inb_of S55 ⟨by decide, by decide⟩
    have hat55 : cl55.slots[((0 : Int32)).toNatClampNeg]? = some (.int c0) := Has.at H55 hin55 rfl
    have R56 : ∀ t, Steps p.tables e below (T44.setTop (mkF m 93 #[iv p0, iv p1, iv p2, iv p3, iv p4, iv ii, iv (1 : Int32), rv b7, rv b30, .unset, .unset, .unset, .unset, .unset] [(.int c0), (.ref b30)])) t → Steps p.tables e below (s₁.setTop f0) t := fun t k => R54 t (X44.caload hx (j := (0 : Int32)) (v := (.int c0)) Ar55.1 (State.isArrayOf_alike hZ.alike Ar55.2.1) Ar55.2.2 hin55 hat55 (g := (mkF m 92 #[iv p0, iv p1, iv p2, iv p3, iv p4, iv ii, iv (1 : Int32), rv b7, rv b30, .unset, .unset, .unset, .unset, .unset] [(.int (0 : Int32)), (.ref b7), (.ref b30)])) rfl rfl (hb hby at_92) _ k)
    obtain ⟨cq57, kq57, q57a, q57b, q57c⟩ := isOf hZ rfl f44_E_b30
    obtain ⟨_, _, ⟨T57, L57, k57, n57⟩, -, X57, ⟨Lc57, hQ57, l57, y57, z57⟩, st57⟩ := X44.virtualBack hx (y := (⟨sN0, "take", "(C)V"⟩ : MethodName)) (z := (⟨sN0, "take", "(C)V"⟩ : MethodName)) hown (mvT hZ (hw _ (List.mem_of_getElem? (i := 51) rfl))) (mvT hZ (hw _ (List.mem_of_getElem? (i := 52) rfl))) (notFace_of_selects (args := #[]) (mvT hZ (hw _ (List.mem_of_getElem? (i := 54) rfl)))) (mvT hZ (hw _ (List.mem_of_getElem? (i := 54) rfl))) (mvT hZ (hw _ (List.mem_of_getElem? (i := 53) rfl))) (by decide) (backOf (W := 0) (rmTake l Z a0 hw [] b30 c0 0 ii (.int (0 : Int32)) (0 : Int32) (0 : Int64) (0 : Int64) (0 : Int64) (0 : Int64) sS sI sF sB (0 : Int) T44.heap n0 z44 f44_E_b30 g_b30 f44_S_NumberText_Part_SIGN f44_S_NumberText_Part_INTEGER f44_S_NumberText_Part_FRACTION f44_S_NumberText_Part_BROKEN ne_sS_sI ne_sS_sF ne_sS_sB ne_sI_sF ne_sI_sB ne_sF_sB (by decide) (by decide) ⟨by decide, by decide⟩ io46 p44_2 p44_3 p44_4 p44_5 p44_6 p44_7 p44_8) hZ (hw _ (List.mem_of_getElem? (i := 55) rfl)) (hw _ (List.mem_of_getElem? (i := 7) rfl)) (by decide) (by decide)) q57a q57c (g := (mkF m 93 #[iv p0, iv p1, iv p2, iv p3, iv p4, iv ii, iv (1 : Int32), rv b7, rv b30, .unset, .unset, .unset, .unset, .unset] [(.int c0), (.ref b30)])) rfl (by rw [hml]; rfl) (Steps.refl _) (argsL := [(.int c0)]) (rest := []) (lenOf pd_10 rfl) rfl (by show 2 * 0 + _ ≤ _; exact Nat.le_of_eq rfl) (hb hby at_93) (fun _ _ => ⟨rfl, rfl, (by decide : 2 + 0 ≤ _), (by decide : 12 + 0 ≤ _)⟩)
    dsimp only [Pt.U, Pt.locs, Pt.cells, Pt.slots] at X57 l57 y57 z57 st57 hQ57
    subst l57 y57 z57
    obtain ⟨ng2_57, id2_57, fd2_57, pz2_57, us2_57, rfl, N57q, p57_0, p57_1, p57_2, p57_3, p57_4, p57_5, p57_6, p57_7, p57_8, p57_9⟩ := hQ57
    have N57 := Fr.app N44 N57q
    have f57_S_SimpleType_Form_INTEGER : Sta Z T57.heap sN4 "INTEGER" sN3 (.ref fI) := own_sta_keep f44_S_SimpleType_Form_INTEGER p57_0 (nsS f44_E_b30.nostat ns0)
    have f57_S_SimpleType_Form_DECIMAL : Sta Z T57.heap sN4 "DECIMAL" sN3 (.ref fD) := own_sta_keep f44_S_SimpleType_Form_DECIMAL p57_0 (nsS f44_E_b30.nostat ns0)
    have f57_S_NumberText_Part_SIGN : Sta Z T57.heap sN1 "SIGN" sN2 (.ref sS) := own_sta_keep f44_S_NumberText_Part_SIGN p57_0 (nsS f44_E_b30.nostat ns0)
    have f57_S_NumberText_Part_INTEGER : Sta Z T57.heap sN1 "INTEGER" sN2 (.ref sI) := own_sta_keep f44_S_NumberText_Part_INTEGER p57_0 (nsS f44_E_b30.nostat ns0)
    have f57_S_NumberText_Part_FRACTION : Sta Z T57.heap sN1 "FRACTION" sN2 (.ref sF) := own_sta_keep f44_S_NumberText_Part_FRACTION p57_0 (nsS f44_E_b30.nostat ns0)
    have f57_S_NumberText_Part_BROKEN : Sta Z T57.heap sN1 "BROKEN" sN2 (.ref sB) := own_sta_keep f44_S_NumberText_Part_BROKEN p57_0 (nsS f44_E_b30.nostat ns0)
    have f57_A_b7 : Arv Z T57.heap b7 k7 .char (4 : Int32) [(.int c0), (.int c1), (.int c2), (.int c3)] (.int (0 : Int32)) := vc.keep p57_0 (ninS ne_b7_b30 nin0)
    have f57_E_b30 : Exa Z T57.heap b30 sN0 := f44_E_b30.keep p57_0
    have z57 : n0 ≤ T57.heap.size := Nat.le_trans z44 p57_0.1
    have K57 : Keep h0 T57.heap [] := K44.trans p57_0 (allS (Or.inr sz_b30) all0)
    have R58 : ∀ t, Steps p.tables e below (T57.setTop (mkF m 96 #[iv p0, iv p1, iv p2, iv p3, iv p4, iv ii, iv (1 : Int32), rv b7, rv b30, .unset, .unset, .unset, .unset, .unset] [])) t → Steps p.tables e below (s₁.setTop f0) t := fun t k => R56 t (st57.trans k)
    obtain ⟨s0, es0⟩ : ∃ z : Nat, z = (own_nx 0 c0 ii) := ⟨_, rfl⟩
    obtain ⟨d0, ed0⟩ : ∃ z : Int32, z = (own_dr 0 c0 (0 : Int32)) := ⟨_, rfl⟩
    have fd0_ : Fld Z T57.heap b30 sN0 "digitRead" "Z" (.int d0) := by rw [ed0]; exact p57_4
    have fp0_ : Fld Z T57.heap b30 sN0 "part" sN2 (.ref (own_ad sS sI sF sB s0)) := by rw [es0]; exact p57_2
    have hs0_ : s0 < 4 := by rw [es0]; exact own_nx4 _ _ _
    have R59 : ∀ t, Steps p.tables e below (T57.setTop (mkF m 143 #[iv p0, iv p1, iv p2, iv p3, iv p4, iv ii, iv (1 : Int32), rv b7, rv b30, .unset, .unset, .unset, .unset, .unset] [(.ref b30)])) t → Steps p.tables e below (s₁.setTop f0) t := fun t k => R58 t (by
      show Steps p.tables e below (T57.setTop (mkF m 96 #[iv p0, iv p1, iv p2, iv p3, iv p4, iv ii, iv (1 : Int32), rv b7, rv b30, .unset, .unset, .unset, .unset, .unset] [])) _
      refine XS.iload X57.here hx rfl (hb hby at_96) rfl  ?_
      refine XS.iconst X57.here hx rfl (hb hby at_98) ?_
      show Steps p.tables e below (T57.setTop (mkF m 99 #[iv p0, iv p1, iv p2, iv p3, iv p4, iv ii, iv (1 : Int32), rv b7, rv b30, .unset, .unset, .unset, .unset, .unset] [(.int (1 : Int32)), (.int (1 : Int32))])) _
      refine XS.icmpYes X57.here hx rfl (pc0 := 99) (pc' := 111) rfl (hb hby at_99) rfl (flt (by decide : ¬ ((1 : Int32) < (1 : Int32)))).2.2.2 (by decide) (by decide) ?_
      refine XS.iload X57.here hx rfl (hb hby at_111) rfl  ?_
      show Steps p.tables e below (T57.setTop (mkF m 113 #[iv p0, iv p1, iv p2, iv p3, iv p4, iv ii, iv (1 : Int32), rv b7, rv b30, .unset, .unset, .unset, .unset, .unset] [(.int (1 : Int32))])) _
      refine XS.iconst X57.here hx rfl (hb hby at_113) ?_
      refine XS.icmpYes X57.here hx rfl (pc0 := 114) (pc' := 126) rfl (hb hby at_114) rfl (flt (by decide : ¬ ((2 : Int32) < (1 : Int32)))).2.2.2 (by decide) (by decide) ?_
      show Steps p.tables e below (T57.setTop (mkF m 126 #[iv p0, iv p1, iv p2, iv p3, iv p4, iv ii, iv (1 : Int32), rv b7, rv b30, .unset, .unset, .unset, .unset, .unset] [])) _
      refine XS.iload X57.here hx rfl (hb hby at_126) rfl  ?_
      refine XS.iconst X57.here hx rfl (hb hby at_128) ?_
      show Steps p.tables e below (T57.setTop (mkF m 129 #[iv p0, iv p1, iv p2, iv p3, iv p4, iv ii, iv (1 : Int32), rv b7, rv b30, .unset, .unset, .unset, .unset, .unset] [(.int (3 : Int32)), (.int (1 : Int32))])) _
      refine XS.icmpYes X57.here hx rfl (pc0 := 129) (pc' := 141) rfl (hb hby at_129) rfl (flt (by decide : ¬ ((3 : Int32) < (1 : Int32)))).2.2.2 (by decide) (by decide) ?_
      refine XS.aload X57.here hx rfl (hb hby at_141) rfl rfl ?_
      exact k)
    obtain ⟨cq60, kq60, q60a, q60b, q60c⟩ := isOf hZ rfl f57_E_b30
    obtain ⟨_, _, ⟨T60, L60, k60, n60⟩, -, X60, ⟨Lc60, hQ60, l60, y60, z60⟩, st60⟩ := X57.virtualBack hx (y := (⟨sN0, "wellFormed", "()Z"⟩ : MethodName)) (z := (⟨sN0, "wellFormed", "()Z"⟩ : MethodName)) hown (mvT hZ (hw _ (List.mem_of_getElem? (i := 43) rfl))) (mvT hZ (hw _ (List.mem_of_getElem? (i := 44) rfl))) (notFace_of_selects (args := #[]) (mvT hZ (hw _ (List.mem_of_getElem? (i := 46) rfl)))) (mvT hZ (hw _ (List.mem_of_getElem? (i := 46) rfl))) (mvT hZ (hw _ (List.mem_of_getElem? (i := 45) rfl))) (by decide) (backOf (W := 0) (rmWf l Z a0 hw [] b30 s0 d0 sS sI sF sB T57.heap n0 z57 f57_S_NumberText_Part_BROKEN ne_sS_sB ne_sI_sB ne_sF_sB hs0_ fp0_ fd0_) hZ (hw _ (List.mem_of_getElem? (i := 47) rfl)) (hw _ (List.mem_of_getElem? (i := 7) rfl)) (by decide) (by decide)) q60a q60c (g := (mkF m 143 #[iv p0, iv p1, iv p2, iv p3, iv p4, iv ii, iv (1 : Int32), rv b7, rv b30, .unset, .unset, .unset, .unset, .unset] [(.ref b30)])) rfl (by rw [hml]; rfl) (Steps.refl _) (argsL := []) (rest := []) (lenOf pd_9 rfl) rfl (by show 2 * 0 + _ ≤ _; exact Nat.le_of_eq rfl) (hb hby at_143) (fun _ _ => ⟨rfl, rfl, (by decide : 2 + 0 ≤ _), (by decide : 12 + 0 ≤ _)⟩)
    dsimp only [Pt.U, Pt.locs, Pt.cells, Pt.slots] at X60 l60 y60 z60 st60 hQ60
    subst l60 y60 z60
    obtain ⟨rfl, N60q, p60_0⟩ := hQ60
    have N60 := Fr.app N57 N60q
    have R61 : ∀ t, Steps p.tables e below (T60.setTop (mkF m 146 #[iv p0, iv p1, iv p2, iv p3, iv p4, iv ii, iv (1 : Int32), rv b7, rv b30, .unset, .unset, .unset, .unset, .unset] [(.int (own_i (own_wf s0 d0)))])) t → Steps p.tables e below (s₁.setTop f0) t := fun t k => R59 t (st60.trans k)
    have R62 : ∀ t, Steps p.tables e below (T60.setTop (mkF m 170 #[iv p0, iv p1, iv p2, iv p3, iv p4, iv ii, iv (1 : Int32), rv b7, rv b30, iv (own_i (own_wf s0 d0)), iv (1 : Int32), iv (0 : Int32), iv (0 : Int32), .unset] [(.int (0 : Int32)), (.ref b7)])) t → Steps p.tables e below (s₁.setTop f0) t := fun t k => R61 t (by
      show Steps p.tables e below (T60.setTop (mkF m 146 #[iv p0, iv p1, iv p2, iv p3, iv p4, iv ii, iv (1 : Int32), rv b7, rv b30, .unset, .unset, .unset, .unset, .unset] [(.int (own_i (own_wf s0 d0)))])) _
      refine XS.istore X60.here hx rfl (hb hby at_146) rfl (l' := #[iv p0, iv p1, iv p2, iv p3, iv p4, iv ii, iv (1 : Int32), rv b7, rv b30, iv (own_i (own_wf s0 d0)), .unset, .unset, .unset, .unset]) rfl ?_
      refine XS.iconst X60.here hx rfl (hb hby at_148) ?_
      show Steps p.tables e below (T60.setTop (mkF m 149 #[iv p0, iv p1, iv p2, iv p3, iv p4, iv ii, iv (1 : Int32), rv b7, rv b30, iv (own_i (own_wf s0 d0)), .unset, .unset, .unset, .unset] [(.int (1 : Int32))])) _
      refine XS.istore X60.here hx rfl (hb hby at_149) rfl (l' := #[iv p0, iv p1, iv p2, iv p3, iv p4, iv ii, iv (1 : Int32), rv b7, rv b30, iv (own_i (own_wf s0 d0)), iv (1 : Int32), .unset, .unset, .unset]) rfl ?_
      refine XS.iconst X60.here hx rfl (hb hby at_151) ?_
      show Steps p.tables e below (T60.setTop (mkF m 152 #[iv p0, iv p1, iv p2, iv p3, iv p4, iv ii, iv (1 : Int32), rv b7, rv b30, iv (own_i (own_wf s0 d0)), iv (1 : Int32), .unset, .unset, .unset] [(.int (0 : Int32))])) _
      refine XS.istore X60.here hx rfl (hb hby at_152) rfl (l' := #[iv p0, iv p1, iv p2, iv p3, iv p4, iv ii, iv (1 : Int32), rv b7, rv b30, iv (own_i (own_wf s0 d0)), iv (1 : Int32), iv (0 : Int32), .unset, .unset]) rfl ?_
      refine XS.iconst X60.here hx rfl (hb hby at_154) ?_
      show Steps p.tables e below (T60.setTop (mkF m 155 #[iv p0, iv p1, iv p2, iv p3, iv p4, iv ii, iv (1 : Int32), rv b7, rv b30, iv (own_i (own_wf s0 d0)), iv (1 : Int32), iv (0 : Int32), .unset, .unset] [(.int (0 : Int32))])) _
      refine XS.istore X60.here hx rfl (hb hby at_155) rfl (l' := #[iv p0, iv p1, iv p2, iv p3, iv p4, iv ii, iv (1 : Int32), rv b7, rv b30, iv (own_i (own_wf s0 d0)), iv (1 : Int32), iv (0 : Int32), iv (0 : Int32), .unset]) rfl ?_
      refine XS.iload X60.here hx rfl (hb hby at_157) rfl  ?_
      show Steps p.tables e below (T60.setTop (mkF m 159 #[iv p0, iv p1, iv p2, iv p3, iv p4, iv ii, iv (1 : Int32), rv b7, rv b30, iv (own_i (own_wf s0 d0)), iv (1 : Int32), iv (0 : Int32), iv (0 : Int32), .unset] [(.int (1 : Int32))])) _
      refine XS.ifNo X60.here hx rfl (hb hby at_159) rfl ((if0 _ _).trans (tlt (by decide : (0 : Int32) < (1 : Int32))).2.2.2) ?_
      refine XS.iload X60.here hx rfl (hb hby at_162) rfl  ?_
      show Steps p.tables e below (T60.setTop (mkF m 164 #[iv p0, iv p1, iv p2, iv p3, iv p4, iv ii, iv (1 : Int32), rv b7, rv b30, iv (own_i (own_wf s0 d0)), iv (1 : Int32), iv (0 : Int32), iv (0 : Int32), .unset] [(.int (1 : Int32))])) _
      refine XS.ifNo X60.here hx rfl (hb hby at_164) rfl ((if0 _ _).trans (feq (by decide : ¬ ((1 : Int32) = (0 : Int32)))).1) ?_
      refine XS.aload X60.here hx rfl (hb hby at_167) rfl rfl ?_
      show Steps p.tables e below (T60.setTop (mkF m 169 #[iv p0, iv p1, iv p2, iv p3, iv p4, iv ii, iv (1 : Int32), rv b7, rv b30, iv (own_i (own_wf s0 d0)), iv (1 : Int32), iv (0 : Int32), iv (0 : Int32), .unset] [(.ref b7)])) _
      refine XS.iconst X60.here hx rfl (hb hby at_169) ?_
      exact k)
    obtain ⟨cl63, Ar63, q63, S63, n63_, H63, G63⟩ := id f57_A_b7
    have hin63 : ¬ ((0 : Int32) < 0 ∨ cl63.slots.size ≤ ((0 : Int32)).toNatClampNeg) := inb_of S63 ⟨by decide, by decide⟩
    have hat63 : cl63.slots[((0 : Int32)).toNatClampNeg]? = some (.int c0) := Has.at H63 hin63 rfl
    have R64 : ∀ t, Steps p.tables e below (T60.setTop (mkF m 171 #[iv p0, iv p1, iv p2, iv p3, iv p4, iv ii, iv (1 : Int32), rv b7, rv b30, iv (own_i (own_wf s0 d0)), iv (1 : Int32), iv (0 : Int32), iv (0 : Int32), .unset] [(.int c0)])) t → Steps p.tables e below (s₁.setTop f0) t := fun t k => R62 t (X60.caload hx (j := (0 : Int32)) (v := (.int c0)) (by rw [p60_0]; exact Ar63.1) (State.isArrayOf_alike hZ.alike Ar63.2.1) Ar63.2.2 hin63 hat63 (g := (mkF m 170 #[iv p0, iv p1, iv p2, iv p3, iv p4, iv ii, iv (1 : Int32), rv b7, rv b30, iv (own_i (own_wf s0 d0)), iv (1 : Int32), iv (0 : Int32), iv (0 : Int32), .unset] [(.int (0 : Int32)), (.ref b7)])) rfl rfl (hb hby at_170) _ k)
    have R65 : ∀ t, Steps p.tables e below (T60.setTop (mkF m 172 #[iv p0, iv p1, iv p2, iv p3, iv p4, iv ii, iv (1 : Int32), rv b7, rv b30, iv (own_i (own_wf s0 d0)), iv (1 : Int32), iv (0 : Int32), iv (0 : Int32), .unset] [(.int (0 : Int32)), (.int c0)])) t → Steps p.tables e below (s₁.setTop f0) t := fun t k => R64 t (by
      show Steps p.tables e below (T60.setTop (mkF m 171 #[iv p0, iv p1, iv p2, iv p3, iv p4, iv ii, iv (1 : Int32), rv b7, rv b30, iv (own_i (own_wf s0 d0)), iv (1 : Int32), iv (0 : Int32), iv (0 : Int32), .unset] [(.int c0)])) _
      refine XS.iconst X60.here hx rfl (hb hby at_171) ?_
      exact k)
    obtain ⟨_, _, ⟨T66, L66, k66, n66⟩, -, X66, ⟨Lc66, hQ66, l66, y66, z66⟩, st66⟩ := Jvm.LawKit.callS X60 hx (y := (⟨sN5, "allowed", "(CI)Z"⟩ : MethodName)) hown (mvT hZ (hw _ (List.mem_of_getElem? (i := 73) rfl))) (mvT hZ (hw _ (List.mem_of_getElem? (i := 74) rfl))) (mvT hZ (hw _ (List.mem_of_getElem? (i := 3) rfl))) (mvT hZ (hw _ (List.mem_of_getElem? (i := 75) rfl))) (by decide) (backOf (W := 0) (rmAll l Z a0 hw [] c0 (0 : Int32) T57.heap n0 z57) hZ (hw _ (List.mem_of_getElem? (i := 75) rfl)) (hw _ (List.mem_of_getElem? (i := 3) rfl)) (by decide) (by decide)) (g := (mkF m 172 #[iv p0, iv p1, iv p2, iv p3, iv p4, iv ii, iv (1 : Int32), rv b7, rv b30, iv (own_i (own_wf s0 d0)), iv (1 : Int32), iv (0 : Int32), iv (0 : Int32), .unset] [(.int (0 : Int32)), (.int c0)])) rfl (by rw [hml]; rfl) (argsL := [(.int c0), (.int (0 : Int32))]) (rest := []) (lenOf pd_11 rfl) rfl (by show 2 * 0 + _ ≤ _; exact Nat.le_of_eq rfl) (hb hby at_172) (fun _ _ => ⟨rfl, p60_0, (by decide : 2 + 0 ≤ _), (by decide : 12 + 0 ≤ _)⟩)
    dsimp only [Pt.U, Pt.locs, Pt.cells, Pt.slots] at X66 l66 y66 z66 st66 hQ66
    subst l66 y66 z66
    obtain ⟨rfl, N66q, p66_0⟩ := hQ66
    have N66 := Fr.app N60 N66q
    have R67 : ∀ t, Steps p.tables e below (T66.setTop (mkF m 175 #[iv p0, iv p1, iv p2, iv p3, iv p4, iv ii, iv (1 : Int32), rv b7, rv b30, iv (own_i (own_wf s0 d0)), iv (1 : Int32), iv (0 : Int32), iv (0 : Int32), .unset] [(.int (own_i (own_al c0 (0 : Int32))))])) t → Steps p.tables e below (s₁.setTop f0) t := fun t k => R65 t (st66 t k)
    have R68 : ∀ t, Steps p.tables e below (T66.setTop (mkF m 183 #[iv p0, iv p1, iv p2, iv p3, iv p4, iv ii, iv (1 : Int32), rv b7, rv b30, iv (own_i (own_wf s0 d0)), iv (1 : Int32), iv (0 : Int32), iv (0 : Int32), .unset] [(.int (own_i (own_al c0 (0 : Int32))))])) t → Steps p.tables e below (s₁.setTop f0) t := by
      intro t k
      refine R67 t ?_
      by_cases hm1 : (own_i (own_al c0 (0 : Int32))) = (0 : Int32)
      · skip
        show Steps p.tables e below (T66.setTop (mkF m 175 #[iv p0, iv p1, iv p2, iv p3, iv p4, iv ii, iv (1 : Int32), rv b7, rv b30, iv (own_i (own_wf s0 d0)), iv (1 : Int32), iv (0 : Int32), iv (0 : Int32), .unset] [(.int (own_i (own_al c0 (0 : Int32))))])) _
        refine XS.ifYes X66.here hx rfl (pc0 := 175) (pc' := 182) rfl (hb hby at_175) rfl ((if0 _ _).trans (teq hm1).1) (by decide) (by decide) ?_
        refine XS.iconst X66.here hx rfl (hb hby at_182) ?_
        have hv : (own_i (own_al c0 (0 : Int32))) = (0 : Int32) := by (try simp only [lw_gt, lw_lt, lw_eq, own_i_eq0, Bool.not_eq_false] at hm1); simp [own_i, hm1]
        rw [hv] at k
        exact k
      · skip
        show Steps p.tables e below (T66.setTop (mkF m 175 #[iv p0, iv p1, iv p2, iv p3, iv p4, iv ii, iv (1 : Int32), rv b7, rv b30, iv (own_i (own_wf s0 d0)), iv (1 : Int32), iv (0 : Int32), iv (0 : Int32), .unset] [(.int (own_i (own_al c0 (0 : Int32))))])) _
        refine XS.ifNo X66.here hx rfl (hb hby at_175) rfl ((if0 _ _).trans (feq hm1).1) ?_
        refine XS.iconst X66.here hx rfl (hb hby at_178) ?_
        show Steps p.tables e below (T66.setTop (mkF m 179 #[iv p0, iv p1, iv p2, iv p3, iv p4, iv ii, iv (1 : Int32), rv b7, rv b30, iv (own_i (own_wf s0 d0)), iv (1 : Int32), iv (0 : Int32), iv (0 : Int32), .unset] [(.int (1 : Int32))])) _
        refine XS.goto X66.here hx rfl (pc0 := 179) (pc' := 183) rfl (hb hby at_179) (by decide) (by decide) ?_
        have hv : (own_i (own_al c0 (0 : Int32))) = (1 : Int32) := by (try simp only [lw_gt, lw_lt, lw_eq, own_i_eq0, Bool.not_eq_false] at hm1); simp [own_i, hm1]
        rw [hv] at k
        exact k
    have R69 : ∀ t, Steps p.tables e below (T66.setTop (mkF m 190 #[iv p0, iv p1, iv p2, iv p3, iv p4, iv ii, iv (1 : Int32), rv b7, rv b30, iv (own_i (own_wf s0 d0)), iv (own_i (own_al c0 (0 : Int32))), iv (0 : Int32), iv (0 : Int32), .unset] [(.int (0 : Int32)), (.ref b7), (.int (0 : Int32))])) t → Steps p.tables e below (s₁.setTop f0) t := fun t k => R68 t (by
      show Steps p.tables e below (T66.setTop (mkF m 183 #[iv p0, iv p1, iv p2, iv p3, iv p4, iv ii, iv (1 : Int32), rv b7, rv b30, iv (own_i (own_wf s0 d0)), iv (1 : Int32), iv (0 : Int32), iv (0 : Int32), .unset] [(.int (own_i (own_al c0 (0 : Int32))))])) _
      refine XS.istore X66.here hx rfl (hb hby at_183) rfl (l' := #[iv p0, iv p1, iv p2, iv p3, iv p4, iv ii, iv (1 : Int32), rv b7, rv b30, iv (own_i (own_wf s0 d0)), iv (own_i (own_al c0 (0 : Int32))), iv (0 : Int32), iv (0 : Int32), .unset]) rfl ?_
      refine XS.iload X66.here hx rfl (hb hby at_185) rfl  ?_
      show Steps p.tables e below (T66.setTop (mkF m 187 #[iv p0, iv p1, iv p2, iv p3, iv p4, iv ii, iv (1 : Int32), rv b7, rv b30, iv (own_i (own_wf s0 d0)), iv (own_i (own_al c0 (0 : Int32))), iv (0 : Int32), iv (0 : Int32), .unset] [(.int (0 : Int32))])) _
      refine XS.aload X66.here hx rfl (hb hby at_187) rfl rfl ?_
      refine XS.iconst X66.here hx rfl (hb hby at_189) ?_
      exact k)
    obtain ⟨cl70, Ar70, q70, S70, n70_, H70, G70⟩ := id f57_A_b7
    have hin70 : ¬ ((0 : Int32) < 0 ∨ cl70.slots.size ≤ ((0 : Int32)).toNatClampNeg) := inb_of S70 ⟨by decide, by decide⟩
    have hat70 : cl70.slots[((0 : Int32)).toNatClampNeg]? = some (.int c0) := Has.at H70 hin70 rfl
    have R71 : ∀ t, Steps p.tables e below (T66.setTop (mkF m 191 #[iv p0, iv p1, iv p2, iv p3, iv p4, iv ii, iv (1 : Int32), rv b7, rv b30, iv (own_i (own_wf s0 d0)), iv (own_i (own_al c0 (0 : Int32))), iv (0 : Int32), iv (0 : Int32), .unset] [(.int c0), (.int (0 : Int32))])) t → Steps p.tables e below (s₁.setTop f0) t := fun t k => R69 t (X66.caload hx (j := (0 : Int32)) (v := (.int c0)) (by rw [p66_0]; exact Ar70.1) (State.isArrayOf_alike hZ.alike Ar70.2.1) Ar70.2.2 hin70 hat70 (g := (mkF m 190 #[iv p0, iv p1, iv p2, iv p3, iv p4, iv ii, iv (1 : Int32), rv b7, rv b30, iv (own_i (own_wf s0 d0)), iv (own_i (own_al c0 (0 : Int32))), iv (0 : Int32), iv (0 : Int32), .unset] [(.int (0 : Int32)), (.ref b7), (.int (0 : Int32))])) rfl rfl (hb hby at_190) _ k)
    obtain ⟨_, _, ⟨T72, L72, k72, n72⟩, -, X72, ⟨Lc72, hQ72, l72, y72, z72⟩, st72⟩ := Jvm.LawKit.callS X66 hx (y := (⟨sN5, "isDigit", "(C)Z"⟩ : MethodName)) hown (mvT hZ (hw _ (List.mem_of_getElem? (i := 76) rfl))) (mvT hZ (hw _ (List.mem_of_getElem? (i := 77) rfl))) (mvT hZ (hw _ (List.mem_of_getElem? (i := 3) rfl))) (mvT hZ (hw _ (List.mem_of_getElem? (i := 78) rfl))) (by decide) (backOf (W := 1) (rmIsd l Z a0 hw [] c0 T57.heap n0 z57) hZ (hw _ (List.mem_of_getElem? (i := 78) rfl)) (hw _ (List.mem_of_getElem? (i := 3) rfl)) (by decide) (by decide)) (g := (mkF m 191 #[iv p0, iv p1, iv p2, iv p3, iv p4, iv ii, iv (1 : Int32), rv b7, rv b30, iv (own_i (own_wf s0 d0)), iv (own_i (own_al c0 (0 : Int32))), iv (0 : Int32), iv (0 : Int32), .unset] [(.int c0), (.int (0 : Int32))])) rfl (by rw [hml]; rfl) (argsL := [(.int c0)]) (rest := [(.int (0 : Int32))]) (lenOf pd_5 rfl) rfl (by show 2 * 0 + _ ≤ _; exact Nat.le_of_eq rfl) (hb hby at_191) (fun _ _ => ⟨rfl, p66_0, (by decide : 2 + 0 ≤ _), (by decide : 12 + 0 ≤ _)⟩)
    dsimp only [Pt.U, Pt.locs, Pt.cells, Pt.slots] at X72 l72 y72 z72 st72 hQ72
    subst l72 y72 z72
    obtain ⟨rfl, N72q, p72_0⟩ := hQ72
    have N72 := Fr.app N66 N72q
    have R73 : ∀ t, Steps p.tables e below (T72.setTop (mkF m 194 #[iv p0, iv p1, iv p2, iv p3, iv p4, iv ii, iv (1 : Int32), rv b7, rv b30, iv (own_i (own_wf s0 d0)), iv (own_i (own_al c0 (0 : Int32))), iv (0 : Int32), iv (0 : Int32), .unset] [(.int (own_i (own_D c0))), (.int (0 : Int32))])) t → Steps p.tables e below (s₁.setTop f0) t := fun t k => R71 t (st72 t k)
    have R74 : ∀ t, Steps p.tables e below (T72.setTop (mkF m 202 #[iv p0, iv p1, iv p2, iv p3, iv p4, iv ii, iv (1 : Int32), rv b7, rv b30, iv (own_i (own_wf s0 d0)), iv (own_i (own_al c0 (0 : Int32))), iv (0 : Int32), iv (0 : Int32), .unset] [(.int (own_i (own_D c0))), (.int (0 : Int32))])) t → Steps p.tables e below (s₁.setTop f0) t := by
      intro t k
      refine R73 t ?_
      by_cases hm1 : (own_i (own_D c0)) = (0 : Int32)
      · skip
        show Steps p.tables e below (T72.setTop (mkF m 194 #[iv p0, iv p1, iv p2, iv p3, iv p4, iv ii, iv (1 : Int32), rv b7, rv b30, iv (own_i (own_wf s0 d0)), iv (own_i (own_al c0 (0 : Int32))), iv (0 : Int32), iv (0 : Int32), .unset] [(.int (own_i (own_D c0))), (.int (0 : Int32))])) _
        refine XS.ifYes X72.here hx rfl (pc0 := 194) (pc' := 201) rfl (hb hby at_194) rfl ((if0 _ _).trans (teq hm1).1) (by decide) (by decide) ?_
        refine XS.iconst X72.here hx rfl (hb hby at_201) ?_
        have hv : (own_i (own_D c0)) = (0 : Int32) := by (try simp only [lw_gt, lw_lt, lw_eq, own_i_eq0, Bool.not_eq_false] at hm1); simp [own_i, hm1]
        rw [hv] at k
        exact k
      · skip
        show Steps p.tables e below (T72.setTop (mkF m 194 #[iv p0, iv p1, iv p2, iv p3, iv p4, iv ii, iv (1 : Int32), rv b7, rv b30, iv (own_i (own_wf s0 d0)), iv (own_i (own_al c0 (0 : Int32))), iv (0 : Int32), iv (0 : Int32), .unset] [(.int (own_i (own_D c0))), (.int (0 : Int32))])) _
        refine XS.ifNo X72.here hx rfl (hb hby at_194) rfl ((if0 _ _).trans (feq hm1).1) ?_
        refine XS.iconst X72.here hx rfl (hb hby at_197) ?_
        show Steps p.tables e below (T72.setTop (mkF m 198 #[iv p0, iv p1, iv p2, iv p3, iv p4, iv ii, iv (1 : Int32), rv b7, rv b30, iv (own_i (own_wf s0 d0)), iv (own_i (own_al c0 (0 : Int32))), iv (0 : Int32), iv (0 : Int32), .unset] [(.int (1 : Int32)), (.int (0 : Int32))])) _
        refine XS.goto X72.here hx rfl (pc0 := 198) (pc' := 202) rfl (hb hby at_198) (by decide) (by decide) ?_
        have hv : (own_i (own_D c0)) = (1 : Int32) := by (try simp only [lw_gt, lw_lt, lw_eq, own_i_eq0, Bool.not_eq_false] at hm1); simp [own_i, hm1]
        rw [hv] at k
        exact k
    have R75 : ∀ t, Steps p.tables e below (T72.setTop (mkF m 210 #[iv p0, iv p1, iv p2, iv p3, iv p4, iv ii, iv (1 : Int32), rv b7, rv b30, iv (own_i (own_wf s0 d0)), iv (own_i (own_al c0 (0 : Int32))), iv ((0 : Int32) + (own_i (own_D c0))), iv (0 : Int32), .unset] [(.int (0 : Int32)), (.ref b7), (.int (0 : Int32))])) t → Steps p.tables e below (s₁.setTop f0) t := fun t k => R74 t (by
      show Steps p.tables e below (T72.setTop (mkF m 202 #[iv p0, iv p1, iv p2, iv p3, iv p4, iv ii, iv (1 : Int32), rv b7, rv b30, iv (own_i (own_wf s0 d0)), iv (own_i (own_al c0 (0 : Int32))), iv (0 : Int32), iv (0 : Int32), .unset] [(.int (own_i (own_D c0))), (.int (0 : Int32))])) _
      refine XS.iadd X72.here hx rfl (hb hby at_202) rfl ?_
      refine XS.istore X72.here hx rfl (hb hby at_203) rfl (l' := #[iv p0, iv p1, iv p2, iv p3, iv p4, iv ii, iv (1 : Int32), rv b7, rv b30, iv (own_i (own_wf s0 d0)), iv (own_i (own_al c0 (0 : Int32))), iv ((0 : Int32) + (own_i (own_D c0))), iv (0 : Int32), .unset]) rfl ?_
      show Steps p.tables e below (T72.setTop (mkF m 205 #[iv p0, iv p1, iv p2, iv p3, iv p4, iv ii, iv (1 : Int32), rv b7, rv b30, iv (own_i (own_wf s0 d0)), iv (own_i (own_al c0 (0 : Int32))), iv ((0 : Int32) + (own_i (own_D c0))), iv (0 : Int32), .unset] [])) _
      refine XS.iload X72.here hx rfl (hb hby at_205) rfl  ?_
      refine XS.aload X72.here hx rfl (hb hby at_207) rfl rfl ?_
      show Steps p.tables e below (T72.setTop (mkF m 209 #[iv p0, iv p1, iv p2, iv p3, iv p4, iv ii, iv (1 : Int32), rv b7, rv b30, iv (own_i (own_wf s0 d0)), iv (own_i (own_al c0 (0 : Int32))), iv ((0 : Int32) + (own_i (own_D c0))), iv (0 : Int32), .unset] [(.ref b7), (.int (0 : Int32))])) _
      refine XS.iconst X72.here hx rfl (hb hby at_209) ?_
      exact k)
    obtain ⟨cl76, Ar76, q76, S76, n76_, H76, G76⟩ := id f57_A_b7
    have hin76 : ¬ ((0 : Int32) < 0 ∨ cl76.slots.size ≤ ((0 : Int32)).toNatClampNeg) := inb_of S76 ⟨by decide, by decide⟩
    have hat76 : cl76.slots[((0 : Int32)).toNatClampNeg]? = some (.int c0) := Has.at H76 hin76 rfl
    have R77 : ∀ t, Steps p.tables e below (T72.setTop (mkF m 211 #[iv p0, iv p1, iv p2, iv p3, iv p4, iv ii, iv (1 : Int32), rv b7, rv b30, iv (own_i (own_wf s0 d0)), iv (own_i (own_al c0 (0 : Int32))), iv ((0 : Int32) + (own_i (own_D c0))), iv (0 : Int32), .unset] [(.int c0), (.int (0 : Int32))])) t → Steps p.tables e below (s₁.setTop f0) t := fun t k => R75 t (X72.caload hx (j := (0 : Int32)) (v := (.int c0)) (by rw [p72_0]; exact Ar76.1) (State.isArrayOf_alike hZ.alike Ar76.2.1) Ar76.2.2 hin76 hat76 (g := (mkF m 210 #[iv p0, iv p1, iv p2, iv p3, iv p4, iv ii, iv (1 : Int32), rv b7, rv b30, iv (own_i (own_wf s0 d0)), iv (own_i (own_al c0 (0 : Int32))), iv ((0 : Int32) + (own_i (own_D c0))), iv (0 : Int32), .unset] [(.int (0 : Int32)), (.ref b7), (.int (0 : Int32))])) rfl rfl (hb hby at_210) _ k)
    have R78 : ∀ t, Steps p.tables e below (T72.setTop (mkF m 213 #[iv p0, iv p1, iv p2, iv p3, iv p4, iv ii, iv (1 : Int32), rv b7, rv b30, iv (own_i (own_wf s0 d0)), iv (own_i (own_al c0 (0 : Int32))), iv ((0 : Int32) + (own_i (own_D c0))), iv (0 : Int32), .unset] [(.int (46 : Int32)), (.int c0), (.int (0 : Int32))])) t → Steps p.tables e below (s₁.setTop f0) t := fun t k => R77 t (by
      show Steps p.tables e below (T72.setTop (mkF m 211 #[iv p0, iv p1, iv p2, iv p3, iv p4, iv ii, iv (1 : Int32), rv b7, rv b30, iv (own_i (own_wf s0 d0)), iv (own_i (own_al c0 (0 : Int32))), iv ((0 : Int32) + (own_i (own_D c0))), iv (0 : Int32), .unset] [(.int c0), (.int (0 : Int32))])) _
      refine XS.bipush X72.here hx rfl (hb hby at_211) ?_
      exact k)
    have R79 : ∀ t, Steps p.tables e below (T72.setTop (mkF m 221 #[iv p0, iv p1, iv p2, iv p3, iv p4, iv ii, iv (1 : Int32), rv b7, rv b30, iv (own_i (own_wf s0 d0)), iv (own_i (own_al c0 (0 : Int32))), iv ((0 : Int32) + (own_i (own_D c0))), iv (0 : Int32), .unset] [(.int (own_i (own_P c0))), (.int (0 : Int32))])) t → Steps p.tables e below (s₁.setTop f0) t := by
      intro t k
      refine R78 t ?_
      by_cases hm1 : c0 = (46 : Int32)
      · skip
        show Steps p.tables e below (T72.setTop (mkF m 213 #[iv p0, iv p1, iv p2, iv p3, iv p4, iv ii, iv (1 : Int32), rv b7, rv b30, iv (own_i (own_wf s0 d0)), iv (own_i (own_al c0 (0 : Int32))), iv ((0 : Int32) + (own_i (own_D c0))), iv (0 : Int32), .unset] [(.int (46 : Int32)), (.int c0), (.int (0 : Int32))])) _
        refine XS.icmpNo X72.here hx rfl (hb hby at_213) rfl (teq hm1).2 ?_
        refine XS.iconst X72.here hx rfl (hb hby at_216) ?_
        show Steps p.tables e below (T72.setTop (mkF m 217 #[iv p0, iv p1, iv p2, iv p3, iv p4, iv ii, iv (1 : Int32), rv b7, rv b30, iv (own_i (own_wf s0 d0)), iv (own_i (own_al c0 (0 : Int32))), iv ((0 : Int32) + (own_i (own_D c0))), iv (0 : Int32), .unset] [(.int (1 : Int32)), (.int (0 : Int32))])) _
        refine XS.goto X72.here hx rfl (pc0 := 217) (pc' := 221) rfl (hb hby at_217) (by decide) (by decide) ?_
        have hv : (own_i (own_P c0)) = (1 : Int32) := by (try simp only [lw_gt, lw_lt, lw_eq, own_i_eq0, Bool.not_eq_false] at hm1); simp [own_i, own_P, hm1]
        rw [hv] at k
        exact k
      · skip
        show Steps p.tables e below (T72.setTop (mkF m 213 #[iv p0, iv p1, iv p2, iv p3, iv p4, iv ii, iv (1 : Int32), rv b7, rv b30, iv (own_i (own_wf s0 d0)), iv (own_i (own_al c0 (0 : Int32))), iv ((0 : Int32) + (own_i (own_D c0))), iv (0 : Int32), .unset] [(.int (46 : Int32)), (.int c0), (.int (0 : Int32))])) _
        refine XS.icmpYes X72.here hx rfl (pc0 := 213) (pc' := 220) rfl (hb hby at_213) rfl (feq hm1).2 (by decide) (by decide) ?_
        refine XS.iconst X72.here hx rfl (hb hby at_220) ?_
        have hv : (own_i (own_P c0)) = (0 : Int32) := by (try simp only [lw_gt, lw_lt, lw_eq, own_i_eq0, Bool.not_eq_false] at hm1); simp [own_i, own_P, hm1]
        rw [hv] at k
        exact k
    have R80 : ∀ t, Steps p.tables e below (T72.setTop (mkF m 428 #[iv p0, iv p1, iv p2, iv p3, iv p4, iv ii, iv (1 : Int32), rv b7, rv b30, iv (own_i (own_wf s0 d0)), iv (own_i (own_al c0 (0 : Int32))), iv ((0 : Int32) + (own_i (own_D c0))), iv ((0 : Int32) + (own_i (own_P c0))), .unset] [])) t → Steps p.tables e below (s₁.setTop f0) t := fun t k => R79 t (by
      show Steps p.tables e below (T72.setTop (mkF m 221 #[iv p0, iv p1, iv p2, iv p3, iv p4, iv ii, iv (1 : Int32), rv b7, rv b30, iv (own_i (own_wf s0 d0)), iv (own_i (own_al c0 (0 : Int32))), iv ((0 : Int32) + (own_i (own_D c0))), iv (0 : Int32), .unset] [(.int (own_i (own_P c0))), (.int (0 : Int32))])) _
      refine XS.iadd X72.here hx rfl (hb hby at_221) rfl ?_
      refine XS.istore X72.here hx rfl (hb hby at_222) rfl (l' := #[iv p0, iv p1, iv p2, iv p3, iv p4, iv ii, iv (1 : Int32), rv b7, rv b30, iv (own_i (own_wf s0 d0)), iv (own_i (own_al c0 (0 : Int32))), iv ((0 : Int32) + (own_i (own_D c0))), iv ((0 : Int32) + (own_i (own_P c0))), .unset]) rfl ?_
      show Steps p.tables e below (T72.setTop (mkF m 224 #[iv p0, iv p1, iv p2, iv p3, iv p4, iv ii, iv (1 : Int32), rv b7, rv b30, iv (own_i (own_wf s0 d0)), iv (own_i (own_al c0 (0 : Int32))), iv ((0 : Int32) + (own_i (own_D c0))), iv ((0 : Int32) + (own_i (own_P c0))), .unset] [])) _
      refine XS.iload X72.here hx rfl (hb hby at_224) rfl  ?_
      refine XS.iconst X72.here hx rfl (hb hby at_226) ?_
      show Steps p.tables e below (T72.setTop (mkF m 227 #[iv p0, iv p1, iv p2, iv p3, iv p4, iv ii, iv (1 : Int32), rv b7, rv b30, iv (own_i (own_wf s0 d0)), iv (own_i (own_al c0 (0 : Int32))), iv ((0 : Int32) + (own_i (own_D c0))), iv ((0 : Int32) + (own_i (own_P c0))), .unset] [(.int (1 : Int32)), (.int (1 : Int32))])) _
      refine XS.icmpYes X72.here hx rfl (pc0 := 227) (pc' := 292) rfl (hb hby at_227) rfl (flt (by decide : ¬ ((1 : Int32) < (1 : Int32)))).2.2.2 (by decide) (by decide) ?_
      refine XS.iload X72.here hx rfl (hb hby at_292) rfl  ?_
      show Steps p.tables e below (T72.setTop (mkF m 294 #[iv p0, iv p1, iv p2, iv p3, iv p4, iv ii, iv (1 : Int32), rv b7, rv b30, iv (own_i (own_wf s0 d0)), iv (own_i (own_al c0 (0 : Int32))), iv ((0 : Int32) + (own_i (own_D c0))), iv ((0 : Int32) + (own_i (own_P c0))), .unset] [(.int (1 : Int32))])) _
      refine XS.iconst X72.here hx rfl (hb hby at_294) ?_
      refine XS.icmpYes X72.here hx rfl (pc0 := 295) (pc' := 360) rfl (hb hby at_295) rfl (flt (by decide : ¬ ((2 : Int32) < (1 : Int32)))).2.2.2 (by decide) (by decide) ?_
      show Steps p.tables e below (T72.setTop (mkF m 360 #[iv p0, iv p1, iv p2, iv p3, iv p4, iv ii, iv (1 : Int32), rv b7, rv b30, iv (own_i (own_wf s0 d0)), iv (own_i (own_al c0 (0 : Int32))), iv ((0 : Int32) + (own_i (own_D c0))), iv ((0 : Int32) + (own_i (own_P c0))), .unset] [])) _
      refine XS.iload X72.here hx rfl (hb hby at_360) rfl  ?_
      refine XS.iconst X72.here hx rfl (hb hby at_362) ?_
      show Steps p.tables e below (T72.setTop (mkF m 363 #[iv p0, iv p1, iv p2, iv p3, iv p4, iv ii, iv (1 : Int32), rv b7, rv b30, iv (own_i (own_wf s0 d0)), iv (own_i (own_al c0 (0 : Int32))), iv ((0 : Int32) + (own_i (own_D c0))), iv ((0 : Int32) + (own_i (own_P c0))), .unset] [(.int (3 : Int32)), (.int (1 : Int32))])) _
      refine XS.icmpYes X72.here hx rfl (pc0 := 363) (pc' := 428) rfl (hb hby at_363) rfl (flt (by decide : ¬ ((3 : Int32) < (1 : Int32)))).2.2.2 (by decide) (by decide) ?_
      exact k)
    obtain ⟨dg, e_dg⟩ : ∃ z : Int32, z = ((0 : Int32) + (own_i (own_D c0))) := ⟨_, rfl⟩
    have R81 : ∀ t, Steps p.tables e below (T72.setTop (mkF m 428 #[iv p0, iv p1, iv p2, iv p3, iv p4, iv ii, iv (1 : Int32), rv b7, rv b30, iv (own_i (own_wf s0 d0)), iv (own_i (own_al c0 (0 : Int32))), iv dg, iv ((0 : Int32) + (own_i (own_P c0))), .unset] [])) t → Steps p.tables e below (s₁.setTop f0) t := by have q := R80; rw [← e_dg] at q; exact q
    obtain ⟨dt, e_dt⟩ : ∃ z : Int32, z = ((0 : Int32) + (own_i (own_P c0))) := ⟨_, rfl⟩
    have R82 : ∀ t, Steps p.tables e below (T72.setTop (mkF m 428 #[iv p0, iv p1, iv p2, iv p3, iv p4, iv ii, iv (1 : Int32), rv b7, rv b30, iv (own_i (own_wf s0 d0)), iv (own_i (own_al c0 (0 : Int32))), iv dg, iv dt, .unset] [])) t → Steps p.tables e below (s₁.setTop f0) t := by have q := R81; rw [← e_dt] at q; exact q
    have R83 : ∀ t, Steps p.tables e below (T72.setTop (mkF m 430 #[iv p0, iv p1, iv p2, iv p3, iv p4, iv ii, iv (1 : Int32), rv b7, rv b30, iv (own_i (own_wf s0 d0)), iv (own_i (own_al c0 (0 : Int32))), iv dg, iv dt, .unset] [(.int (own_i (own_al c0 (0 : Int32))))])) t → Steps p.tables e below (s₁.setTop f0) t := fun t k => R82 t (by
      show Steps p.tables e below (T72.setTop (mkF m 428 #[iv p0, iv p1, iv p2, iv p3, iv p4, iv ii, iv (1 : Int32), rv b7, rv b30, iv (own_i (own_wf s0 d0)), iv (own_i (own_al c0 (0 : Int32))), iv dg, iv dt, .unset] [])) _
      refine XS.iload X72.here hx rfl (hb hby at_428) rfl  ?_
      exact k)
    have R84 : ∀ t, Steps p.tables e below (T72.setTop (mkF m 459 #[iv p0, iv p1, iv p2, iv p3, iv p4, iv ii, iv (1 : Int32), rv b7, rv b30, iv (own_i (own_wf s0 d0)), iv (own_i (own_al c0 (0 : Int32))), iv dg, iv dt, .unset] [(.int (own_i ((own_al c0 (0 : Int32)) && ! decide (dg < (1 : Int32)) && ! decide ((own_lim ii) < dt))))])) t → Steps p.tables e below (s₁.setTop f0) t := by
      intro t k
      refine R83 t ?_
      by_cases hm1 : (own_i (own_al c0 (0 : Int32))) = (0 : Int32)
      · skip
        show Steps p.tables e below (T72.setTop (mkF m 430 #[iv p0, iv p1, iv p2, iv p3, iv p4, iv ii, iv (1 : Int32), rv b7, rv b30, iv (own_i (own_wf s0 d0)), iv (own_i (own_al c0 (0 : Int32))), iv dg, iv dt, .unset] [(.int (own_i (own_al c0 (0 : Int32))))])) _
        refine XS.ifYes X72.here hx rfl (pc0 := 430) (pc' := 458) rfl (hb hby at_430) rfl ((if0 _ _).trans (teq hm1).1) (by decide) (by decide) ?_
        refine XS.iconst X72.here hx rfl (hb hby at_458) ?_
        have hv : (own_i ((own_al c0 (0 : Int32)) && ! decide (dg < (1 : Int32)) && ! decide ((own_lim ii) < dt))) = (0 : Int32) := by (try simp only [lw_gt, lw_lt, lw_eq, own_i_eq0, Bool.not_eq_false] at hm1); simp [own_i, own_lim, own_limB, hm1]
        rw [hv] at k
        exact k
      · skip
        show Steps p.tables e below (T72.setTop (mkF m 430 #[iv p0, iv p1, iv p2, iv p3, iv p4, iv ii, iv (1 : Int32), rv b7, rv b30, iv (own_i (own_wf s0 d0)), iv (own_i (own_al c0 (0 : Int32))), iv dg, iv dt, .unset] [(.int (own_i (own_al c0 (0 : Int32))))])) _
        refine XS.ifNo X72.here hx rfl (hb hby at_430) rfl ((if0 _ _).trans (feq hm1).1) ?_
        refine XS.iload X72.here hx rfl (hb hby at_433) rfl  ?_
        show Steps p.tables e below (T72.setTop (mkF m 435 #[iv p0, iv p1, iv p2, iv p3, iv p4, iv ii, iv (1 : Int32), rv b7, rv b30, iv (own_i (own_wf s0 d0)), iv (own_i (own_al c0 (0 : Int32))), iv dg, iv dt, .unset] [(.int dg)])) _
        refine XS.iconst X72.here hx rfl (hb hby at_435) ?_
        by_cases hm2 : dg < (1 : Int32)
        · skip
          show Steps p.tables e below (T72.setTop (mkF m 436 #[iv p0, iv p1, iv p2, iv p3, iv p4, iv ii, iv (1 : Int32), rv b7, rv b30, iv (own_i (own_wf s0 d0)), iv (own_i (own_al c0 (0 : Int32))), iv dg, iv dt, .unset] [(.int (1 : Int32)), (.int dg)])) _
          refine XS.icmpYes X72.here hx rfl (pc0 := 436) (pc' := 458) rfl (hb hby at_436) rfl (tlt hm2).1 (by decide) (by decide) ?_
          refine XS.iconst X72.here hx rfl (hb hby at_458) ?_
          have hv : (own_i ((own_al c0 (0 : Int32)) && ! decide (dg < (1 : Int32)) && ! decide ((own_lim ii) < dt))) = (0 : Int32) := by (try simp only [lw_gt, lw_lt, lw_eq, own_i_eq0, Bool.not_eq_false] at hm1); (try simp only [lw_gt, lw_lt, lw_eq, own_i_eq0, Bool.not_eq_false] at hm2); simp [own_i, own_lim, own_limB, hm1, hm2]
          rw [hv] at k
          exact k
        · skip
          show Steps p.tables e below (T72.setTop (mkF m 436 #[iv p0, iv p1, iv p2, iv p3, iv p4, iv ii, iv (1 : Int32), rv b7, rv b30, iv (own_i (own_wf s0 d0)), iv (own_i (own_al c0 (0 : Int32))), iv dg, iv dt, .unset] [(.int (1 : Int32)), (.int dg)])) _
          refine XS.icmpNo X72.here hx rfl (hb hby at_436) rfl (flt hm2).1 ?_
          refine XS.iload X72.here hx rfl (hb hby at_439) rfl  ?_
          show Steps p.tables e below (T72.setTop (mkF m 441 #[iv p0, iv p1, iv p2, iv p3, iv p4, iv ii, iv (1 : Int32), rv b7, rv b30, iv (own_i (own_wf s0 d0)), iv (own_i (own_al c0 (0 : Int32))), iv dg, iv dt, .unset] [(.int dt)])) _
          refine XS.iload X72.here hx rfl (hb hby at_441) rfl  ?_
          by_cases hm3 : ii = (0 : Int32)
          · skip
            show Steps p.tables e below (T72.setTop (mkF m 443 #[iv p0, iv p1, iv p2, iv p3, iv p4, iv ii, iv (1 : Int32), rv b7, rv b30, iv (own_i (own_wf s0 d0)), iv (own_i (own_al c0 (0 : Int32))), iv dg, iv dt, .unset] [(.int ii), (.int dt)])) _
            refine XS.ifYes X72.here hx rfl (pc0 := 443) (pc' := 450) rfl (hb hby at_443) rfl ((if0 _ _).trans (teq hm3).1) (by decide) (by decide) ?_
            refine XS.iconst X72.here hx rfl (hb hby at_450) ?_
            by_cases hm4 : (1 : Int32) < dt
            · skip
              show Steps p.tables e below (T72.setTop (mkF m 451 #[iv p0, iv p1, iv p2, iv p3, iv p4, iv ii, iv (1 : Int32), rv b7, rv b30, iv (own_i (own_wf s0 d0)), iv (own_i (own_al c0 (0 : Int32))), iv dg, iv dt, .unset] [(.int (1 : Int32)), (.int dt)])) _
              refine XS.icmpYes X72.here hx rfl (pc0 := 451) (pc' := 458) rfl (hb hby at_451) rfl (tlt hm4).2.2.1 (by decide) (by decide) ?_
              refine XS.iconst X72.here hx rfl (hb hby at_458) ?_
              have hv : (own_i ((own_al c0 (0 : Int32)) && ! decide (dg < (1 : Int32)) && ! decide ((own_lim ii) < dt))) = (0 : Int32) := by (try simp only [lw_gt, lw_lt, lw_eq, own_i_eq0, Bool.not_eq_false] at hm1); (try simp only [lw_gt, lw_lt, lw_eq, own_i_eq0, Bool.not_eq_false] at hm2); (try simp only [lw_gt, lw_lt, lw_eq, own_i_eq0, Bool.not_eq_false] at hm3); (try simp only [lw_gt, lw_lt, lw_eq, own_i_eq0, Bool.not_eq_false] at hm4); simp [own_i, own_lim, own_limB, hm1, hm2, hm3, hm4]
              rw [hv] at k
              exact k
            · skip
              show Steps p.tables e below (T72.setTop (mkF m 451 #[iv p0, iv p1, iv p2, iv p3, iv p4, iv ii, iv (1 : Int32), rv b7, rv b30, iv (own_i (own_wf s0 d0)), iv (own_i (own_al c0 (0 : Int32))), iv dg, iv dt, .unset] [(.int (1 : Int32)), (.int dt)])) _
              refine XS.icmpNo X72.here hx rfl (hb hby at_451) rfl (flt hm4).2.2.1 ?_
              refine XS.iconst X72.here hx rfl (hb hby at_454) ?_
              show Steps p.tables e below (T72.setTop (mkF m 455 #[iv p0, iv p1, iv p2, iv p3, iv p4, iv ii, iv (1 : Int32), rv b7, rv b30, iv (own_i (own_wf s0 d0)), iv (own_i (own_al c0 (0 : Int32))), iv dg, iv dt, .unset] [(.int (1 : Int32))])) _
              refine XS.goto X72.here hx rfl (pc0 := 455) (pc' := 459) rfl (hb hby at_455) (by decide) (by decide) ?_
              have hv : (own_i ((own_al c0 (0 : Int32)) && ! decide (dg < (1 : Int32)) && ! decide ((own_lim ii) < dt))) = (1 : Int32) := by (try simp only [lw_gt, lw_lt, lw_eq, own_i_eq0, Bool.not_eq_false] at hm1); (try simp only [lw_gt, lw_lt, lw_eq, own_i_eq0, Bool.not_eq_false] at hm2); (try simp only [lw_gt, lw_lt, lw_eq, own_i_eq0, Bool.not_eq_false] at hm3); (try simp only [lw_gt, lw_lt, lw_eq, own_i_eq0, Bool.not_eq_false] at hm4); simp [own_i, own_lim, own_limB, hm1, hm2, hm3, hm4]
              rw [hv] at k
              exact k
          · skip
            show Steps p.tables e below (T72.setTop (mkF m 443 #[iv p0, iv p1, iv p2, iv p3, iv p4, iv ii, iv (1 : Int32), rv b7, rv b30, iv (own_i (own_wf s0 d0)), iv (own_i (own_al c0 (0 : Int32))), iv dg, iv dt, .unset] [(.int ii), (.int dt)])) _
            refine XS.ifNo X72.here hx rfl (hb hby at_443) rfl ((if0 _ _).trans (feq hm3).1) ?_
            refine XS.iconst X72.here hx rfl (hb hby at_446) ?_
            show Steps p.tables e below (T72.setTop (mkF m 447 #[iv p0, iv p1, iv p2, iv p3, iv p4, iv ii, iv (1 : Int32), rv b7, rv b30, iv (own_i (own_wf s0 d0)), iv (own_i (own_al c0 (0 : Int32))), iv dg, iv dt, .unset] [(.int (0 : Int32)), (.int dt)])) _
            refine XS.goto X72.here hx rfl (pc0 := 447) (pc' := 451) rfl (hb hby at_447) (by decide) (by decide) ?_
            by_cases hm5 : (0 : Int32) < dt
            · skip
              show Steps p.tables e below (T72.setTop (mkF m 451 #[iv p0, iv p1, iv p2, iv p3, iv p4, iv ii, iv (1 : Int32), rv b7, rv b30, iv (own_i (own_wf s0 d0)), iv (own_i (own_al c0 (0 : Int32))), iv dg, iv dt, .unset] [(.int (0 : Int32)), (.int dt)])) _
              refine XS.icmpYes X72.here hx rfl (pc0 := 451) (pc' := 458) rfl (hb hby at_451) rfl (tlt hm5).2.2.1 (by decide) (by decide) ?_
              refine XS.iconst X72.here hx rfl (hb hby at_458) ?_
              have hv : (own_i ((own_al c0 (0 : Int32)) && ! decide (dg < (1 : Int32)) && ! decide ((own_lim ii) < dt))) = (0 : Int32) := by (try simp only [lw_gt, lw_lt, lw_eq, own_i_eq0, Bool.not_eq_false] at hm1); (try simp only [lw_gt, lw_lt, lw_eq, own_i_eq0, Bool.not_eq_false] at hm2); (try simp only [lw_gt, lw_lt, lw_eq, own_i_eq0, Bool.not_eq_false] at hm3); (try simp only [lw_gt, lw_lt, lw_eq, own_i_eq0, Bool.not_eq_false] at hm5); simp [own_i, own_lim, own_limB, hm1, hm2, hm3, hm5]
              rw [hv] at k
              exact k
            · skip
              show Steps p.tables e below (T72.setTop (mkF m 451 #[iv p0, iv p1, iv p2, iv p3, iv p4, iv ii, iv (1 : Int32), rv b7, rv b30, iv (own_i (own_wf s0 d0)), iv (own_i (own_al c0 (0 : Int32))), iv dg, iv dt, .unset] [(.int (0 : Int32)), (.int dt)])) _
              refine XS.icmpNo X72.here hx rfl (hb hby at_451) rfl (flt hm5).2.2.1 ?_
              refine XS.iconst X72.here hx rfl (hb hby at_454) ?_
              show Steps p.tables e below (T72.setTop (mkF m 455 #[iv p0, iv p1, iv p2, iv p3, iv p4, iv ii, iv (1 : Int32), rv b7, rv b30, iv (own_i (own_wf s0 d0)), iv (own_i (own_al c0 (0 : Int32))), iv dg, iv dt, .unset] [(.int (1 : Int32))])) _
              refine XS.goto X72.here hx rfl (pc0 := 455) (pc' := 459) rfl (hb hby at_455) (by decide) (by decide) ?_
              have hv : (own_i ((own_al c0 (0 : Int32)) && ! decide (dg < (1 : Int32)) && ! decide ((own_lim ii) < dt))) = (1 : Int32) := by (try simp only [lw_gt, lw_lt, lw_eq, own_i_eq0, Bool.not_eq_false] at hm1); (try simp only [lw_gt, lw_lt, lw_eq, own_i_eq0, Bool.not_eq_false] at hm2); (try simp only [lw_gt, lw_lt, lw_eq, own_i_eq0, Bool.not_eq_false] at hm3); (try simp only [lw_gt, lw_lt, lw_eq, own_i_eq0, Bool.not_eq_false] at hm5); simp [own_i, own_lim, own_limB, hm1, hm2, hm3, hm5]
              rw [hv] at k
              exact k
    have R85 : ∀ t, Steps p.tables e below (T72.setTop (mkF m 473 #[iv p0, iv p1, iv p2, iv p3, iv p4, iv ii, iv (1 : Int32), rv b7, rv b30, iv (own_i (own_wf s0 d0)), iv (own_i (own_al c0 (0 : Int32))), iv dg, iv dt, iv (own_i ((own_al c0 (0 : Int32)) && ! decide (dg < (1 : Int32)) && ! decide ((own_lim ii) < dt)))] [(.int (1 : Int32))])) t → Steps p.tables e below (s₁.setTop f0) t := fun t k => R84 t (by
      show Steps p.tables e below (T72.setTop (mkF m 459 #[iv p0, iv p1, iv p2, iv p3, iv p4, iv ii, iv (1 : Int32), rv b7, rv b30, iv (own_i (own_wf s0 d0)), iv (own_i (own_al c0 (0 : Int32))), iv dg, iv dt, .unset] [(.int (own_i ((own_al c0 (0 : Int32)) && ! decide (dg < (1 : Int32)) && ! decide ((own_lim ii) < dt))))])) _
      refine XS.istore X72.here hx rfl (hb hby at_459) rfl (l' := #[iv p0, iv p1, iv p2, iv p3, iv p4, iv ii, iv (1 : Int32), rv b7, rv b30, iv (own_i (own_wf s0 d0)), iv (own_i (own_al c0 (0 : Int32))), iv dg, iv dt, iv (own_i ((own_al c0 (0 : Int32)) && ! decide (dg < (1 : Int32)) && ! decide ((own_lim ii) < dt)))]) rfl ?_
      refine XS.iload X72.here hx rfl (hb hby at_461) rfl  ?_
      show Steps p.tables e below (T72.setTop (mkF m 463 #[iv p0, iv p1, iv p2, iv p3, iv p4, iv ii, iv (1 : Int32), rv b7, rv b30, iv (own_i (own_wf s0 d0)), iv (own_i (own_al c0 (0 : Int32))), iv dg, iv dt, iv (own_i ((own_al c0 (0 : Int32)) && ! decide (dg < (1 : Int32)) && ! decide ((own_lim ii) < dt)))] [(.int (own_i (own_wf s0 d0)))])) _
      refine XS.iload X72.here hx rfl (hb hby at_463) rfl  ?_
      refine XS.icmpNo X72.here hx rfl (hb hby at_465) rfl (teq (by subst e_dg e_dt ed0 es0 ; exact own_fin_1 c0 ii : (own_i (own_wf s0 d0)) = (own_i ((own_al c0 (0 : Int32)) && ! decide (dg < (1 : Int32)) && ! decide ((own_lim ii) < dt))))).2 ?_
      show Steps p.tables e below (T72.setTop (mkF m 468 #[iv p0, iv p1, iv p2, iv p3, iv p4, iv ii, iv (1 : Int32), rv b7, rv b30, iv (own_i (own_wf s0 d0)), iv (own_i (own_al c0 (0 : Int32))), iv dg, iv dt, iv (own_i ((own_al c0 (0 : Int32)) && ! decide (dg < (1 : Int32)) && ! decide ((own_lim ii) < dt)))] [])) _
      refine XS.iconst X72.here hx rfl (hb hby at_468) ?_
      refine XS.goto X72.here hx rfl (pc0 := 469) (pc' := 473) rfl (hb hby at_469) (by decide) (by decide) ?_
      exact k)
    obtain ⟨fs, hr, hrun, hended, hW, hsame⟩ := X72.leave (v := some (.int (1 : Int32))) (fun h => by rw [Bd.returns] at h; cases h)
    refine ⟨_, _, pre0 _ (R85 _ ?_), hrun, hended, _, _, rfl, ?_, ⟨_, rfl⟩, hW, hsame.mono (by decide) (by decide)⟩
    · show Steps p.tables e below (T72.setTop (mkF m 473 #[iv p0, iv p1, iv p2, iv p3, iv p4, iv ii, iv (1 : Int32), rv b7, rv b30, iv (own_i (own_wf s0 d0)), iv (own_i (own_al c0 (0 : Int32))), iv dg, iv dt, iv (own_i ((own_al c0 (0 : Int32)) && ! decide (dg < (1 : Int32)) && ! decide ((own_lim ii) < dt)))] [(.int (1 : Int32))])) _
      exact retN X72 hx (t := .boolean) Bd.returns (by simp) (hb hby at_473) hr
    · show Q_rmLaw Z p0 p1 p2 p3 p4 fI fD sS sI sF sB h0 n0 _ T72.heap _
      rw [p72_0]
      exact ⟨rfl, N72⟩
  · skip
    have R86 : ∀ t, Steps p.tables e below (T44.setTop (mkF m 84 #[iv p0, iv p1, iv p2, iv p3, iv p4, iv ii, iv (2 : Int32), rv b7, rv b30, .unset, .unset, .unset, .unset, .unset] [(.int (2 : Int32))])) t → Steps p.tables e below (s₁.setTop f0) t := by have q := R47; rw [(hn : nn = (2 : Int32))] at q; exact q
    have R87 : ∀ t, Steps p.tables e below (T44.setTop (mkF m 92 #[iv p0, iv p1, iv p2, iv p3, iv p4, iv ii, iv (2 : Int32), rv b7, rv b30, .unset, .unset, .unset, .unset, .unset] [(.int (0 : Int32)), (.ref b7), (.ref b30)])) t → Steps p.tables e below (s₁.setTop f0) t := fun t k => R86 t (by
      show Steps p.tables e below (T44.setTop (mkF m 84 #[iv p0, iv p1, iv p2, iv p3, iv p4, iv ii, iv (2 : Int32), rv b7, rv b30, .unset, .unset, .unset, .unset, .unset] [(.int (2 : Int32))])) _
      refine XS.ifNo X44.here hx rfl (hb hby at_84) rfl ((if0 _ _).trans (tlt (by decide : (0 : Int32) < (2 : Int32))).2.2.2) ?_
      refine XS.aload X44.here hx rfl (hb hby at_87) rfl rfl ?_
      show Steps p.tables e below (T44.setTop (mkF m 89 #[iv p0, iv p1, iv p2, iv p3, iv p4, iv ii, iv (2 : Int32), rv b7, rv b30, .unset, .unset, .unset, .unset, .unset] [(.ref b30)])) _
      refine XS.aload X44.here hx rfl (hb hby at_89) rfl rfl ?_
      refine XS.iconst X44.here hx rfl (hb hby at_91) ?_
      exact k)
    obtain ⟨cl88, Ar88, q88, S88, n88_, H88, G88⟩ := id vc
    have hin88 : ¬ ((0 : Int32) < 0 ∨ cl88.slots.size ≤ ((0 : Int32)).toNatClampNeg) := inb_of S88 ⟨by decide, by decide⟩
    have hat88 : cl88.slots[((0 : Int32)).toNatClampNeg]? = some (.int c0) := Has.at H88 hin88 rfl
    have R89 : ∀ t, Steps p.tables e below (T44.setTop (mkF m 93 #[iv p0, iv p1, iv p2, iv p3, iv p4, iv ii, iv (2 : Int32), rv b7, rv b30, .unset, .unset, .unset, .unset, .unset] [(.int c0), (.ref b30)])) t → Steps p.tables e below (s₁.setTop f0) t := fun t k => R87 t (X44.caload hx (j := (0 : Int32)) (v := (.int c0)) Ar88.1 (State.isArrayOf_alike hZ.alike Ar88.2.1) Ar88.2.2 hin88 hat88 (g := (mkF m 92 #[iv p0, iv p1, iv p2, iv p3, iv p4, iv ii, iv (2 : Int32), rv b7, rv b30, .unset, .unset, .unset, .unset, .unset] [(.int (0 : Int32)), (.ref b7), (.ref b30)])) rfl rfl (hb hby at_92) _ k)
    obtain ⟨cq90, kq90, q90a, q90b, q90c⟩ := isOf hZ rfl f44_E_b30
    obtain ⟨_, _, ⟨T90, L90, k90, n90⟩, -, X90, ⟨Lc90, hQ90, l90, y90, z90⟩, st90⟩ := X44.virtualBack hx (y := (⟨sN0, "take", "(C)V"⟩ : MethodName)) (z := (⟨sN0, "take", "(C)V"⟩ : MethodName)) hown (mvT hZ (hw _ (List.mem_of_getElem? (i := 51) rfl))) (mvT hZ (hw _ (List.mem_of_getElem? (i := 52) rfl))) (notFace_of_selects (args := #[]) (mvT hZ (hw _ (List.mem_of_getElem? (i := 54) rfl)))) (mvT hZ (hw _ (List.mem_of_getElem? (i := 54) rfl))) (mvT hZ (hw _ (List.mem_of_getElem? (i := 53) rfl))) (by decide) (backOf (W := 0) (rmTake l Z a0 hw [] b30 c0 0 ii (.int (0 : Int32)) (0 : Int32) (0 : Int64) (0 : Int64) (0 : Int64) (0 : Int64) sS sI sF sB (0 : Int) T44.heap n0 z44 f44_E_b30 g_b30 f44_S_NumberText_Part_SIGN f44_S_NumberText_Part_INTEGER f44_S_NumberText_Part_FRACTION f44_S_NumberText_Part_BROKEN ne_sS_sI ne_sS_sF ne_sS_sB ne_sI_sF ne_sI_sB ne_sF_sB (by decide) (by decide) ⟨by decide, by decide⟩ io46 p44_2 p44_3 p44_4 p44_5 p44_6 p44_7 p44_8) hZ (hw _ (List.mem_of_getElem? (i := 55) rfl)) (hw _ (List.mem_of_getElem? (i := 7) rfl)) (by decide) (by decide)) q90a q90c (g := (mkF m 93 #[iv p0, iv p1, iv p2, iv p3, iv p4, iv ii, iv (2 : Int32), rv b7, rv b30, .unset, .unset, .unset, .unset, .unset] [(.int c0), (.ref b30)])) rfl (by rw [hml]; rfl) (Steps.refl _) (argsL := [(.int c0)]) (rest := []) (lenOf pd_10 rfl) rfl (by show 2 * 0 + _ ≤ _; exact Nat.le_of_eq rfl) (hb hby at_93) (fun _ _ => ⟨rfl, rfl, (by decide : 2 + 0 ≤ _), (by decide : 12 + 0 ≤ _)⟩)
    dsimp only [Pt.U, Pt.locs, Pt.cells, Pt.slots] at X90 l90 y90 z90 st90 hQ90
    subst l90 y90 z90
    obtain ⟨ng2_90, id2_90, fd2_90, pz2_90, us2_90, rfl, N90q, p90_0, p90_1, p90_2, p90_3, p90_4, p90_5, p90_6, p90_7, p90_8, p90_9⟩ := hQ90
    have N90 := Fr.app N44 N90q
    have f90_S_SimpleType_Form_INTEGER : Sta Z T90.heap sN4 "INTEGER" sN3 (.ref fI) := own_sta_keep f44_S_SimpleType_Form_INTEGER p90_0 (nsS f44_E_b30.nostat ns0)
    have f90_S_SimpleType_Form_DECIMAL : Sta Z T90.heap sN4 "DECIMAL" sN3 (.ref fD) := own_sta_keep f44_S_SimpleType_Form_DECIMAL p90_0 (nsS f44_E_b30.nostat ns0)
    have f90_S_NumberText_Part_SIGN : Sta Z T90.heap sN1 "SIGN" sN2 (.ref sS) := own_sta_keep f44_S_NumberText_Part_SIGN p90_0 (nsS f44_E_b30.nostat ns0)
    have f90_S_NumberText_Part_INTEGER : Sta Z T90.heap sN1 "INTEGER" sN2 (.ref sI) := own_sta_keep f44_S_NumberText_Part_INTEGER p90_0 (nsS f44_E_b30.nostat ns0)
    have f90_S_NumberText_Part_FRACTION : Sta Z T90.heap sN1 "FRACTION" sN2 (.ref sF) := own_sta_keep f44_S_NumberText_Part_FRACTION p90_0 (nsS f44_E_b30.nostat ns0)
    have f90_S_NumberText_Part_BROKEN : Sta Z T90.heap sN1 "BROKEN" sN2 (.ref sB) := own_sta_keep f44_S_NumberText_Part_BROKEN p90_0 (nsS f44_E_b30.nostat ns0)
    have f90_A_b7 : Arv Z T90.heap b7 k7 .char (4 : Int32) [(.int c0), (.int c1), (.int c2), (.int c3)] (.int (0 : Int32)) := vc.keep p90_0 (ninS ne_b7_b30 nin0)
    have f90_E_b30 : Exa Z T90.heap b30 sN0 := f44_E_b30.keep p90_0
    have z90 : n0 ≤ T90.heap.size := Nat.le_trans z44 p90_0.1
    have K90 : Keep h0 T90.heap [] := K44.trans p90_0 (allS (Or.inr sz_b30) all0)
    have R91 : ∀ t, Steps p.tables e below (T90.setTop (mkF m 96 #[iv p0, iv p1, iv p2, iv p3, iv p4, iv ii, iv (2 : Int32), rv b7, rv b30, .unset, .unset, .unset, .unset, .unset] [])) t → Steps p.tables e below (s₁.setTop f0) t := fun t k => R89 t (st90.trans k)
    obtain ⟨s0, es0⟩ : ∃ z : Nat, z = (own_nx 0 c0 ii) := ⟨_, rfl⟩
    obtain ⟨d0, ed0⟩ : ∃ z : Int32, z = (own_dr 0 c0 (0 : Int32)) := ⟨_, rfl⟩
    have fd0_ : Fld Z T90.heap b30 sN0 "digitRead" "Z" (.int d0) := by rw [ed0]; exact p90_4
    have fp0_ : Fld Z T90.heap b30 sN0 "part" sN2 (.ref (own_ad sS sI sF sB s0)) := by rw [es0]; exact p90_2
    have hs0_ : s0 < 4 := by rw [es0]; exact own_nx4 _ _ _
    have R92 : ∀ t, Steps p.tables e below (T90.setTop (mkF m 107 #[iv p0, iv p1, iv p2, iv p3, iv p4, iv ii, iv (2 : Int32), rv b7, rv b30, .unset, .unset, .unset, .unset, .unset] [(.int (1 : Int32)), (.ref b7), (.ref b30)])) t → Steps p.tables e below (s₁.setTop f0) t := fun t k => R91 t (by
      show Steps p.tables e below (T90.setTop (mkF m 96 #[iv p0, iv p1, iv p2, iv p3, iv p4, iv ii, iv (2 : Int32), rv b7, rv b30, .unset, .unset, .unset, .unset, .unset] [])) _
      refine XS.iload X90.here hx rfl (hb hby at_96) rfl  ?_
      refine XS.iconst X90.here hx rfl (hb hby at_98) ?_
      show Steps p.tables e below (T90.setTop (mkF m 99 #[iv p0, iv p1, iv p2, iv p3, iv p4, iv ii, iv (2 : Int32), rv b7, rv b30, .unset, .unset, .unset, .unset, .unset] [(.int (1 : Int32)), (.int (2 : Int32))])) _
      refine XS.icmpNo X90.here hx rfl (hb hby at_99) rfl (tlt (by decide : (1 : Int32) < (2 : Int32))).2.2.2 ?_
      refine XS.aload X90.here hx rfl (hb hby at_102) rfl rfl ?_
      show Steps p.tables e below (T90.setTop (mkF m 104 #[iv p0, iv p1, iv p2, iv p3, iv p4, iv ii, iv (2 : Int32), rv b7, rv b30, .unset, .unset, .unset, .unset, .unset] [(.ref b30)])) _
      refine XS.aload X90.here hx rfl (hb hby at_104) rfl rfl ?_
      refine XS.iconst X90.here hx rfl (hb hby at_106) ?_
      exact k)
    obtain ⟨cl93, Ar93, q93, S93, n93_, H93, G93⟩ := id f90_A_b7
    have hin93 : ¬ ((1 : Int32) < 0 ∨ cl93.slots.size ≤ ((1 : Int32)).toNatClampNeg) := inb_of S93 ⟨by decide, by decide⟩
    have hat93 : cl93.slots[((1 : Int32)).toNatClampNeg]? = some (.int c1) := Has.at H93 hin93 rfl
    have R94 : ∀ t, Steps p.tables e below (T90.setTop (mkF m 108 #[iv p0, iv p1, iv p2, iv p3, iv p4, iv ii, iv (2 : Int32), rv b7, rv b30, .unset, .unset, .unset, .unset, .unset] [(.int c1), (.ref b30)])) t → Steps p.tables e below (s₁.setTop f0) t := fun t k => R92 t (X90.caload hx (j := (1 : Int32)) (v := (.int c1)) Ar93.1 (State.isArrayOf_alike hZ.alike Ar93.2.1) Ar93.2.2 hin93 hat93 (g := (mkF m 107 #[iv p0, iv p1, iv p2, iv p3, iv p4, iv ii, iv (2 : Int32), rv b7, rv b30, .unset, .unset, .unset, .unset, .unset] [(.int (1 : Int32)), (.ref b7), (.ref b30)])) rfl rfl (hb hby at_107) _ k)
    obtain ⟨cq95, kq95, q95a, q95b, q95c⟩ := isOf hZ rfl f90_E_b30
    obtain ⟨_, _, ⟨T95, L95, k95, n95⟩, -, X95, ⟨Lc95, hQ95, l95, y95, z95⟩, st95⟩ := X90.virtualBack hx (y := (⟨sN0, "take", "(C)V"⟩ : MethodName)) (z := (⟨sN0, "take", "(C)V"⟩ : MethodName)) hown (mvT hZ (hw _ (List.mem_of_getElem? (i := 51) rfl))) (mvT hZ (hw _ (List.mem_of_getElem? (i := 52) rfl))) (notFace_of_selects (args := #[]) (mvT hZ (hw _ (List.mem_of_getElem? (i := 54) rfl)))) (mvT hZ (hw _ (List.mem_of_getElem? (i := 54) rfl))) (mvT hZ (hw _ (List.mem_of_getElem? (i := 53) rfl))) (by decide) (backOf (W := 0) (rmTake l Z a0 hw [] b30 c1 s0 ii ng2_90 d0 id2_90 fd2_90 pz2_90 us2_90 sS sI sF sB (1 : Int) T90.heap n0 z90 f90_E_b30 g_b30 f90_S_NumberText_Part_SIGN f90_S_NumberText_Part_INTEGER f90_S_NumberText_Part_FRACTION f90_S_NumberText_Part_BROKEN ne_sS_sI ne_sS_sF ne_sS_sB ne_sI_sF ne_sI_sB ne_sF_sB hs0_ (by decide) p90_9 p90_1 fp0_ p90_3 fd0_ p90_5 p90_6 p90_7 p90_8) hZ (hw _ (List.mem_of_getElem? (i := 55) rfl)) (hw _ (List.mem_of_getElem? (i := 7) rfl)) (by decide) (by decide)) q95a q95c (g := (mkF m 108 #[iv p0, iv p1, iv p2, iv p3, iv p4, iv ii, iv (2 : Int32), rv b7, rv b30, .unset, .unset, .unset, .unset, .unset] [(.int c1), (.ref b30)])) rfl (by rw [hml]; rfl) (Steps.refl _) (argsL := [(.int c1)]) (rest := []) (lenOf pd_10 rfl) rfl (by show 2 * 0 + _ ≤ _; exact Nat.le_of_eq rfl) (hb hby at_108) (fun _ _ => ⟨rfl, rfl, (by decide : 2 + 0 ≤ _), (by decide : 12 + 0 ≤ _)⟩)
    dsimp only [Pt.U, Pt.locs, Pt.cells, Pt.slots] at X95 l95 y95 z95 st95 hQ95
    subst l95 y95 z95
    obtain ⟨ng2_95, id2_95, fd2_95, pz2_95, us2_95, rfl, N95q, p95_0, p95_1, p95_2, p95_3, p95_4, p95_5, p95_6, p95_7, p95_8, p95_9⟩ := hQ95
    have N95 := Fr.app N90 N95q
    have f95_S_SimpleType_Form_INTEGER : Sta Z T95.heap sN4 "INTEGER" sN3 (.ref fI) := own_sta_keep f90_S_SimpleType_Form_INTEGER p95_0 (nsS f90_E_b30.nostat ns0)
    have f95_S_SimpleType_Form_DECIMAL : Sta Z T95.heap sN4 "DECIMAL" sN3 (.ref fD) := own_sta_keep f90_S_SimpleType_Form_DECIMAL p95_0 (nsS f90_E_b30.nostat ns0)
    have f95_S_NumberText_Part_SIGN : Sta Z T95.heap sN1 "SIGN" sN2 (.ref sS) := own_sta_keep f90_S_NumberText_Part_SIGN p95_0 (nsS f90_E_b30.nostat ns0)
    have f95_S_NumberText_Part_INTEGER : Sta Z T95.heap sN1 "INTEGER" sN2 (.ref sI) := own_sta_keep f90_S_NumberText_Part_INTEGER p95_0 (nsS f90_E_b30.nostat ns0)
    have f95_S_NumberText_Part_FRACTION : Sta Z T95.heap sN1 "FRACTION" sN2 (.ref sF) := own_sta_keep f90_S_NumberText_Part_FRACTION p95_0 (nsS f90_E_b30.nostat ns0)
    have f95_S_NumberText_Part_BROKEN : Sta Z T95.heap sN1 "BROKEN" sN2 (.ref sB) := own_sta_keep f90_S_NumberText_Part_BROKEN p95_0 (nsS f90_E_b30.nostat ns0)
    have f95_A_b7 : Arv Z T95.heap b7 k7 .char (4 : Int32) [(.int c0), (.int c1), (.int c2), (.int c3)] (.int (0 : Int32)) := f90_A_b7.keep p95_0 (ninS ne_b7_b30 nin0)
    have f95_E_b30 : Exa Z T95.heap b30 sN0 := f90_E_b30.keep p95_0
    have z95 : n0 ≤ T95.heap.size := Nat.le_trans z90 p95_0.1
    have K95 : Keep h0 T95.heap [] := K90.trans p95_0 (allS (Or.inr sz_b30) all0)
    have R96 : ∀ t, Steps p.tables e below (T95.setTop (mkF m 111 #[iv p0, iv p1, iv p2, iv p3, iv p4, iv ii, iv (2 : Int32), rv b7, rv b30, .unset, .unset, .unset, .unset, .unset] [])) t → Steps p.tables e below (s₁.setTop f0) t := fun t k => R94 t (st95.trans k)
    obtain ⟨s1, es1⟩ : ∃ z : Nat, z = (own_nx s0 c1 ii) := ⟨_, rfl⟩
    obtain ⟨d1, ed1⟩ : ∃ z : Int32, z = (own_dr s0 c1 d0) := ⟨_, rfl⟩
    have fd1_ : Fld Z T95.heap b30 sN0 "digitRead" "Z" (.int d1) := by rw [ed1]; exact p95_4
    have fp1_ : Fld Z T95.heap b30 sN0 "part" sN2 (.ref (own_ad sS sI sF sB s1)) := by rw [es1]; exact p95_2
    have hs1_ : s1 < 4 := by rw [es1]; exact own_nx4 _ _ _
    have R97 : ∀ t, Steps p.tables e below (T95.setTop (mkF m 143 #[iv p0, iv p1, iv p2, iv p3, iv p4, iv ii, iv (2 : Int32), rv b7, rv b30, .unset, .unset, .unset, .unset, .unset] [(.ref b30)])) t → Steps p.tables e below (s₁.setTop f0) t := fun t k => R96 t (by
      show Steps p.tables e below (T95.setTop (mkF m 111 #[iv p0, iv p1, iv p2, iv p3, iv p4, iv ii, iv (2 : Int32), rv b7, rv b30, .unset, .unset, .unset, .unset, .unset] [])) _
      refine XS.iload X95.here hx rfl (hb hby at_111) rfl  ?_
      refine XS.iconst X95.here hx rfl (hb hby at_113) ?_
      show Steps p.tables e below (T95.setTop (mkF m 114 #[iv p0, iv p1, iv p2, iv p3, iv p4, iv ii, iv (2 : Int32), rv b7, rv b30, .unset, .unset, .unset, .unset, .unset] [(.int (2 : Int32)), (.int (2 : Int32))])) _
      refine XS.icmpYes X95.here hx rfl (pc0 := 114) (pc' := 126) rfl (hb hby at_114) rfl (flt (by decide : ¬ ((2 : Int32) < (2 : Int32)))).2.2.2 (by decide) (by decide) ?_
      refine XS.iload X95.here hx rfl (hb hby at_126) rfl  ?_
      show Steps p.tables e below (T95.setTop (mkF m 128 #[iv p0, iv p1, iv p2, iv p3, iv p4, iv ii, iv (2 : Int32), rv b7, rv b30, .unset, .unset, .unset, .unset, .unset] [(.int (2 : Int32))])) _
      refine XS.iconst X95.here hx rfl (hb hby at_128) ?_
      refine XS.icmpYes X95.here hx rfl (pc0 := 129) (pc' := 141) rfl (hb hby at_129) rfl (flt (by decide : ¬ ((3 : Int32) < (2 : Int32)))).2.2.2 (by decide) (by decide) ?_
      show Steps p.tables e below (T95.setTop (mkF m 141 #[iv p0, iv p1, iv p2, iv p3, iv p4, iv ii, iv (2 : Int32), rv b7, rv b30, .unset, .unset, .unset, .unset, .unset] [])) _
      refine XS.aload X95.here hx rfl (hb hby at_141) rfl rfl ?_
      exact k)
    obtain ⟨cq98, kq98, q98a, q98b, q98c⟩ := isOf hZ rfl f95_E_b30
    obtain ⟨_, _, ⟨T98, L98, k98, n98⟩, -, X98, ⟨Lc98, hQ98, l98, y98, z98⟩, st98⟩ := X95.virtualBack hx (y := (⟨sN0, "wellFormed", "()Z"⟩ : MethodName)) (z := (⟨sN0, "wellFormed", "()Z"⟩ : MethodName)) hown (mvT hZ (hw _ (List.mem_of_getElem? (i := 43) rfl))) (mvT hZ (hw _ (List.mem_of_getElem? (i := 44) rfl))) (notFace_of_selects (args := #[]) (mvT hZ (hw _ (List.mem_of_getElem? (i := 46) rfl)))) (mvT hZ (hw _ (List.mem_of_getElem? (i := 46) rfl))) (mvT hZ (hw _ (List.mem_of_getElem? (i := 45) rfl))) (by decide) (backOf (W := 0) (rmWf l Z a0 hw [] b30 s1 d1 sS sI sF sB T95.heap n0 z95 f95_S_NumberText_Part_BROKEN ne_sS_sB ne_sI_sB ne_sF_sB hs1_ fp1_ fd1_) hZ (hw _ (List.mem_of_getElem? (i := 47) rfl)) (hw _ (List.mem_of_getElem? (i := 7) rfl)) (by decide) (by decide)) q98a q98c (g := (mkF m 143 #[iv p0, iv p1, iv p2, iv p3, iv p4, iv ii, iv (2 : Int32), rv b7, rv b30, .unset, .unset, .unset, .unset, .unset] [(.ref b30)])) rfl (by rw [hml]; rfl) (Steps.refl _) (argsL := []) (rest := []) (lenOf pd_9 rfl) rfl (by show 2 * 0 + _ ≤ _; exact Nat.le_of_eq rfl) (hb hby at_143) (fun _ _ => ⟨rfl, rfl, (by decide : 2 + 0 ≤ _), (by decide : 12 + 0 ≤ _)⟩)
    dsimp only [Pt.U, Pt.locs, Pt.cells, Pt.slots] at X98 l98 y98 z98 st98 hQ98
    subst l98 y98 z98
    obtain ⟨rfl, N98q, p98_0⟩ := hQ98
    have N98 := Fr.app N95 N98q
    have R99 : ∀ t, Steps p.tables e below (T98.setTop (mkF m 146 #[iv p0, iv p1, iv p2, iv p3, iv p4, iv ii, iv (2 : Int32), rv b7, rv b30, .unset, .unset, .unset, .unset, .unset] [(.int (own_i (own_wf s1 d1)))])) t → Steps p.tables e below (s₁.setTop f0) t := fun t k => R97 t (st98.trans k)
    have R100 : ∀ t, Steps p.tables e below (T98.setTop (mkF m 170 #[iv p0, iv p1, iv p2, iv p3, iv p4, iv ii, iv (2 : Int32), rv b7, rv b30, iv (own_i (own_wf s1 d1)), iv (1 : Int32), iv (0 : Int32), iv (0 : Int32), .unset] [(.int (0 : Int32)), (.ref b7)])) t → Steps p.tables e below (s₁.setTop f0) t := fun t k => R99 t (by
      show Steps p.tables e below (T98.setTop (mkF m 146 #[iv p0, iv p1, iv p2, iv p3, iv p4, iv ii, iv (2 : Int32), rv b7, rv b30, .unset, .unset, .unset, .unset, .unset] [(.int (own_i (own_wf s1 d1)))])) _
      refine XS.istore X98.here hx rfl (hb hby at_146) rfl (l' := #[iv p0, iv p1, iv p2, iv p3, iv p4, iv ii, iv (2 : Int32), rv b7, rv b30, iv (own_i (own_wf s1 d1)), .unset, .unset, .unset, .unset]) rfl ?_
      refine XS.iconst X98.here hx rfl (hb hby at_148) ?_
      show Steps p.tables e below (T98.setTop (mkF m 149 #[iv p0, iv p1, iv p2, iv p3, iv p4, iv ii, iv (2 : Int32), rv b7, rv b30, iv (own_i (own_wf s1 d1)), .unset, .unset, .unset, .unset] [(.int (1 : Int32))])) _
      refine XS.istore X98.here hx rfl (hb hby at_149) rfl (l' := #[iv p0, iv p1, iv p2, iv p3, iv p4, iv ii, iv (2 : Int32), rv b7, rv b30, iv (own_i (own_wf s1 d1)), iv (1 : Int32), .unset, .unset, .unset]) rfl ?_
      refine XS.iconst X98.here hx rfl (hb hby at_151) ?_
      show Steps p.tables e below (T98.setTop (mkF m 152 #[iv p0, iv p1, iv p2, iv p3, iv p4, iv ii, iv (2 : Int32), rv b7, rv b30, iv (own_i (own_wf s1 d1)), iv (1 : Int32), .unset, .unset, .unset] [(.int (0 : Int32))])) _
      refine XS.istore X98.here hx rfl (hb hby at_152) rfl (l' := #[iv p0, iv p1, iv p2, iv p3, iv p4, iv ii, iv (2 : Int32), rv b7, rv b30, iv (own_i (own_wf s1 d1)), iv (1 : Int32), iv (0 : Int32), .unset, .unset]) rfl ?_
      refine XS.iconst X98.here hx rfl (hb hby at_154) ?_
      show Steps p.tables e below (T98.setTop (mkF m 155 #[iv p0, iv p1, iv p2, iv p3, iv p4, iv ii, iv (2 : Int32), rv b7, rv b30, iv (own_i (own_wf s1 d1)), iv (1 : Int32), iv (0 : Int32), .unset, .unset] [(.int (0 : Int32))])) _
      refine XS.istore X98.here hx rfl (hb hby at_155) rfl (l' := #[iv p0, iv p1, iv p2, iv p3, iv p4, iv ii, iv (2 : Int32), rv b7, rv b30, iv (own_i (own_wf s1 d1)), iv (1 : Int32), iv (0 : Int32), iv (0 : Int32), .unset]) rfl ?_
      refine XS.iload X98.here hx rfl (hb hby at_157) rfl  ?_
      show Steps p.tables e below (T98.setTop (mkF m 159 #[iv p0, iv p1, iv p2, iv p3, iv p4, iv ii, iv (2 : Int32), rv b7, rv b30, iv (own_i (own_wf s1 d1)), iv (1 : Int32), iv (0 : Int32), iv (0 : Int32), .unset] [(.int (2 : Int32))])) _
      refine XS.ifNo X98.here hx rfl (hb hby at_159) rfl ((if0 _ _).trans (tlt (by decide : (0 : Int32) < (2 : Int32))).2.2.2) ?_
      refine XS.iload X98.here hx rfl (hb hby at_162) rfl  ?_
      show Steps p.tables e below (T98.setTop (mkF m 164 #[iv p0, iv p1, iv p2, iv p3, iv p4, iv ii, iv (2 : Int32), rv b7, rv b30, iv (own_i (own_wf s1 d1)), iv (1 : Int32), iv (0 : Int32), iv (0 : Int32), .unset] [(.int (1 : Int32))])) _
      refine XS.ifNo X98.here hx rfl (hb hby at_164) rfl ((if0 _ _).trans (feq (by decide : ¬ ((1 : Int32) = (0 : Int32)))).1) ?_
      refine XS.aload X98.here hx rfl (hb hby at_167) rfl rfl ?_
      show Steps p.tables e below (T98.setTop (mkF m 169 #[iv p0, iv p1, iv p2, iv p3, iv p4, iv ii, iv (2 : Int32), rv b7, rv b30, iv (own_i (own_wf s1 d1)), iv (1 : Int32), iv (0 : Int32), iv (0 : Int32), .unset] [(.ref b7)])) _
      refine XS.iconst X98.here hx rfl (hb hby at_169) ?_
      exact k)
    obtain ⟨cl101, Ar101, q101, S101, n101_, H101, G101⟩ := id f95_A_b7
    have hin101 : ¬ ((0 : Int32) < 0 ∨ cl101.slots.size ≤ ((0 : Int32)).toNatClampNeg) := inb_of S101 ⟨by decide, by decide⟩
    have hat101 : cl101.slots[((0 : Int32)).toNatClampNeg]? = some (.int c0) := Has.at H101 hin101 rfl
    have R102 : ∀ t, Steps p.tables e below (T98.setTop (mkF m 171 #[iv p0, iv p1, iv p2, iv p3, iv p4, iv ii, iv (2 : Int32), rv b7, rv b30, iv (own_i (own_wf s1 d1)), iv (1 : Int32), iv (0 : Int32), iv (0 : Int32), .unset] [(.int c0)])) t → Steps p.tables e below (s₁.setTop f0) t := fun t k => R100 t (X98.caload hx (j := (0 : Int32)) (v := (.int c0)) (by rw [p98_0]; exact Ar101.1) (State.isArrayOf_alike hZ.alike Ar101.2.1) Ar101.2.2 hin101 hat101 (g := (mkF m 170 #[iv p0, iv p1, iv p2, iv p3, iv p4, iv ii, iv (2 : Int32), rv b7, rv b30, iv (own_i (own_wf s1 d1)), iv (1 : Int32), iv (0 : Int32), iv (0 : Int32), .unset] [(.int (0 : Int32)), (.ref b7)])) rfl rfl (hb hby at_170) _ k)
    have R103 : ∀ t, Steps p.tables e below (T98.setTop (mkF m 172 #[iv p0, iv p1, iv p2, iv p3, iv p4, iv ii, iv (2 : Int32), rv b7, rv b30, iv (own_i (own_wf s1 d1)), iv (1 : Int32), iv (0 : Int32), iv (0 : Int32), .unset] [(.int (0 : Int32)), (.int c0)])) t → Steps p.tables e below (s₁.setTop f0) t := fun t k => R102 t (by
      show Steps p.tables e below (T98.setTop (mkF m 171 #[iv p0, iv p1, iv p2, iv p3, iv p4, iv ii, iv (2 : Int32), rv b7, rv b30, iv (own_i (own_wf s1 d1)), iv (1 : Int32), iv (0 : Int32), iv (0 : Int32), .unset] [(.int c0)])) _
      refine XS.iconst X98.here hx rfl (hb hby at_171) ?_
      exact k)
    obtain ⟨_, _, ⟨T104, L104, k104, n104⟩, -, X104, ⟨Lc104, hQ104, l104, y104, z104⟩, st104⟩ := Jvm.LawKit.callS X98 hx (y := (⟨sN5, "allowed", "(CI)Z"⟩ : MethodName)) hown (mvT hZ (hw _ (List.mem_of_getElem? (i := 73) rfl))) (mvT hZ (hw _ (List.mem_of_getElem? (i := 74) rfl))) (mvT hZ (hw _ (List.mem_of_getElem? (i := 3) rfl))) (mvT hZ (hw _ (List.mem_of_getElem? (i := 75) rfl))) (by decide) (backOf (W := 0) (rmAll l Z a0 hw [] c0 (0 : Int32) T95.heap n0 z95) hZ (hw _ (List.mem_of_getElem? (i := 75) rfl)) (hw _ (List.mem_of_getElem? (i := 3) rfl)) (by decide) (by decide)) (g := (mkF m 172 #[iv p0, iv p1, iv p2, iv p3, iv p4, iv ii, iv (2 : Int32), rv b7, rv b30, iv (own_i (own_wf s1 d1)), iv (1 : Int32), iv (0 : Int32), iv (0 : Int32), .unset] [(.int (0 : Int32)), (.int c0)])) rfl (by rw [hml]; rfl) (argsL := [(.int c0), (.int (0 : Int32))]) (rest := []) (lenOf pd_11 rfl) rfl (by show 2 * 0 + _ ≤ _; exact Nat.le_of_eq rfl) (hb hby at_172) (fun _ _ => ⟨rfl, p98_0, (by decide : 2 + 0 ≤ _), (by decide : 12 + 0 ≤ _)⟩)
    dsimp only [Pt.U, Pt.locs, Pt.cells, Pt.slots] at X104 l104 y104 z104 st104 hQ104
    subst l104 y104 z104
    obtain ⟨rfl, N104q, p104_0⟩ := hQ104
    have N104 := Fr.app N98 N104q
    have R105 : ∀ t, Steps p.tables e below (T104.setTop (mkF m 175 #[iv p0, iv p1, iv p2, iv p3, iv p4, iv ii, iv (2 : Int32), rv b7, rv b30, iv (own_i (own_wf s1 d1)), iv (1 : Int32), iv (0 : Int32), iv (0 : Int32), .unset] [(.int (own_i (own_al c0 (0 : Int32))))])) t → Steps p.tables e below (s₁.setTop f0) t := fun t k => R103 t (st104 t k)
    have R106 : ∀ t, Steps p.tables e below (T104.setTop (mkF m 183 #[iv p0, iv p1, iv p2, iv p3, iv p4, iv ii, iv (2 : Int32), rv b7, rv b30, iv (own_i (own_wf s1 d1)), iv (1 : Int32), iv (0 : Int32), iv (0 : Int32), .unset] [(.int (own_i (own_al c0 (0 : Int32))))])) t → Steps p.tables e below (s₁.setTop f0) t := by
      intro t k
      refine R105 t ?_
      by_cases hm1 : (own_i (own_al c0 (0 : Int32))) = (0 : Int32)
      · skip
        show Steps p.tables e below (T104.setTop (mkF m 175 #[iv p0, iv p1, iv p2, iv p3, iv p4, iv ii, iv (2 : Int32), rv b7, rv b30, iv (own_i (own_wf s1 d1)), iv (1 : Int32), iv (0 : Int32), iv (0 : Int32), .unset] [(.int (own_i (own_al c0 (0 : Int32))))])) _
        refine XS.ifYes X104.here hx rfl (pc0 := 175) (pc' := 182) rfl (hb hby at_175) rfl ((if0 _ _).trans (teq hm1).1) (by decide) (by decide) ?_
        refine XS.iconst X104.here hx rfl (hb hby at_182) ?_
        have hv : (own_i (own_al c0 (0 : Int32))) = (0 : Int32) := by (try simp only [lw_gt, lw_lt, lw_eq, own_i_eq0, Bool.not_eq_false] at hm1); simp [own_i, hm1]
        rw [hv] at k
        exact k
      · skip
        show Steps p.tables e below (T104.setTop (mkF m 175 #[iv p0, iv p1, iv p2, iv p3, iv p4, iv ii, iv (2 : Int32), rv b7, rv b30, iv (own_i (own_wf s1 d1)), iv (1 : Int32), iv (0 : Int32), iv (0 : Int32), .unset] [(.int (own_i (own_al c0 (0 : Int32))))])) _
        refine XS.ifNo X104.here hx rfl (hb hby at_175) rfl ((if0 _ _).trans (feq hm1).1) ?_
        refine XS.iconst X104.here hx rfl (hb hby at_178) ?_
        show Steps p.tables e below (T104.setTop (mkF m 179 #[iv p0, iv p1, iv p2, iv p3, iv p4, iv ii, iv (2 : Int32), rv b7, rv b30, iv (own_i (own_wf s1 d1)), iv (1 : Int32), iv (0 : Int32), iv (0 : Int32), .unset] [(.int (1 : Int32))])) _
        refine XS.goto X104.here hx rfl (pc0 := 179) (pc' := 183) rfl (hb hby at_179) (by decide) (by decide) ?_
        have hv : (own_i (own_al c0 (0 : Int32))) = (1 : Int32) := by (try simp only [lw_gt, lw_lt, lw_eq, own_i_eq0, Bool.not_eq_false] at hm1); simp [own_i, hm1]
        rw [hv] at k
        exact k
    have R107 : ∀ t, Steps p.tables e below (T104.setTop (mkF m 190 #[iv p0, iv p1, iv p2, iv p3, iv p4, iv ii, iv (2 : Int32), rv b7, rv b30, iv (own_i (own_wf s1 d1)), iv (own_i (own_al c0 (0 : Int32))), iv (0 : Int32), iv (0 : Int32), .unset] [(.int (0 : Int32)), (.ref b7), (.int (0 : Int32))])) t → Steps p.tables e below (s₁.setTop f0) t := fun t k => R106 t (by
      show Steps p.tables e below (T104.setTop (mkF m 183 #[iv p0, iv p1, iv p2, iv p3, iv p4, iv ii, iv (2 : Int32), rv b7, rv b30, iv (own_i (own_wf s1 d1)), iv (1 : Int32), iv (0 : Int32), iv (0 : Int32), .unset] [(.int (own_i (own_al c0 (0 : Int32))))])) _
      refine XS.istore X104.here hx rfl (hb hby at_183) rfl (l' := #[iv p0, iv p1, iv p2, iv p3, iv p4, iv ii, iv (2 : Int32), rv b7, rv b30, iv (own_i (own_wf s1 d1)), iv (own_i (own_al c0 (0 : Int32))), iv (0 : Int32), iv (0 : Int32), .unset]) rfl ?_
      refine XS.iload X104.here hx rfl (hb hby at_185) rfl  ?_
      show Steps p.tables e below (T104.setTop (mkF m 187 #[iv p0, iv p1, iv p2, iv p3, iv p4, iv ii, iv (2 : Int32), rv b7, rv b30, iv (own_i (own_wf s1 d1)), iv (own_i (own_al c0 (0 : Int32))), iv (0 : Int32), iv (0 : Int32), .unset] [(.int (0 : Int32))])) _
      refine XS.aload X104.here hx rfl (hb hby at_187) rfl rfl ?_
      refine XS.iconst X104.here hx rfl (hb hby at_189) ?_
      exact k)
    obtain ⟨cl108, Ar108, q108, S108, n108_, H108, G108⟩ := id f95_A_b7
    have hin108 : ¬ ((0 : Int32) < 0 ∨ cl108.slots.size ≤ ((0 : Int32)).toNatClampNeg) := inb_of S108 ⟨by decide, by decide⟩
    have hat108 : cl108.slots[((0 : Int32)).toNatClampNeg]? = some (.int c0) := Has.at H108 hin108 rfl
    have R109 : ∀ t, Steps p.tables e below (T104.setTop (mkF m 191 #[iv p0, iv p1, iv p2, iv p3, iv p4, iv ii, iv (2 : Int32), rv b7, rv b30, iv (own_i (own_wf s1 d1)), iv (own_i (own_al c0 (0 : Int32))), iv (0 : Int32), iv (0 : Int32), .unset] [(.int c0), (.int (0 : Int32))])) t → Steps p.tables e below (s₁.setTop f0) t := fun t k => R107 t (X104.caload hx (j := (0 : Int32)) (v := (.int c0)) (by rw [p104_0]; exact Ar108.1) (State.isArrayOf_alike hZ.alike Ar108.2.1) Ar108.2.2 hin108 hat108 (g := (mkF m 190 #[iv p0, iv p1, iv p2, iv p3, iv p4, iv ii, iv (2 : Int32), rv b7, rv b30, iv (own_i (own_wf s1 d1)), iv (own_i (own_al c0 (0 : Int32))), iv (0 : Int32), iv (0 : Int32), .unset] [(.int (0 : Int32)), (.ref b7), (.int (0 : Int32))])) rfl rfl (hb hby at_190) _ k)
    obtain ⟨_, _, ⟨T110, L110, k110, n110⟩, -, X110, ⟨Lc110, hQ110, l110, y110, z110⟩, st110⟩ := Jvm.LawKit.callS X104 hx (y := (⟨sN5, "isDigit", "(C)Z"⟩ : MethodName)) hown (mvT hZ (hw _ (List.mem_of_getElem? (i := 76) rfl))) (mvT hZ (hw _ (List.mem_of_getElem? (i := 77) rfl))) (mvT hZ (hw _ (List.mem_of_getElem? (i := 3) rfl))) (mvT hZ (hw _ (List.mem_of_getElem? (i := 78) rfl))) (by decide) (backOf (W := 1) (rmIsd l Z a0 hw [] c0 T95.heap n0 z95) hZ (hw _ (List.mem_of_getElem? (i := 78) rfl)) (hw _ (List.mem_of_getElem? (i := 3) rfl)) (by decide) (by decide)) (g := (mkF m 191 #[iv p0, iv p1, iv p2, iv p3, iv p4, iv ii, iv (2 : Int32), rv b7, rv b30, iv (own_i (own_wf s1 d1)), iv (own_i (own_al c0 (0 : Int32))), iv (0 : Int32), iv (0 : Int32), .unset] [(.int c0), (.int (0 : Int32))])) rfl (by rw [hml]; rfl) (argsL := [(.int c0)]) (rest := [(.int (0 : Int32))]) (lenOf pd_5 rfl) rfl (by show 2 * 0 + _ ≤ _; exact Nat.le_of_eq rfl) (hb hby at_191) (fun _ _ => ⟨rfl, p104_0, (by decide : 2 + 0 ≤ _), (by decide : 12 + 0 ≤ _)⟩)
    dsimp only [Pt.U, Pt.locs, Pt.cells, Pt.slots] at X110 l110 y110 z110 st110 hQ110
    subst l110 y110 z110
    obtain ⟨rfl, N110q, p110_0⟩ := hQ110
    have N110 := Fr.app N104 N110q
    have R111 : ∀ t, Steps p.tables e below (T110.setTop (mkF m 194 #[iv p0, iv p1, iv p2, iv p3, iv p4, iv ii, iv (2 : Int32), rv b7, rv b30, iv (own_i (own_wf s1 d1)), iv (own_i (own_al c0 (0 : Int32))), iv (0 : Int32), iv (0 : Int32), .unset] [(.int (own_i (own_D c0))), (.int (0 : Int32))])) t → Steps p.tables e below (s₁.setTop f0) t := fun t k => R109 t (st110 t k)
    have R112 : ∀ t, Steps p.tables e below (T110.setTop (mkF m 202 #[iv p0, iv p1, iv p2, iv p3, iv p4, iv ii, iv (2 : Int32), rv b7, rv b30, iv (own_i (own_wf s1 d1)), iv (own_i (own_al c0 (0 : Int32))), iv (0 : Int32), iv (0 : Int32), .unset] [(.int (own_i (own_D c0))), (.int (0 : Int32))])) t → Steps p.tables e below (s₁.setTop f0) t := by
      intro t k
      refine R111 t ?_
      by_cases hm1 : (own_i (own_D c0)) = (0 : Int32)
      · skip
        show Steps p.tables e below (T110.setTop (mkF m 194 #[iv p0, iv p1, iv p2, iv p3, iv p4, iv ii, iv (2 : Int32), rv b7, rv b30, iv (own_i (own_wf s1 d1)), iv (own_i (own_al c0 (0 : Int32))), iv (0 : Int32), iv (0 : Int32), .unset] [(.int (own_i (own_D c0))), (.int (0 : Int32))])) _
        refine XS.ifYes X110.here hx rfl (pc0 := 194) (pc' := 201) rfl (hb hby at_194) rfl ((if0 _ _).trans (teq hm1).1) (by decide) (by decide) ?_
        refine XS.iconst X110.here hx rfl (hb hby at_201) ?_
        have hv : (own_i (own_D c0)) = (0 : Int32) := by (try simp only [lw_gt, lw_lt, lw_eq, own_i_eq0, Bool.not_eq_false] at hm1); simp [own_i, hm1]
        rw [hv] at k
        exact k
      · skip
        show Steps p.tables e below (T110.setTop (mkF m 194 #[iv p0, iv p1, iv p2, iv p3, iv p4, iv ii, iv (2 : Int32), rv b7, rv b30, iv (own_i (own_wf s1 d1)), iv (own_i (own_al c0 (0 : Int32))), iv (0 : Int32), iv (0 : Int32), .unset] [(.int (own_i (own_D c0))), (.int (0 : Int32))])) _
        refine XS.ifNo X110.here hx rfl (hb hby at_194) rfl ((if0 _ _).trans (feq hm1).1) ?_
        refine XS.iconst X110.here hx rfl (hb hby at_197) ?_
        show Steps p.tables e below (T110.setTop (mkF m 198 #[iv p0, iv p1, iv p2, iv p3, iv p4, iv ii, iv (2 : Int32), rv b7, rv b30, iv (own_i (own_wf s1 d1)), iv (own_i (own_al c0 (0 : Int32))), iv (0 : Int32), iv (0 : Int32), .unset] [(.int (1 : Int32)), (.int (0 : Int32))])) _
        refine XS.goto X110.here hx rfl (pc0 := 198) (pc' := 202) rfl (hb hby at_198) (by decide) (by decide) ?_
        have hv : (own_i (own_D c0)) = (1 : Int32) := by (try simp only [lw_gt, lw_lt, lw_eq, own_i_eq0, Bool.not_eq_false] at hm1); simp [own_i, hm1]
        rw [hv] at k
        exact k
    have R113 : ∀ t, Steps p.tables e below (T110.setTop (mkF m 210 #[iv p0, iv p1, iv p2, iv p3, iv p4, iv ii, iv (2 : Int32), rv b7, rv b30, iv (own_i (own_wf s1 d1)), iv (own_i (own_al c0 (0 : Int32))), iv ((0 : Int32) + (own_i (own_D c0))), iv (0 : Int32), .unset] [(.int (0 : Int32)), (.ref b7), (.int (0 : Int32))])) t → Steps p.tables e below (s₁.setTop f0) t := fun t k => R112 t (by
      show Steps p.tables e below (T110.setTop (mkF m 202 #[iv p0, iv p1, iv p2, iv p3, iv p4, iv ii, iv (2 : Int32), rv b7, rv b30, iv (own_i (own_wf s1 d1)), iv (own_i (own_al c0 (0 : Int32))), iv (0 : Int32), iv (0 : Int32), .unset] [(.int (own_i (own_D c0))), (.int (0 : Int32))])) _
      refine XS.iadd X110.here hx rfl (hb hby at_202) rfl ?_
      refine XS.istore X110.here hx rfl (hb hby at_203) rfl (l' := #[iv p0, iv p1, iv p2, iv p3, iv p4, iv ii, iv (2 : Int32), rv b7, rv b30, iv (own_i (own_wf s1 d1)), iv (own_i (own_al c0 (0 : Int32))), iv ((0 : Int32) + (own_i (own_D c0))), iv (0 : Int32), .unset]) rfl ?_
      show Steps p.tables e below (T110.setTop (mkF m 205 #[iv p0, iv p1, iv p2, iv p3, iv p4, iv ii, iv (2 : Int32), rv b7, rv b30, iv (own_i (own_wf s1 d1)), iv (own_i (own_al c0 (0 : Int32))), iv ((0 : Int32) + (own_i (own_D c0))), iv (0 : Int32), .unset] [])) _
      refine XS.iload X110.here hx rfl (hb hby at_205) rfl  ?_
      refine XS.aload X110.here hx rfl (hb hby at_207) rfl rfl ?_
      show Steps p.tables e below (T110.setTop (mkF m 209 #[iv p0, iv p1, iv p2, iv p3, iv p4, iv ii, iv (2 : Int32), rv b7, rv b30, iv (own_i (own_wf s1 d1)), iv (own_i (own_al c0 (0 : Int32))), iv ((0 : Int32) + (own_i (own_D c0))), iv (0 : Int32), .unset] [(.ref b7), (.int (0 : Int32))])) _
      refine XS.iconst X110.here hx rfl (hb hby at_209) ?_
      exact k)
    obtain ⟨cl114, Ar114, q114, S114, n114_, H114, G114⟩ := id f95_A_b7
    have hin114 : ¬ ((0 : Int32) < 0 ∨ cl114.slots.size ≤ ((0 : Int32)).toNatClampNeg) := inb_of S114 ⟨by decide, by decide⟩
    have hat114 : cl114.slots[((0 : Int32)).toNatClampNeg]? = some (.int c0) := Has.at H114 hin114 rfl
    have R115 : ∀ t, Steps p.tables e below (T110.setTop (mkF m 211 #[iv p0, iv p1, iv p2, iv p3, iv p4, iv ii, iv (2 : Int32), rv b7, rv b30, iv (own_i (own_wf s1 d1)), iv (own_i (own_al c0 (0 : Int32))), iv ((0 : Int32) + (own_i (own_D c0))), iv (0 : Int32), .unset] [(.int c0), (.int (0 : Int32))])) t → Steps p.tables e below (s₁.setTop f0) t := fun t k => R113 t (X110.caload hx (j := (0 : Int32)) (v := (.int c0)) (by rw [p110_0]; exact Ar114.1) (State.isArrayOf_alike hZ.alike Ar114.2.1) Ar114.2.2 hin114 hat114 (g := (mkF m 210 #[iv p0, iv p1, iv p2, iv p3, iv p4, iv ii, iv (2 : Int32), rv b7, rv b30, iv (own_i (own_wf s1 d1)), iv (own_i (own_al c0 (0 : Int32))), iv ((0 : Int32) + (own_i (own_D c0))), iv (0 : Int32), .unset] [(.int (0 : Int32)), (.ref b7), (.int (0 : Int32))])) rfl rfl (hb hby at_210) _ k)
    have R116 : ∀ t, Steps p.tables e below (T110.setTop (mkF m 213 #[iv p0, iv p1, iv p2, iv p3, iv p4, iv ii, iv (2 : Int32), rv b7, rv b30, iv (own_i (own_wf s1 d1)), iv (own_i (own_al c0 (0 : Int32))), iv ((0 : Int32) + (own_i (own_D c0))), iv (0 : Int32), .unset] [(.int (46 : Int32)), (.int c0), (.int (0 : Int32))])) t → Steps p.tables e below (s₁.setTop f0) t := fun t k => R115 t (by
      show Steps p.tables e below (T110.setTop (mkF m 211 #[iv p0, iv p1, iv p2, iv p3, iv p4, iv ii, iv (2 : Int32), rv b7, rv b30, iv (own_i (own_wf s1 d1)), iv (own_i (own_al c0 (0 : Int32))), iv ((0 : Int32) + (own_i (own_D c0))), iv (0 : Int32), .unset] [(.int c0), (.int (0 : Int32))])) _
      refine XS.bipush X110.here hx rfl (hb hby at_211) ?_
      exact k)
    have R117 : ∀ t, Steps p.tables e below (T110.setTop (mkF m 221 #[iv p0, iv p1, iv p2, iv p3, iv p4, iv ii, iv (2 : Int32), rv b7, rv b30, iv (own_i (own_wf s1 d1)), iv (own_i (own_al c0 (0 : Int32))), iv ((0 : Int32) + (own_i (own_D c0))), iv (0 : Int32), .unset] [(.int (own_i (own_P c0))), (.int (0 : Int32))])) t → Steps p.tables e below (s₁.setTop f0) t := by
      intro t k
      refine R116 t ?_
      by_cases hm1 : c0 = (46 : Int32)
      · skip
        show Steps p.tables e below (T110.setTop (mkF m 213 #[iv p0, iv p1, iv p2, iv p3, iv p4, iv ii, iv (2 : Int32), rv b7, rv b30, iv (own_i (own_wf s1 d1)), iv (own_i (own_al c0 (0 : Int32))), iv ((0 : Int32) + (own_i (own_D c0))), iv (0 : Int32), .unset] [(.int (46 : Int32)), (.int c0), (.int (0 : Int32))])) _
        refine XS.icmpNo X110.here hx rfl (hb hby at_213) rfl (teq hm1).2 ?_
        refine XS.iconst X110.here hx rfl (hb hby at_216) ?_
        show Steps p.tables e below (T110.setTop (mkF m 217 #[iv p0, iv p1, iv p2, iv p3, iv p4, iv ii, iv (2 : Int32), rv b7, rv b30, iv (own_i (own_wf s1 d1)), iv (own_i (own_al c0 (0 : Int32))), iv ((0 : Int32) + (own_i (own_D c0))), iv (0 : Int32), .unset] [(.int (1 : Int32)), (.int (0 : Int32))])) _
        refine XS.goto X110.here hx rfl (pc0 := 217) (pc' := 221) rfl (hb hby at_217) (by decide) (by decide) ?_
        have hv : (own_i (own_P c0)) = (1 : Int32) := by (try simp only [lw_gt, lw_lt, lw_eq, own_i_eq0, Bool.not_eq_false] at hm1); simp [own_i, own_P, hm1]
        rw [hv] at k
        exact k
      · skip
        show Steps p.tables e below (T110.setTop (mkF m 213 #[iv p0, iv p1, iv p2, iv p3, iv p4, iv ii, iv (2 : Int32), rv b7, rv b30, iv (own_i (own_wf s1 d1)), iv (own_i (own_al c0 (0 : Int32))), iv ((0 : Int32) + (own_i (own_D c0))), iv (0 : Int32), .unset] [(.int (46 : Int32)), (.int c0), (.int (0 : Int32))])) _
        refine XS.icmpYes X110.here hx rfl (pc0 := 213) (pc' := 220) rfl (hb hby at_213) rfl (feq hm1).2 (by decide) (by decide) ?_
        refine XS.iconst X110.here hx rfl (hb hby at_220) ?_
        have hv : (own_i (own_P c0)) = (0 : Int32) := by (try simp only [lw_gt, lw_lt, lw_eq, own_i_eq0, Bool.not_eq_false] at hm1); simp [own_i, own_P, hm1]
        rw [hv] at k
        exact k
    have R118 : ∀ t, Steps p.tables e below (T110.setTop (mkF m 232 #[iv p0, iv p1, iv p2, iv p3, iv p4, iv ii, iv (2 : Int32), rv b7, rv b30, iv (own_i (own_wf s1 d1)), iv (own_i (own_al c0 (0 : Int32))), iv ((0 : Int32) + (own_i (own_D c0))), iv ((0 : Int32) + (own_i (own_P c0))), .unset] [(.int (own_i (own_al c0 (0 : Int32))))])) t → Steps p.tables e below (s₁.setTop f0) t := fun t k => R117 t (by
      show Steps p.tables e below (T110.setTop (mkF m 221 #[iv p0, iv p1, iv p2, iv p3, iv p4, iv ii, iv (2 : Int32), rv b7, rv b30, iv (own_i (own_wf s1 d1)), iv (own_i (own_al c0 (0 : Int32))), iv ((0 : Int32) + (own_i (own_D c0))), iv (0 : Int32), .unset] [(.int (own_i (own_P c0))), (.int (0 : Int32))])) _
      refine XS.iadd X110.here hx rfl (hb hby at_221) rfl ?_
      refine XS.istore X110.here hx rfl (hb hby at_222) rfl (l' := #[iv p0, iv p1, iv p2, iv p3, iv p4, iv ii, iv (2 : Int32), rv b7, rv b30, iv (own_i (own_wf s1 d1)), iv (own_i (own_al c0 (0 : Int32))), iv ((0 : Int32) + (own_i (own_D c0))), iv ((0 : Int32) + (own_i (own_P c0))), .unset]) rfl ?_
      show Steps p.tables e below (T110.setTop (mkF m 224 #[iv p0, iv p1, iv p2, iv p3, iv p4, iv ii, iv (2 : Int32), rv b7, rv b30, iv (own_i (own_wf s1 d1)), iv (own_i (own_al c0 (0 : Int32))), iv ((0 : Int32) + (own_i (own_D c0))), iv ((0 : Int32) + (own_i (own_P c0))), .unset] [])) _
      refine XS.iload X110.here hx rfl (hb hby at_224) rfl  ?_
      refine XS.iconst X110.here hx rfl (hb hby at_226) ?_
      show Steps p.tables e below (T110.setTop (mkF m 227 #[iv p0, iv p1, iv p2, iv p3, iv p4, iv ii, iv (2 : Int32), rv b7, rv b30, iv (own_i (own_wf s1 d1)), iv (own_i (own_al c0 (0 : Int32))), iv ((0 : Int32) + (own_i (own_D c0))), iv ((0 : Int32) + (own_i (own_P c0))), .unset] [(.int (1 : Int32)), (.int (2 : Int32))])) _
      refine XS.icmpNo X110.here hx rfl (hb hby at_227) rfl (tlt (by decide : (1 : Int32) < (2 : Int32))).2.2.2 ?_
      refine XS.iload X110.here hx rfl (hb hby at_230) rfl  ?_
      exact k)
    obtain ⟨T128, L128, X128, N128, e128, R128⟩ : ∃ (T' : State) (L' : List Loc), Stand p l e room_1 s m #[(.int p0), (.int p1), (.int p2), (.int p3), (.int p4)] below meth c T' L' 2 12 ∧ Fr n0 L' ∧ T'.heap = T95.heap ∧ ∀ t, Steps p.tables e below (T'.setTop (mkF m 251 #[iv p0, iv p1, iv p2, iv p3, iv p4, iv ii, iv (2 : Int32), rv b7, rv b30, iv (own_i (own_wf s1 d1)), iv (own_i (own_al c0 (0 : Int32))), iv ((0 : Int32) + (own_i (own_D c0))), iv ((0 : Int32) + (own_i (own_P c0))), .unset] [(.int (own_i ((own_al c0 (0 : Int32)) && own_al c1 (1 : Int32))))])) t → Steps p.tables e below (s₁.setTop f0) t := by
      by_cases hg2 : (own_i (own_al c0 (0 : Int32))) = (0 : Int32)
      · skip
        have R119 : ∀ t, Steps p.tables e below (T110.setTop (mkF m 251 #[iv p0, iv p1, iv p2, iv p3, iv p4, iv ii, iv (2 : Int32), rv b7, rv b30, iv (own_i (own_wf s1 d1)), iv (own_i (own_al c0 (0 : Int32))), iv ((0 : Int32) + (own_i (own_D c0))), iv ((0 : Int32) + (own_i (own_P c0))), .unset] [(.int (0 : Int32))])) t → Steps p.tables e below (s₁.setTop f0) t := fun t k => R118 t (by
          show Steps p.tables e below (T110.setTop (mkF m 232 #[iv p0, iv p1, iv p2, iv p3, iv p4, iv ii, iv (2 : Int32), rv b7, rv b30, iv (own_i (own_wf s1 d1)), iv (own_i (own_al c0 (0 : Int32))), iv ((0 : Int32) + (own_i (own_D c0))), iv ((0 : Int32) + (own_i (own_P c0))), .unset] [(.int (own_i (own_al c0 (0 : Int32))))])) _
          refine XS.ifYes X110.here hx rfl (pc0 := 232) (pc' := 250) rfl (hb hby at_232) rfl ((if0 _ _).trans (teq hg2).1) (by decide) (by decide) ?_
          refine XS.iconst X110.here hx rfl (hb hby at_250) ?_
          exact k)
        have hv0 : (own_i ((own_al c0 (0 : Int32)) && own_al c1 (1 : Int32))) = (0 : Int32) := by (try simp only [lw_gt, lw_lt, lw_eq, own_i_eq0, Bool.not_eq_false] at hg2); simp [own_i, hg2]
        rw [hv0]
        exact ⟨T110, _, X110, N110, p110_0, R119⟩
      · skip
        have R120 : ∀ t, Steps p.tables e below (T110.setTop (mkF m 238 #[iv p0, iv p1, iv p2, iv p3, iv p4, iv ii, iv (2 : Int32), rv b7, rv b30, iv (own_i (own_wf s1 d1)), iv (own_i (own_al c0 (0 : Int32))), iv ((0 : Int32) + (own_i (own_D c0))), iv ((0 : Int32) + (own_i (own_P c0))), .unset] [(.int (1 : Int32)), (.ref b7)])) t → Steps p.tables e below (s₁.setTop f0) t := fun t k => R118 t (by
          show Steps p.tables e below (T110.setTop (mkF m 232 #[iv p0, iv p1, iv p2, iv p3, iv p4, iv ii, iv (2 : Int32), rv b7, rv b30, iv (own_i (own_wf s1 d1)), iv (own_i (own_al c0 (0 : Int32))), iv ((0 : Int32) + (own_i (own_D c0))), iv ((0 : Int32) + (own_i (own_P c0))), .unset] [(.int (own_i (own_al c0 (0 : Int32))))])) _
          refine XS.ifNo X110.here hx rfl (hb hby at_232) rfl ((if0 _ _).trans (feq hg2).1) ?_
          refine XS.aload X110.here hx rfl (hb hby at_235) rfl rfl ?_
          show Steps p.tables e below (T110.setTop (mkF m 237 #[iv p0, iv p1, iv p2, iv p3, iv p4, iv ii, iv (2 : Int32), rv b7, rv b30, iv (own_i (own_wf s1 d1)), iv (own_i (own_al c0 (0 : Int32))), iv ((0 : Int32) + (own_i (own_D c0))), iv ((0 : Int32) + (own_i (own_P c0))), .unset] [(.ref b7)])) _
          refine XS.iconst X110.here hx rfl (hb hby at_237) ?_
          exact k)
        obtain ⟨cl121, Ar121, q121, S121, n121_, H121, G121⟩ := id f95_A_b7
        have hin121 : ¬ ((1 : Int32) < 0 ∨ cl121.slots.size ≤ ((1 : Int32)).toNatClampNeg) := inb_of S121 ⟨by decide, by decide⟩
        have hat121 : cl121.slots[((1 : Int32)).toNatClampNeg]? = some (.int c1) := Has.at H121 hin121 rfl
        have R122 : ∀ t, Steps p.tables e below (T110.setTop (mkF m 239 #[iv p0, iv p1, iv p2, iv p3, iv p4, iv ii, iv (2 : Int32), rv b7, rv b30, iv (own_i (own_wf s1 d1)), iv (own_i (own_al c0 (0 : Int32))), iv ((0 : Int32) + (own_i (own_D c0))), iv ((0 : Int32) + (own_i (own_P c0))), .unset] [(.int c1)])) t → Steps p.tables e below (s₁.setTop f0) t := fun t k => R120 t (X110.caload hx (j := (1 : Int32)) (v := (.int c1)) (by rw [p110_0]; exact Ar121.1) (State.isArrayOf_alike hZ.alike Ar121.2.1) Ar121.2.2 hin121 hat121 (g := (mkF m 238 #[iv p0, iv p1, iv p2, iv p3, iv p4, iv ii, iv (2 : Int32), rv b7, rv b30, iv (own_i (own_wf s1 d1)), iv (own_i (own_al c0 (0 : Int32))), iv ((0 : Int32) + (own_i (own_D c0))), iv ((0 : Int32) + (own_i (own_P c0))), .unset] [(.int (1 : Int32)), (.ref b7)])) rfl rfl (hb hby at_238) _ k)
        have R123 : ∀ t, Steps p.tables e below (T110.setTop (mkF m 240 #[iv p0, iv p1, iv p2, iv p3, iv p4, iv ii, iv (2 : Int32), rv b7, rv b30, iv (own_i (own_wf s1 d1)), iv (own_i (own_al c0 (0 : Int32))), iv ((0 : Int32) + (own_i (own_D c0))), iv ((0 : Int32) + (own_i (own_P c0))), .unset] [(.int (1 : Int32)), (.int c1)])) t → Steps p.tables e below (s₁.setTop f0) t := fun t k => R122 t (by
          show Steps p.tables e below (T110.setTop (mkF m 239 #[iv p0, iv p1, iv p2, iv p3, iv p4, iv ii, iv (2 : Int32), rv b7, rv b30, iv (own_i (own_wf s1 d1)), iv (own_i (own_al c0 (0 : Int32))), iv ((0 : Int32) + (own_i (own_D c0))), iv ((0 : Int32) + (own_i (own_P c0))), .unset] [(.int c1)])) _
          refine XS.iconst X110.here hx rfl (hb hby at_239) ?_
          exact k)
        obtain ⟨_, _, ⟨T124, L124, k124, n124⟩, -, X124, ⟨Lc124, hQ124, l124, y124, z124⟩, st124⟩ := Jvm.LawKit.callS X110 hx (y := (⟨sN5, "allowed", "(CI)Z"⟩ : MethodName)) hown (mvT hZ (hw _ (List.mem_of_getElem? (i := 73) rfl))) (mvT hZ (hw _ (List.mem_of_getElem? (i := 74) rfl))) (mvT hZ (hw _ (List.mem_of_getElem? (i := 3) rfl))) (mvT hZ (hw _ (List.mem_of_getElem? (i := 75) rfl))) (by decide) (backOf (W := 0) (rmAll l Z a0 hw [] c1 (1 : Int32) T95.heap n0 z95) hZ (hw _ (List.mem_of_getElem? (i := 75) rfl)) (hw _ (List.mem_of_getElem? (i := 3) rfl)) (by decide) (by decide)) (g := (mkF m 240 #[iv p0, iv p1, iv p2, iv p3, iv p4, iv ii, iv (2 : Int32), rv b7, rv b30, iv (own_i (own_wf s1 d1)), iv (own_i (own_al c0 (0 : Int32))), iv ((0 : Int32) + (own_i (own_D c0))), iv ((0 : Int32) + (own_i (own_P c0))), .unset] [(.int (1 : Int32)), (.int c1)])) rfl (by rw [hml]; rfl) (argsL := [(.int c1), (.int (1 : Int32))]) (rest := []) (lenOf pd_11 rfl) rfl (by show 2 * 0 + _ ≤ _; exact Nat.le_of_eq rfl) (hb hby at_240) (fun _ _ => ⟨rfl, p110_0, (by decide : 2 + 0 ≤ _), (by decide : 12 + 0 ≤ _)⟩)
        dsimp only [Pt.U, Pt.locs, Pt.cells, Pt.slots] at X124 l124 y124 z124 st124 hQ124
        subst l124 y124 z124
        obtain ⟨rfl, N124q, p124_0⟩ := hQ124
        have N124 := Fr.app N110 N124q
        have R125 : ∀ t, Steps p.tables e below (T124.setTop (mkF m 243 #[iv p0, iv p1, iv p2, iv p3, iv p4, iv ii, iv (2 : Int32), rv b7, rv b30, iv (own_i (own_wf s1 d1)), iv (own_i (own_al c0 (0 : Int32))), iv ((0 : Int32) + (own_i (own_D c0))), iv ((0 : Int32) + (own_i (own_P c0))), .unset] [(.int (own_i (own_al c1 (1 : Int32))))])) t → Steps p.tables e below (s₁.setTop f0) t := fun t k => R123 t (st124 t k)
        by_cases hg3 : (own_i (own_al c1 (1 : Int32))) = (0 : Int32)
        · skip
          have R126 : ∀ t, Steps p.tables e below (T124.setTop (mkF m 251 #[iv p0, iv p1, iv p2, iv p3, iv p4, iv ii, iv (2 : Int32), rv b7, rv b30, iv (own_i (own_wf s1 d1)), iv (own_i (own_al c0 (0 : Int32))), iv ((0 : Int32) + (own_i (own_D c0))), iv ((0 : Int32) + (own_i (own_P c0))), .unset] [(.int (0 : Int32))])) t → Steps p.tables e below (s₁.setTop f0) t := fun t k => R125 t (by
            show Steps p.tables e below (T124.setTop (mkF m 243 #[iv p0, iv p1, iv p2, iv p3, iv p4, iv ii, iv (2 : Int32), rv b7, rv b30, iv (own_i (own_wf s1 d1)), iv (own_i (own_al c0 (0 : Int32))), iv ((0 : Int32) + (own_i (own_D c0))), iv ((0 : Int32) + (own_i (own_P c0))), .unset] [(.int (own_i (own_al c1 (1 : Int32))))])) _
            refine XS.ifYes X124.here hx rfl (pc0 := 243) (pc' := 250) rfl (hb hby at_243) rfl ((if0 _ _).trans (teq hg3).1) (by decide) (by decide) ?_
            refine XS.iconst X124.here hx rfl (hb hby at_250) ?_
            exact k)
          have hv0 : (own_i ((own_al c0 (0 : Int32)) && own_al c1 (1 : Int32))) = (0 : Int32) := by (try simp only [lw_gt, lw_lt, lw_eq, own_i_eq0, Bool.not_eq_false] at hg2); (try simp only [lw_gt, lw_lt, lw_eq, own_i_eq0, Bool.not_eq_false] at hg3); simp [own_i, hg2, hg3]
          rw [hv0]
          exact ⟨T124, _, X124, N124, p124_0, R126⟩
        · skip
          have R127 : ∀ t, Steps p.tables e below (T124.setTop (mkF m 251 #[iv p0, iv p1, iv p2, iv p3, iv p4, iv ii, iv (2 : Int32), rv b7, rv b30, iv (own_i (own_wf s1 d1)), iv (own_i (own_al c0 (0 : Int32))), iv ((0 : Int32) + (own_i (own_D c0))), iv ((0 : Int32) + (own_i (own_P c0))), .unset] [(.int (1 : Int32))])) t → Steps p.tables e below (s₁.setTop f0) t := fun t k => R125 t (by
            show Steps p.tables e below (T124.setTop (mkF m 243 #[iv p0, iv p1, iv p2, iv p3, iv p4, iv ii, iv (2 : Int32), rv b7, rv b30, iv (own_i (own_wf s1 d1)), iv (own_i (own_al c0 (0 : Int32))), iv ((0 : Int32) + (own_i (own_D c0))), iv ((0 : Int32) + (own_i (own_P c0))), .unset] [(.int (own_i (own_al c1 (1 : Int32))))])) _
            refine XS.ifNo X124.here hx rfl (hb hby at_243) rfl ((if0 _ _).trans (feq hg3).1) ?_
            refine XS.iconst X124.here hx rfl (hb hby at_246) ?_
            show Steps p.tables e below (T124.setTop (mkF m 247 #[iv p0, iv p1, iv p2, iv p3, iv p4, iv ii, iv (2 : Int32), rv b7, rv b30, iv (own_i (own_wf s1 d1)), iv (own_i (own_al c0 (0 : Int32))), iv ((0 : Int32) + (own_i (own_D c0))), iv ((0 : Int32) + (own_i (own_P c0))), .unset] [(.int (1 : Int32))])) _
            refine XS.goto X124.here hx rfl (pc0 := 247) (pc' := 251) rfl (hb hby at_247) (by decide) (by decide) ?_
            exact k)
          have hv0 : (own_i ((own_al c0 (0 : Int32)) && own_al c1 (1 : Int32))) = (1 : Int32) := by (try simp only [lw_gt, lw_lt, lw_eq, own_i_eq0, Bool.not_eq_false] at hg2); (try simp only [lw_gt, lw_lt, lw_eq, own_i_eq0, Bool.not_eq_false] at hg3); simp [own_i, hg2, hg3]
          rw [hv0]
          exact ⟨T124, _, X124, N124, p124_0, R127⟩
    have R129 : ∀ t, Steps p.tables e below (T128.setTop (mkF m 258 #[iv p0, iv p1, iv p2, iv p3, iv p4, iv ii, iv (2 : Int32), rv b7, rv b30, iv (own_i (own_wf s1 d1)), iv (own_i ((own_al c0 (0 : Int32)) && own_al c1 (1 : Int32))), iv ((0 : Int32) + (own_i (own_D c0))), iv ((0 : Int32) + (own_i (own_P c0))), .unset] [(.int (1 : Int32)), (.ref b7), (.int ((0 : Int32) + (own_i (own_D c0))))])) t → Steps p.tables e below (s₁.setTop f0) t := fun t k => R128 t (by
      show Steps p.tables e below (T128.setTop (mkF m 251 #[iv p0, iv p1, iv p2, iv p3, iv p4, iv ii, iv (2 : Int32), rv b7, rv b30, iv (own_i (own_wf s1 d1)), iv (own_i (own_al c0 (0 : Int32))), iv ((0 : Int32) + (own_i (own_D c0))), iv ((0 : Int32) + (own_i (own_P c0))), .unset] [(.int (own_i ((own_al c0 (0 : Int32)) && own_al c1 (1 : Int32))))])) _
      refine XS.istore X128.here hx rfl (hb hby at_251) rfl (l' := #[iv p0, iv p1, iv p2, iv p3, iv p4, iv ii, iv (2 : Int32), rv b7, rv b30, iv (own_i (own_wf s1 d1)), iv (own_i ((own_al c0 (0 : Int32)) && own_al c1 (1 : Int32))), iv ((0 : Int32) + (own_i (own_D c0))), iv ((0 : Int32) + (own_i (own_P c0))), .unset]) rfl ?_
      refine XS.iload X128.here hx rfl (hb hby at_253) rfl  ?_
      show Steps p.tables e below (T128.setTop (mkF m 255 #[iv p0, iv p1, iv p2, iv p3, iv p4, iv ii, iv (2 : Int32), rv b7, rv b30, iv (own_i (own_wf s1 d1)), iv (own_i ((own_al c0 (0 : Int32)) && own_al c1 (1 : Int32))), iv ((0 : Int32) + (own_i (own_D c0))), iv ((0 : Int32) + (own_i (own_P c0))), .unset] [(.int ((0 : Int32) + (own_i (own_D c0))))])) _
      refine XS.aload X128.here hx rfl (hb hby at_255) rfl rfl ?_
      refine XS.iconst X128.here hx rfl (hb hby at_257) ?_
      exact k)
    obtain ⟨cl130, Ar130, q130, S130, n130_, H130, G130⟩ := id f95_A_b7
    have hin130 : ¬ ((1 : Int32) < 0 ∨ cl130.slots.size ≤ ((1 : Int32)).toNatClampNeg) := inb_of S130 ⟨by decide, by decide⟩
    have hat130 : cl130.slots[((1 : Int32)).toNatClampNeg]? = some (.int c1) := Has.at H130 hin130 rfl
    have R131 : ∀ t, Steps p.tables e below (T128.setTop (mkF m 259 #[iv p0, iv p1, iv p2, iv p3, iv p4, iv ii, iv (2 : Int32), rv b7, rv b30, iv (own_i (own_wf s1 d1)), iv (own_i ((own_al c0 (0 : Int32)) && own_al c1 (1 : Int32))), iv ((0 : Int32) + (own_i (own_D c0))), iv ((0 : Int32) + (own_i (own_P c0))), .unset] [(.int c1), (.int ((0 : Int32) + (own_i (own_D c0))))])) t → Steps p.tables e below (s₁.setTop f0) t := fun t k => R129 t (X128.caload hx (j := (1 : Int32)) (v := (.int c1)) (by rw [e128]; exact Ar130.1) (State.isArrayOf_alike hZ.alike Ar130.2.1) Ar130.2.2 hin130 hat130 (g := (mkF m 258 #[iv p0, iv p1, iv p2, iv p3, iv p4, iv ii, iv (2 : Int32), rv b7, rv b30, iv (own_i (own_wf s1 d1)), iv (own_i ((own_al c0 (0 : Int32)) && own_al c1 (1 : Int32))), iv ((0 : Int32) + (own_i (own_D c0))), iv ((0 : Int32) + (own_i (own_P c0))), .unset] [(.int (1 : Int32)), (.ref b7), (.int ((0 : Int32) + (own_i (own_D c0))))])) rfl rfl (hb hby at_258) _ k)
    obtain ⟨_, _, ⟨T132, L132, k132, n132⟩, -, X132, ⟨Lc132, hQ132, l132, y132, z132⟩, st132⟩ := Jvm.LawKit.callS X128 hx (y := (⟨sN5, "isDigit", "(C)Z"⟩ : MethodName)) hown (mvT hZ (hw _ (List.mem_of_getElem? (i := 76) rfl))) (mvT hZ (hw _ (List.mem_of_getElem? (i := 77) rfl))) (mvT hZ (hw _ (List.mem_of_getElem? (i := 3) rfl))) (mvT hZ (hw _ (List.mem_of_getElem? (i := 78) rfl))) (by decide) (backOf (W := 1) (rmIsd l Z a0 hw [] c1 T95.heap n0 z95) hZ (hw _ (List.mem_of_getElem? (i := 78) rfl)) (hw _ (List.mem_of_getElem? (i := 3) rfl)) (by decide) (by decide)) (g := (mkF m 259 #[iv p0, iv p1, iv p2, iv p3, iv p4, iv ii, iv (2 : Int32), rv b7, rv b30, iv (own_i (own_wf s1 d1)), iv (own_i ((own_al c0 (0 : Int32)) && own_al c1 (1 : Int32))), iv ((0 : Int32) + (own_i (own_D c0))), iv ((0 : Int32) + (own_i (own_P c0))), .unset] [(.int c1), (.int ((0 : Int32) + (own_i (own_D c0))))])) rfl (by rw [hml]; rfl) (argsL := [(.int c1)]) (rest := [(.int ((0 : Int32) + (own_i (own_D c0))))]) (lenOf pd_5 rfl) rfl (by show 2 * 0 + _ ≤ _; exact Nat.le_of_eq rfl) (hb hby at_259) (fun _ _ => ⟨rfl, e128, (by decide : 2 + 0 ≤ _), (by decide : 12 + 0 ≤ _)⟩)
    dsimp only [Pt.U, Pt.locs, Pt.cells, Pt.slots] at X132 l132 y132 z132 st132 hQ132
    subst l132 y132 z132
    obtain ⟨rfl, N132q, p132_0⟩ := hQ132
    have N132 := Fr.app N128 N132q
    have R133 : ∀ t, Steps p.tables e below (T132.setTop (mkF m 262 #[iv p0, iv p1, iv p2, iv p3, iv p4, iv ii, iv (2 : Int32), rv b7, rv b30, iv (own_i (own_wf s1 d1)), iv (own_i ((own_al c0 (0 : Int32)) && own_al c1 (1 : Int32))), iv ((0 : Int32) + (own_i (own_D c0))), iv ((0 : Int32) + (own_i (own_P c0))), .unset] [(.int (own_i (own_D c1))), (.int ((0 : Int32) + (own_i (own_D c0))))])) t → Steps p.tables e below (s₁.setTop f0) t := fun t k => R131 t (st132 t k)
    have R134 : ∀ t, Steps p.tables e below (T132.setTop (mkF m 270 #[iv p0, iv p1, iv p2, iv p3, iv p4, iv ii, iv (2 : Int32), rv b7, rv b30, iv (own_i (own_wf s1 d1)), iv (own_i ((own_al c0 (0 : Int32)) && own_al c1 (1 : Int32))), iv ((0 : Int32) + (own_i (own_D c0))), iv ((0 : Int32) + (own_i (own_P c0))), .unset] [(.int (own_i (own_D c1))), (.int ((0 : Int32) + (own_i (own_D c0))))])) t → Steps p.tables e below (s₁.setTop f0) t := by
      intro t k
      refine R133 t ?_
      by_cases hm1 : (own_i (own_D c1)) = (0 : Int32)
      · skip
        show Steps p.tables e below (T132.setTop (mkF m 262 #[iv p0, iv p1, iv p2, iv p3, iv p4, iv ii, iv (2 : Int32), rv b7, rv b30, iv (own_i (own_wf s1 d1)), iv (own_i ((own_al c0 (0 : Int32)) && own_al c1 (1 : Int32))), iv ((0 : Int32) + (own_i (own_D c0))), iv ((0 : Int32) + (own_i (own_P c0))), .unset] [(.int (own_i (own_D c1))), (.int ((0 : Int32) + (own_i (own_D c0))))])) _
        refine XS.ifYes X132.here hx rfl (pc0 := 262) (pc' := 269) rfl (hb hby at_262) rfl ((if0 _ _).trans (teq hm1).1) (by decide) (by decide) ?_
        refine XS.iconst X132.here hx rfl (hb hby at_269) ?_
        have hv : (own_i (own_D c1)) = (0 : Int32) := by (try simp only [lw_gt, lw_lt, lw_eq, own_i_eq0, Bool.not_eq_false] at hm1); simp [own_i, hm1]
        rw [hv] at k
        exact k
      · skip
        show Steps p.tables e below (T132.setTop (mkF m 262 #[iv p0, iv p1, iv p2, iv p3, iv p4, iv ii, iv (2 : Int32), rv b7, rv b30, iv (own_i (own_wf s1 d1)), iv (own_i ((own_al c0 (0 : Int32)) && own_al c1 (1 : Int32))), iv ((0 : Int32) + (own_i (own_D c0))), iv ((0 : Int32) + (own_i (own_P c0))), .unset] [(.int (own_i (own_D c1))), (.int ((0 : Int32) + (own_i (own_D c0))))])) _
        refine XS.ifNo X132.here hx rfl (hb hby at_262) rfl ((if0 _ _).trans (feq hm1).1) ?_
        refine XS.iconst X132.here hx rfl (hb hby at_265) ?_
        show Steps p.tables e below (T132.setTop (mkF m 266 #[iv p0, iv p1, iv p2, iv p3, iv p4, iv ii, iv (2 : Int32), rv b7, rv b30, iv (own_i (own_wf s1 d1)), iv (own_i ((own_al c0 (0 : Int32)) && own_al c1 (1 : Int32))), iv ((0 : Int32) + (own_i (own_D c0))), iv ((0 : Int32) + (own_i (own_P c0))), .unset] [(.int (1 : Int32)), (.int ((0 : Int32) + (own_i (own_D c0))))])) _
        refine XS.goto X132.here hx rfl (pc0 := 266) (pc' := 270) rfl (hb hby at_266) (by decide) (by decide) ?_
        have hv : (own_i (own_D c1)) = (1 : Int32) := by (try simp only [lw_gt, lw_lt, lw_eq, own_i_eq0, Bool.not_eq_false] at hm1); simp [own_i, hm1]
        rw [hv] at k
        exact k
    have R135 : ∀ t, Steps p.tables e below (T132.setTop (mkF m 278 #[iv p0, iv p1, iv p2, iv p3, iv p4, iv ii, iv (2 : Int32), rv b7, rv b30, iv (own_i (own_wf s1 d1)), iv (own_i ((own_al c0 (0 : Int32)) && own_al c1 (1 : Int32))), iv (((0 : Int32) + (own_i (own_D c0))) + (own_i (own_D c1))), iv ((0 : Int32) + (own_i (own_P c0))), .unset] [(.int (1 : Int32)), (.ref b7), (.int ((0 : Int32) + (own_i (own_P c0))))])) t → Steps p.tables e below (s₁.setTop f0) t := fun t k => R134 t (by
      show Steps p.tables e below (T132.setTop (mkF m 270 #[iv p0, iv p1, iv p2, iv p3, iv p4, iv ii, iv (2 : Int32), rv b7, rv b30, iv (own_i (own_wf s1 d1)), iv (own_i ((own_al c0 (0 : Int32)) && own_al c1 (1 : Int32))), iv ((0 : Int32) + (own_i (own_D c0))), iv ((0 : Int32) + (own_i (own_P c0))), .unset] [(.int (own_i (own_D c1))), (.int ((0 : Int32) + (own_i (own_D c0))))])) _
      refine XS.iadd X132.here hx rfl (hb hby at_270) rfl ?_
      refine XS.istore X132.here hx rfl (hb hby at_271) rfl (l' := #[iv p0, iv p1, iv p2, iv p3, iv p4, iv ii, iv (2 : Int32), rv b7, rv b30, iv (own_i (own_wf s1 d1)), iv (own_i ((own_al c0 (0 : Int32)) && own_al c1 (1 : Int32))), iv (((0 : Int32) + (own_i (own_D c0))) + (own_i (own_D c1))), iv ((0 : Int32) + (own_i (own_P c0))), .unset]) rfl ?_
      show Steps p.tables e below (T132.setTop (mkF m 273 #[iv p0, iv p1, iv p2, iv p3, iv p4, iv ii, iv (2 : Int32), rv b7, rv b30, iv (own_i (own_wf s1 d1)), iv (own_i ((own_al c0 (0 : Int32)) && own_al c1 (1 : Int32))), iv (((0 : Int32) + (own_i (own_D c0))) + (own_i (own_D c1))), iv ((0 : Int32) + (own_i (own_P c0))), .unset] [])) _
      refine XS.iload X132.here hx rfl (hb hby at_273) rfl  ?_
      refine XS.aload X132.here hx rfl (hb hby at_275) rfl rfl ?_
      show Steps p.tables e below (T132.setTop (mkF m 277 #[iv p0, iv p1, iv p2, iv p3, iv p4, iv ii, iv (2 : Int32), rv b7, rv b30, iv (own_i (own_wf s1 d1)), iv (own_i ((own_al c0 (0 : Int32)) && own_al c1 (1 : Int32))), iv (((0 : Int32) + (own_i (own_D c0))) + (own_i (own_D c1))), iv ((0 : Int32) + (own_i (own_P c0))), .unset] [(.ref b7), (.int ((0 : Int32) + (own_i (own_P c0))))])) _
      refine XS.iconst X132.here hx rfl (hb hby at_277) ?_
      exact k)
    obtain ⟨cl136, Ar136, q136, S136, n136_, H136, G136⟩ := id f95_A_b7
    have hin136 : ¬ ((1 : Int32) < 0 ∨ cl136.slots.size ≤ ((1 : Int32)).toNatClampNeg) := inb_of S136 ⟨by decide, by decide⟩
    have hat136 : cl136.slots[((1 : Int32)).toNatClampNeg]? = some (.int c1) := Has.at H136 hin136 rfl
    have R137 : ∀ t, Steps p.tables e below (T132.setTop (mkF m 279 #[iv p0, iv p1, iv p2, iv p3, iv p4, iv ii, iv (2 : Int32), rv b7, rv b30, iv (own_i (own_wf s1 d1)), iv (own_i ((own_al c0 (0 : Int32)) && own_al c1 (1 : Int32))), iv (((0 : Int32) + (own_i (own_D c0))) + (own_i (own_D c1))), iv ((0 : Int32) + (own_i (own_P c0))), .unset] [(.int c1), (.int ((0 : Int32) + (own_i (own_P c0))))])) t → Steps p.tables e below (s₁.setTop f0) t := fun t k => R135 t (X132.caload hx (j := (1 : Int32)) (v := (.int c1)) (by rw [p132_0]; exact Ar136.1) (State.isArrayOf_alike hZ.alike Ar136.2.1) Ar136.2.2 hin136 hat136 (g := (mkF m 278 #[iv p0, iv p1, iv p2, iv p3, iv p4, iv ii, iv (2 : Int32), rv b7, rv b30, iv (own_i (own_wf s1 d1)), iv (own_i ((own_al c0 (0 : Int32)) && own_al c1 (1 : Int32))), iv (((0 : Int32) + (own_i (own_D c0))) + (own_i (own_D c1))), iv ((0 : Int32) + (own_i (own_P c0))), .unset] [(.int (1 : Int32)), (.ref b7), (.int ((0 : Int32) + (own_i (own_P c0))))])) rfl rfl (hb hby at_278) _ k)
    have R138 : ∀ t, Steps p.tables e below (T132.setTop (mkF m 281 #[iv p0, iv p1, iv p2, iv p3, iv p4, iv ii, iv (2 : Int32), rv b7, rv b30, iv (own_i (own_wf s1 d1)), iv (own_i ((own_al c0 (0 : Int32)) && own_al c1 (1 : Int32))), iv (((0 : Int32) + (own_i (own_D c0))) + (own_i (own_D c1))), iv ((0 : Int32) + (own_i (own_P c0))), .unset] [(.int (46 : Int32)), (.int c1), (.int ((0 : Int32) + (own_i (own_P c0))))])) t → Steps p.tables e below (s₁.setTop f0) t := fun t k => R137 t (by
      show Steps p.tables e below (T132.setTop (mkF m 279 #[iv p0, iv p1, iv p2, iv p3, iv p4, iv ii, iv (2 : Int32), rv b7, rv b30, iv (own_i (own_wf s1 d1)), iv (own_i ((own_al c0 (0 : Int32)) && own_al c1 (1 : Int32))), iv (((0 : Int32) + (own_i (own_D c0))) + (own_i (own_D c1))), iv ((0 : Int32) + (own_i (own_P c0))), .unset] [(.int c1), (.int ((0 : Int32) + (own_i (own_P c0))))])) _
      refine XS.bipush X132.here hx rfl (hb hby at_279) ?_
      exact k)
    have R139 : ∀ t, Steps p.tables e below (T132.setTop (mkF m 289 #[iv p0, iv p1, iv p2, iv p3, iv p4, iv ii, iv (2 : Int32), rv b7, rv b30, iv (own_i (own_wf s1 d1)), iv (own_i ((own_al c0 (0 : Int32)) && own_al c1 (1 : Int32))), iv (((0 : Int32) + (own_i (own_D c0))) + (own_i (own_D c1))), iv ((0 : Int32) + (own_i (own_P c0))), .unset] [(.int (own_i (own_P c1))), (.int ((0 : Int32) + (own_i (own_P c0))))])) t → Steps p.tables e below (s₁.setTop f0) t := by
      intro t k
      refine R138 t ?_
      by_cases hm1 : c1 = (46 : Int32)
      · skip
        show Steps p.tables e below (T132.setTop (mkF m 281 #[iv p0, iv p1, iv p2, iv p3, iv p4, iv ii, iv (2 : Int32), rv b7, rv b30, iv (own_i (own_wf s1 d1)), iv (own_i ((own_al c0 (0 : Int32)) && own_al c1 (1 : Int32))), iv (((0 : Int32) + (own_i (own_D c0))) + (own_i (own_D c1))), iv ((0 : Int32) + (own_i (own_P c0))), .unset] [(.int (46 : Int32)), (.int c1), (.int ((0 : Int32) + (own_i (own_P c0))))])) _
        refine XS.icmpNo X132.here hx rfl (hb hby at_281) rfl (teq hm1).2 ?_
        refine XS.iconst X132.here hx rfl (hb hby at_284) ?_
        show Steps p.tables e below (T132.setTop (mkF m 285 #[iv p0, iv p1, iv p2, iv p3, iv p4, iv ii, iv (2 : Int32), rv b7, rv b30, iv (own_i (own_wf s1 d1)), iv (own_i ((own_al c0 (0 : Int32)) && own_al c1 (1 : Int32))), iv (((0 : Int32) + (own_i (own_D c0))) + (own_i (own_D c1))), iv ((0 : Int32) + (own_i (own_P c0))), .unset] [(.int (1 : Int32)), (.int ((0 : Int32) + (own_i (own_P c0))))])) _
        refine XS.goto X132.here hx rfl (pc0 := 285) (pc' := 289) rfl (hb hby at_285) (by decide) (by decide) ?_
        have hv : (own_i (own_P c1)) = (1 : Int32) := by (try simp only [lw_gt, lw_lt, lw_eq, own_i_eq0, Bool.not_eq_false] at hm1); simp [own_i, own_P, hm1]
        rw [hv] at k
        exact k
      · skip
        show Steps p.tables e below (T132.setTop (mkF m 281 #[iv p0, iv p1, iv p2, iv p3, iv p4, iv ii, iv (2 : Int32), rv b7, rv b30, iv (own_i (own_wf s1 d1)), iv (own_i ((own_al c0 (0 : Int32)) && own_al c1 (1 : Int32))), iv (((0 : Int32) + (own_i (own_D c0))) + (own_i (own_D c1))), iv ((0 : Int32) + (own_i (own_P c0))), .unset] [(.int (46 : Int32)), (.int c1), (.int ((0 : Int32) + (own_i (own_P c0))))])) _
        refine XS.icmpYes X132.here hx rfl (pc0 := 281) (pc' := 288) rfl (hb hby at_281) rfl (feq hm1).2 (by decide) (by decide) ?_
        refine XS.iconst X132.here hx rfl (hb hby at_288) ?_
        have hv : (own_i (own_P c1)) = (0 : Int32) := by (try simp only [lw_gt, lw_lt, lw_eq, own_i_eq0, Bool.not_eq_false] at hm1); simp [own_i, own_P, hm1]
        rw [hv] at k
        exact k
    have R140 : ∀ t, Steps p.tables e below (T132.setTop (mkF m 428 #[iv p0, iv p1, iv p2, iv p3, iv p4, iv ii, iv (2 : Int32), rv b7, rv b30, iv (own_i (own_wf s1 d1)), iv (own_i ((own_al c0 (0 : Int32)) && own_al c1 (1 : Int32))), iv (((0 : Int32) + (own_i (own_D c0))) + (own_i (own_D c1))), iv (((0 : Int32) + (own_i (own_P c0))) + (own_i (own_P c1))), .unset] [])) t → Steps p.tables e below (s₁.setTop f0) t := fun t k => R139 t (by
      show Steps p.tables e below (T132.setTop (mkF m 289 #[iv p0, iv p1, iv p2, iv p3, iv p4, iv ii, iv (2 : Int32), rv b7, rv b30, iv (own_i (own_wf s1 d1)), iv (own_i ((own_al c0 (0 : Int32)) && own_al c1 (1 : Int32))), iv (((0 : Int32) + (own_i (own_D c0))) + (own_i (own_D c1))), iv ((0 : Int32) + (own_i (own_P c0))), .unset] [(.int (own_i (own_P c1))), (.int ((0 : Int32) + (own_i (own_P c0))))])) _
      refine XS.iadd X132.here hx rfl (hb hby at_289) rfl ?_
      refine XS.istore X132.here hx rfl (hb hby at_290) rfl (l' := #[iv p0, iv p1, iv p2, iv p3, iv p4, iv ii, iv (2 : Int32), rv b7, rv b30, iv (own_i (own_wf s1 d1)), iv (own_i ((own_al c0 (0 : Int32)) && own_al c1 (1 : Int32))), iv (((0 : Int32) + (own_i (own_D c0))) + (own_i (own_D c1))), iv (((0 : Int32) + (own_i (own_P c0))) + (own_i (own_P c1))), .unset]) rfl ?_
      show Steps p.tables e below (T132.setTop (mkF m 292 #[iv p0, iv p1, iv p2, iv p3, iv p4, iv ii, iv (2 : Int32), rv b7, rv b30, iv (own_i (own_wf s1 d1)), iv (own_i ((own_al c0 (0 : Int32)) && own_al c1 (1 : Int32))), iv (((0 : Int32) + (own_i (own_D c0))) + (own_i (own_D c1))), iv (((0 : Int32) + (own_i (own_P c0))) + (own_i (own_P c1))), .unset] [])) _
      refine XS.iload X132.here hx rfl (hb hby at_292) rfl  ?_
      refine XS.iconst X132.here hx rfl (hb hby at_294) ?_
      show Steps p.tables e below (T132.setTop (mkF m 295 #[iv p0, iv p1, iv p2, iv p3, iv p4, iv ii, iv (2 : Int32), rv b7, rv b30, iv (own_i (own_wf s1 d1)), iv (own_i ((own_al c0 (0 : Int32)) && own_al c1 (1 : Int32))), iv (((0 : Int32) + (own_i (own_D c0))) + (own_i (own_D c1))), iv (((0 : Int32) + (own_i (own_P c0))) + (own_i (own_P c1))), .unset] [(.int (2 : Int32)), (.int (2 : Int32))])) _
      refine XS.icmpYes X132.here hx rfl (pc0 := 295) (pc' := 360) rfl (hb hby at_295) rfl (flt (by decide : ¬ ((2 : Int32) < (2 : Int32)))).2.2.2 (by decide) (by decide) ?_
      refine XS.iload X132.here hx rfl (hb hby at_360) rfl  ?_
      show Steps p.tables e below (T132.setTop (mkF m 362 #[iv p0, iv p1, iv p2, iv p3, iv p4, iv ii, iv (2 : Int32), rv b7, rv b30, iv (own_i (own_wf s1 d1)), iv (own_i ((own_al c0 (0 : Int32)) && own_al c1 (1 : Int32))), iv (((0 : Int32) + (own_i (own_D c0))) + (own_i (own_D c1))), iv (((0 : Int32) + (own_i (own_P c0))) + (own_i (own_P c1))), .unset] [(.int (2 : Int32))])) _
      refine XS.iconst X132.here hx rfl (hb hby at_362) ?_
      refine XS.icmpYes X132.here hx rfl (pc0 := 363) (pc' := 428) rfl (hb hby at_363) rfl (flt (by decide : ¬ ((3 : Int32) < (2 : Int32)))).2.2.2 (by decide) (by decide) ?_
      exact k)
    obtain ⟨dg, e_dg⟩ : ∃ z : Int32, z = (((0 : Int32) + (own_i (own_D c0))) + (own_i (own_D c1))) := ⟨_, rfl⟩
    have R141 : ∀ t, Steps p.tables e below (T132.setTop (mkF m 428 #[iv p0, iv p1, iv p2, iv p3, iv p4, iv ii, iv (2 : Int32), rv b7, rv b30, iv (own_i (own_wf s1 d1)), iv (own_i ((own_al c0 (0 : Int32)) && own_al c1 (1 : Int32))), iv dg, iv (((0 : Int32) + (own_i (own_P c0))) + (own_i (own_P c1))), .unset] [])) t → Steps p.tables e below (s₁.setTop f0) t := by have q := R140; rw [← e_dg] at q; exact q
    obtain ⟨dt, e_dt⟩ : ∃ z : Int32, z = (((0 : Int32) + (own_i (own_P c0))) + (own_i (own_P c1))) := ⟨_, rfl⟩
    have R142 : ∀ t, Steps p.tables e below (T132.setTop (mkF m 428 #[iv p0, iv p1, iv p2, iv p3, iv p4, iv ii, iv (2 : Int32), rv b7, rv b30, iv (own_i (own_wf s1 d1)), iv (own_i ((own_al c0 (0 : Int32)) && own_al c1 (1 : Int32))), iv dg, iv dt, .unset] [])) t → Steps p.tables e below (s₁.setTop f0) t := by have q := R141; rw [← e_dt] at q; exact q
    have R143 : ∀ t, Steps p.tables e below (T132.setTop (mkF m 430 #[iv p0, iv p1, iv p2, iv p3, iv p4, iv ii, iv (2 : Int32), rv b7, rv b30, iv (own_i (own_wf s1 d1)), iv (own_i ((own_al c0 (0 : Int32)) && own_al c1 (1 : Int32))), iv dg, iv dt, .unset] [(.int (own_i ((own_al c0 (0 : Int32)) && own_al c1 (1 : Int32))))])) t → Steps p.tables e below (s₁.setTop f0) t := fun t k => R142 t (by
      show Steps p.tables e below (T132.setTop (mkF m 428 #[iv p0, iv p1, iv p2, iv p3, iv p4, iv ii, iv (2 : Int32), rv b7, rv b30, iv (own_i (own_wf s1 d1)), iv (own_i ((own_al c0 (0 : Int32)) && own_al c1 (1 : Int32))), iv dg, iv dt, .unset] [])) _
      refine XS.iload X132.here hx rfl (hb hby at_428) rfl  ?_
      exact k)
    have R144 : ∀ t, Steps p.tables e below (T132.setTop (mkF m 459 #[iv p0, iv p1, iv p2, iv p3, iv p4, iv ii, iv (2 : Int32), rv b7, rv b30, iv (own_i (own_wf s1 d1)), iv (own_i ((own_al c0 (0 : Int32)) && own_al c1 (1 : Int32))), iv dg, iv dt, .unset] [(.int (own_i (((own_al c0 (0 : Int32)) && own_al c1 (1 : Int32)) && ! decide (dg < (1 : Int32)) && ! decide ((own_lim ii) < dt))))])) t → Steps p.tables e below (s₁.setTop f0) t := by
      intro t k
      refine R143 t ?_
      by_cases hm1 : (own_i ((own_al c0 (0 : Int32)) && own_al c1 (1 : Int32))) = (0 : Int32)
      · skip
        show Steps p.tables e below (T132.setTop (mkF m 430 #[iv p0, iv p1, iv p2, iv p3, iv p4, iv ii, iv (2 : Int32), rv b7, rv b30, iv (own_i (own_wf s1 d1)), iv (own_i ((own_al c0 (0 : Int32)) && own_al c1 (1 : Int32))), iv dg, iv dt, .unset] [(.int (own_i ((own_al c0 (0 : Int32)) && own_al c1 (1 : Int32))))])) _
        refine XS.ifYes X132.here hx rfl (pc0 := 430) (pc' := 458) rfl (hb hby at_430) rfl ((if0 _ _).trans (teq hm1).1) (by decide) (by decide) ?_
        refine XS.iconst X132.here hx rfl (hb hby at_458) ?_
        have hv : (own_i (((own_al c0 (0 : Int32)) && own_al c1 (1 : Int32)) && ! decide (dg < (1 : Int32)) && ! decide ((own_lim ii) < dt))) = (0 : Int32) := by (try simp only [lw_gt, lw_lt, lw_eq, own_i_eq0, Bool.not_eq_false] at hm1); simp [own_i, own_lim, own_limB, hm1]
        rw [hv] at k
        exact k
      · skip
        show Steps p.tables e below (T132.setTop (mkF m 430 #[iv p0, iv p1, iv p2, iv p3, iv p4, iv ii, iv (2 : Int32), rv b7, rv b30, iv (own_i (own_wf s1 d1)), iv (own_i ((own_al c0 (0 : Int32)) && own_al c1 (1 : Int32))), iv dg, iv dt, .unset] [(.int (own_i ((own_al c0 (0 : Int32)) && own_al c1 (1 : Int32))))])) _
        refine XS.ifNo X132.here hx rfl (hb hby at_430) rfl ((if0 _ _).trans (feq hm1).1) ?_
        refine XS.iload X132.here hx rfl (hb hby at_433) rfl  ?_
        show Steps p.tables e below (T132.setTop (mkF m 435 #[iv p0, iv p1, iv p2, iv p3, iv p4, iv ii, iv (2 : Int32), rv b7, rv b30, iv (own_i (own_wf s1 d1)), iv (own_i ((own_al c0 (0 : Int32)) && own_al c1 (1 : Int32))), iv dg, iv dt, .unset] [(.int dg)])) _
        refine XS.iconst X132.here hx rfl (hb hby at_435) ?_
        by_cases hm2 : dg < (1 : Int32)
        · skip
          show Steps p.tables e below (T132.setTop (mkF m 436 #[iv p0, iv p1, iv p2, iv p3, iv p4, iv ii, iv (2 : Int32), rv b7, rv b30, iv (own_i (own_wf s1 d1)), iv (own_i ((own_al c0 (0 : Int32)) && own_al c1 (1 : Int32))), iv dg, iv dt, .unset] [(.int (1 : Int32)), (.int dg)])) _
          refine XS.icmpYes X132.here hx rfl (pc0 := 436) (pc' := 458) rfl (hb hby at_436) rfl (tlt hm2).1 (by decide) (by decide) ?_
          refine XS.iconst X132.here hx rfl (hb hby at_458) ?_
          have hv : (own_i (((own_al c0 (0 : Int32)) && own_al c1 (1 : Int32)) && ! decide (dg < (1 : Int32)) && ! decide ((own_lim ii) < dt))) = (0 : Int32) := by (try simp only [lw_gt, lw_lt, lw_eq, own_i_eq0, Bool.not_eq_false] at hm1); (try simp only [lw_gt, lw_lt, lw_eq, own_i_eq0, Bool.not_eq_false] at hm2); simp [own_i, own_lim, own_limB, hm1, hm2]
          rw [hv] at k
          exact k
        · skip
          show Steps p.tables e below (T132.setTop (mkF m 436 #[iv p0, iv p1, iv p2, iv p3, iv p4, iv ii, iv (2 : Int32), rv b7, rv b30, iv (own_i (own_wf s1 d1)), iv (own_i ((own_al c0 (0 : Int32)) && own_al c1 (1 : Int32))), iv dg, iv dt, .unset] [(.int (1 : Int32)), (.int dg)])) _
          refine XS.icmpNo X132.here hx rfl (hb hby at_436) rfl (flt hm2).1 ?_
          refine XS.iload X132.here hx rfl (hb hby at_439) rfl  ?_
          show Steps p.tables e below (T132.setTop (mkF m 441 #[iv p0, iv p1, iv p2, iv p3, iv p4, iv ii, iv (2 : Int32), rv b7, rv b30, iv (own_i (own_wf s1 d1)), iv (own_i ((own_al c0 (0 : Int32)) && own_al c1 (1 : Int32))), iv dg, iv dt, .unset] [(.int dt)])) _
          refine XS.iload X132.here hx rfl (hb hby at_441) rfl  ?_
          by_cases hm3 : ii = (0 : Int32)
          · skip
            show Steps p.tables e below (T132.setTop (mkF m 443 #[iv p0, iv p1, iv p2, iv p3, iv p4, iv ii, iv (2 : Int32), rv b7, rv b30, iv (own_i (own_wf s1 d1)), iv (own_i ((own_al c0 (0 : Int32)) && own_al c1 (1 : Int32))), iv dg, iv dt, .unset] [(.int ii), (.int dt)])) _
            refine XS.ifYes X132.here hx rfl (pc0 := 443) (pc' := 450) rfl (hb hby at_443) rfl ((if0 _ _).trans (teq hm3).1) (by decide) (by decide) ?_
            refine XS.iconst X132.here hx rfl (hb hby at_450) ?_
            by_cases hm4 : (1 : Int32) < dt
            · skip
              show Steps p.tables e below (T132.setTop (mkF m 451 #[iv p0, iv p1, iv p2, iv p3, iv p4, iv ii, iv (2 : Int32), rv b7, rv b30, iv (own_i (own_wf s1 d1)), iv (own_i ((own_al c0 (0 : Int32)) && own_al c1 (1 : Int32))), iv dg, iv dt, .unset] [(.int (1 : Int32)), (.int dt)])) _
              refine XS.icmpYes X132.here hx rfl (pc0 := 451) (pc' := 458) rfl (hb hby at_451) rfl (tlt hm4).2.2.1 (by decide) (by decide) ?_
              refine XS.iconst X132.here hx rfl (hb hby at_458) ?_
              have hv : (own_i (((own_al c0 (0 : Int32)) && own_al c1 (1 : Int32)) && ! decide (dg < (1 : Int32)) && ! decide ((own_lim ii) < dt))) = (0 : Int32) := by (try simp only [lw_gt, lw_lt, lw_eq, own_i_eq0, Bool.not_eq_false] at hm1); (try simp only [lw_gt, lw_lt, lw_eq, own_i_eq0, Bool.not_eq_false] at hm2); (try simp only [lw_gt, lw_lt, lw_eq, own_i_eq0, Bool.not_eq_false] at hm3); (try simp only [lw_gt, lw_lt, lw_eq, own_i_eq0, Bool.not_eq_false] at hm4); simp [own_i, own_lim, own_limB, hm1, hm2, hm3, hm4]
              rw [hv] at k
              exact k
            · skip
              show Steps p.tables e below (T132.setTop (mkF m 451 #[iv p0, iv p1, iv p2, iv p3, iv p4, iv ii, iv (2 : Int32), rv b7, rv b30, iv (own_i (own_wf s1 d1)), iv (own_i ((own_al c0 (0 : Int32)) && own_al c1 (1 : Int32))), iv dg, iv dt, .unset] [(.int (1 : Int32)), (.int dt)])) _
              refine XS.icmpNo X132.here hx rfl (hb hby at_451) rfl (flt hm4).2.2.1 ?_
              refine XS.iconst X132.here hx rfl (hb hby at_454) ?_
              show Steps p.tables e below (T132.setTop (mkF m 455 #[iv p0, iv p1, iv p2, iv p3, iv p4, iv ii, iv (2 : Int32), rv b7, rv b30, iv (own_i (own_wf s1 d1)), iv (own_i ((own_al c0 (0 : Int32)) && own_al c1 (1 : Int32))), iv dg, iv dt, .unset] [(.int (1 : Int32))])) _
              refine XS.goto X132.here hx rfl (pc0 := 455) (pc' := 459) rfl (hb hby at_455) (by decide) (by decide) ?_
              have hv : (own_i (((own_al c0 (0 : Int32)) && own_al c1 (1 : Int32)) && ! decide (dg < (1 : Int32)) && ! decide ((own_lim ii) < dt))) = (1 : Int32) := by (try simp only [lw_gt, lw_lt, lw_eq, own_i_eq0, Bool.not_eq_false] at hm1); (try simp only [lw_gt, lw_lt, lw_eq, own_i_eq0, Bool.not_eq_false] at hm2); (try simp only [lw_gt, lw_lt, lw_eq, own_i_eq0, Bool.not_eq_false] at hm3); (try simp only [lw_gt, lw_lt, lw_eq, own_i_eq0, Bool.not_eq_false] at hm4); simp [own_i, own_lim, own_limB, hm1, hm2, hm3, hm4]
              rw [hv] at k
              exact k
          · skip
            show Steps p.tables e below (T132.setTop (mkF m 443 #[iv p0, iv p1, iv p2, iv p3, iv p4, iv ii, iv (2 : Int32), rv b7, rv b30, iv (own_i (own_wf s1 d1)), iv (own_i ((own_al c0 (0 : Int32)) && own_al c1 (1 : Int32))), iv dg, iv dt, .unset] [(.int ii), (.int dt)])) _
            refine XS.ifNo X132.here hx rfl (hb hby at_443) rfl ((if0 _ _).trans (feq hm3).1) ?_
            refine XS.iconst X132.here hx rfl (hb hby at_446) ?_
            show Steps p.tables e below (T132.setTop (mkF m 447 #[iv p0, iv p1, iv p2, iv p3, iv p4, iv ii, iv (2 : Int32), rv b7, rv b30, iv (own_i (own_wf s1 d1)), iv (own_i ((own_al c0 (0 : Int32)) && own_al c1 (1 : Int32))), iv dg, iv dt, .unset] [(.int (0 : Int32)), (.int dt)])) _
            refine XS.goto X132.here hx rfl (pc0 := 447) (pc' := 451) rfl (hb hby at_447) (by decide) (by decide) ?_
            by_cases hm5 : (0 : Int32) < dt
            · skip
              show Steps p.tables e below (T132.setTop (mkF m 451 #[iv p0, iv p1, iv p2, iv p3, iv p4, iv ii, iv (2 : Int32), rv b7, rv b30, iv (own_i (own_wf s1 d1)), iv (own_i ((own_al c0 (0 : Int32)) && own_al c1 (1 : Int32))), iv dg, iv dt, .unset] [(.int (0 : Int32)), (.int dt)])) _
              refine XS.icmpYes X132.here hx rfl (pc0 := 451) (pc' := 458) rfl (hb hby at_451) rfl (tlt hm5).2.2.1 (by decide) (by decide) ?_
              refine XS.iconst X132.here hx rfl (hb hby at_458) ?_
              have hv : (own_i (((own_al c0 (0 : Int32)) && own_al c1 (1 : Int32)) && ! decide (dg < (1 : Int32)) && ! decide ((own_lim ii) < dt))) = (0 : Int32) := by (try simp only [lw_gt, lw_lt, lw_eq, own_i_eq0, Bool.not_eq_false] at hm1); (try simp only [lw_gt, lw_lt, lw_eq, own_i_eq0, Bool.not_eq_false] at hm2); (try simp only [lw_gt, lw_lt, lw_eq, own_i_eq0, Bool.not_eq_false] at hm3); (try simp only [lw_gt, lw_lt, lw_eq, own_i_eq0, Bool.not_eq_false] at hm5); simp [own_i, own_lim, own_limB, hm1, hm2, hm3, hm5]
              rw [hv] at k
              exact k
            · skip
              show Steps p.tables e below (T132.setTop (mkF m 451 #[iv p0, iv p1, iv p2, iv p3, iv p4, iv ii, iv (2 : Int32), rv b7, rv b30, iv (own_i (own_wf s1 d1)), iv (own_i ((own_al c0 (0 : Int32)) && own_al c1 (1 : Int32))), iv dg, iv dt, .unset] [(.int (0 : Int32)), (.int dt)])) _
              refine XS.icmpNo X132.here hx rfl (hb hby at_451) rfl (flt hm5).2.2.1 ?_
              refine XS.iconst X132.here hx rfl (hb hby at_454) ?_
              show Steps p.tables e below (T132.setTop (mkF m 455 #[iv p0, iv p1, iv p2, iv p3, iv p4, iv ii, iv (2 : Int32), rv b7, rv b30, iv (own_i (own_wf s1 d1)), iv (own_i ((own_al c0 (0 : Int32)) && own_al c1 (1 : Int32))), iv dg, iv dt, .unset] [(.int (1 : Int32))])) _
              refine XS.goto X132.here hx rfl (pc0 := 455) (pc' := 459) rfl (hb hby at_455) (by decide) (by decide) ?_
              have hv : (own_i (((own_al c0 (0 : Int32)) && own_al c1 (1 : Int32)) && ! decide (dg < (1 : Int32)) && ! decide ((own_lim ii) < dt))) = (1 : Int32) := by (try simp only [lw_gt, lw_lt, lw_eq, own_i_eq0, Bool.not_eq_false] at hm1); (try simp only [lw_gt, lw_lt, lw_eq, own_i_eq0, Bool.not_eq_false] at hm2); (try simp only [lw_gt, lw_lt, lw_eq, own_i_eq0, Bool.not_eq_false] at hm3); (try simp only [lw_gt, lw_lt, lw_eq, own_i_eq0, Bool.not_eq_false] at hm5); simp [own_i, own_lim, own_limB, hm1, hm2, hm3, hm5]
              rw [hv] at k
              exact k
    have R145 : ∀ t, Steps p.tables e below (T132.setTop (mkF m 473 #[iv p0, iv p1, iv p2, iv p3, iv p4, iv ii, iv (2 : Int32), rv b7, rv b30, iv (own_i (own_wf s1 d1)), iv (own_i ((own_al c0 (0 : Int32)) && own_al c1 (1 : Int32))), iv dg, iv dt, iv (own_i (((own_al c0 (0 : Int32)) && own_al c1 (1 : Int32)) && ! decide (dg < (1 : Int32)) && ! decide ((own_lim ii) < dt)))] [(.int (1 : Int32))])) t → Steps p.tables e below (s₁.setTop f0) t := fun t k => R144 t (by
      show Steps p.tables e below (T132.setTop (mkF m 459 #[iv p0, iv p1, iv p2, iv p3, iv p4, iv ii, iv (2 : Int32), rv b7, rv b30, iv (own_i (own_wf s1 d1)), iv (own_i ((own_al c0 (0 : Int32)) && own_al c1 (1 : Int32))), iv dg, iv dt, .unset] [(.int (own_i (((own_al c0 (0 : Int32)) && own_al c1 (1 : Int32)) && ! decide (dg < (1 : Int32)) && ! decide ((own_lim ii) < dt))))])) _
      refine XS.istore X132.here hx rfl (hb hby at_459) rfl (l' := #[iv p0, iv p1, iv p2, iv p3, iv p4, iv ii, iv (2 : Int32), rv b7, rv b30, iv (own_i (own_wf s1 d1)), iv (own_i ((own_al c0 (0 : Int32)) && own_al c1 (1 : Int32))), iv dg, iv dt, iv (own_i (((own_al c0 (0 : Int32)) && own_al c1 (1 : Int32)) && ! decide (dg < (1 : Int32)) && ! decide ((own_lim ii) < dt)))]) rfl ?_
      refine XS.iload X132.here hx rfl (hb hby at_461) rfl  ?_
      show Steps p.tables e below (T132.setTop (mkF m 463 #[iv p0, iv p1, iv p2, iv p3, iv p4, iv ii, iv (2 : Int32), rv b7, rv b30, iv (own_i (own_wf s1 d1)), iv (own_i ((own_al c0 (0 : Int32)) && own_al c1 (1 : Int32))), iv dg, iv dt, iv (own_i (((own_al c0 (0 : Int32)) && own_al c1 (1 : Int32)) && ! decide (dg < (1 : Int32)) && ! decide ((own_lim ii) < dt)))] [(.int (own_i (own_wf s1 d1)))])) _
      refine XS.iload X132.here hx rfl (hb hby at_463) rfl  ?_
      refine XS.icmpNo X132.here hx rfl (hb hby at_465) rfl (teq (by subst e_dg e_dt ed1 es1 ed0 es0 ; exact own_fin_2 c0 c1 ii : (own_i (own_wf s1 d1)) = (own_i (((own_al c0 (0 : Int32)) && own_al c1 (1 : Int32)) && ! decide (dg < (1 : Int32)) && ! decide ((own_lim ii) < dt))))).2 ?_
      show Steps p.tables e below (T132.setTop (mkF m 468 #[iv p0, iv p1, iv p2, iv p3, iv p4, iv ii, iv (2 : Int32), rv b7, rv b30, iv (own_i (own_wf s1 d1)), iv (own_i ((own_al c0 (0 : Int32)) && own_al c1 (1 : Int32))), iv dg, iv dt, iv (own_i (((own_al c0 (0 : Int32)) && own_al c1 (1 : Int32)) && ! decide (dg < (1 : Int32)) && ! decide ((own_lim ii) < dt)))] [])) _
      refine XS.iconst X132.here hx rfl (hb hby at_468) ?_
      refine XS.goto X132.here hx rfl (pc0 := 469) (pc' := 473) rfl (hb hby at_469) (by decide) (by decide) ?_
      exact k)
    obtain ⟨fs, hr, hrun, hended, hW, hsame⟩ := X132.leave (v := some (.int (1 : Int32))) (fun h => by rw [Bd.returns] at h; cases h)
    refine ⟨_, _, pre0 _ (R145 _ ?_), hrun, hended, _, _, rfl, ?_, ⟨_, rfl⟩, hW, hsame.mono (by decide) (by decide)⟩
    · show Steps p.tables e below (T132.setTop (mkF m 473 #[iv p0, iv p1, iv p2, iv p3, iv p4, iv ii, iv (2 : Int32), rv b7, rv b30, iv (own_i (own_wf s1 d1)), iv (own_i ((own_al c0 (0 : Int32)) && own_al c1 (1 : Int32))), iv dg, iv dt, iv (own_i (((own_al c0 (0 : Int32)) && own_al c1 (1 : Int32)) && ! decide (dg < (1 : Int32)) && ! decide ((own_lim ii) < dt)))] [(.int (1 : Int32))])) _
      exact retN X132 hx (t := .boolean) Bd.returns (by simp) (hb hby at_473) hr
    · show Q_rmLaw Z p0 p1 p2 p3 p4 fI fD sS sI sF sB h0 n0 _ T132.heap _
      rw [p132_0]
      exact ⟨rfl, N132⟩
  · skip
    have R146 : ∀ t, Steps p.tables e below (T44.setTop (mkF m 84 #[iv p0, iv p1, iv p2, iv p3, iv p4, iv ii, iv (3 : Int32), rv b7, rv b30, .unset, .unset, .unset, .unset, .unset] [(.int (3 : Int32))])) t → Steps p.tables e below (s₁.setTop f0) t := by have q := R47; rw [(hn : nn = (3 : Int32))] at q; exact q
    have R147 : ∀ t, Steps p.tables e below (T44.setTop (mkF m 92 #[iv p0, iv p1, iv p2, iv p3, iv p4, iv ii, iv (3 : Int32), rv b7, rv b30, .unset, .unset, .unset, .unset, .unset] [(.int (0 : Int32)), (.ref b7), (.ref b30)])) t → Steps p.tables e below (s₁.setTop f0) t := fun t k => R146 t (by
      show Steps p.tables e below (T44.setTop (mkF m 84 #[iv p0, iv p1, iv p2, iv p3, iv p4, iv ii, iv (3 : Int32), rv b7, rv b30, .unset, .unset, .unset, .unset, .unset] [(.int (3 : Int32))])) _
      refine XS.ifNo X44.here hx rfl (hb hby at_84) rfl ((if0 _ _).trans (tlt (by decide : (0 : Int32) < (3 : Int32))).2.2.2) ?_
      refine XS.aload X44.here hx rfl (hb hby at_87) rfl rfl ?_
      show Steps p.tables e below (T44.setTop (mkF m 89 #[iv p0, iv p1, iv p2, iv p3, iv p4, iv ii, iv (3 : Int32), rv b7, rv b30, .unset, .unset, .unset, .unset, .unset] [(.ref b30)])) _
      refine XS.aload X44.here hx rfl (hb hby at_89) rfl rfl ?_
      refine XS.iconst X44.here hx rfl (hb hby at_91) ?_
      exact k)
    obtain ⟨cl148, Ar148, q148, S148, n148_, H148, G148⟩ := id vc
    have hin148 : ¬ ((0 : Int32) < 0 ∨ cl148.slots.size ≤ ((0 : Int32)).toNatClampNeg) := inb_of S148 ⟨by decide, by decide⟩
    have hat148 : cl148.slots[((0 : Int32)).toNatClampNeg]? = some (.int c0) := Has.at H148 hin148 rfl
    have R149 : ∀ t, Steps p.tables e below (T44.setTop (mkF m 93 #[iv p0, iv p1, iv p2, iv p3, iv p4, iv ii, iv (3 : Int32), rv b7, rv b30, .unset, .unset, .unset, .unset, .unset] [(.int c0), (.ref b30)])) t → Steps p.tables e below (s₁.setTop f0) t := fun t k => R147 t (X44.caload hx (j := (0 : Int32)) (v := (.int c0)) Ar148.1 (State.isArrayOf_alike hZ.alike Ar148.2.1) Ar148.2.2 hin148 hat148 (g := (mkF m 92 #[iv p0, iv p1, iv p2, iv p3, iv p4, iv ii, iv (3 : Int32), rv b7, rv b30, .unset, .unset, .unset, .unset, .unset] [(.int (0 : Int32)), (.ref b7), (.ref b30)])) rfl rfl (hb hby at_92) _ k)
    obtain ⟨cq150, kq150, q150a, q150b, q150c⟩ := isOf hZ rfl f44_E_b30
    obtain ⟨_, _, ⟨T150, L150, k150, n150⟩, -, X150, ⟨Lc150, hQ150, l150, y150, z150⟩, st150⟩ := X44.virtualBack hx (y := (⟨sN0, "take", "(C)V"⟩ : MethodName)) (z := (⟨sN0, "take", "(C)V"⟩ : MethodName)) hown (mvT hZ (hw _ (List.mem_of_getElem? (i := 51) rfl))) (mvT hZ (hw _ (List.mem_of_getElem? (i := 52) rfl))) (notFace_of_selects (args := #[]) (mvT hZ (hw _ (List.mem_of_getElem? (i := 54) rfl)))) (mvT hZ (hw _ (List.mem_of_getElem? (i := 54) rfl))) (mvT hZ (hw _ (List.mem_of_getElem? (i := 53) rfl))) (by decide) (backOf (W := 0) (rmTake l Z a0 hw [] b30 c0 0 ii (.int (0 : Int32)) (0 : Int32) (0 : Int64) (0 : Int64) (0 : Int64) (0 : Int64) sS sI sF sB (0 : Int) T44.heap n0 z44 f44_E_b30 g_b30 f44_S_NumberText_Part_SIGN f44_S_NumberText_Part_INTEGER f44_S_NumberText_Part_FRACTION f44_S_NumberText_Part_BROKEN ne_sS_sI ne_sS_sF ne_sS_sB ne_sI_sF ne_sI_sB ne_sF_sB (by decide) (by decide) ⟨by decide, by decide⟩ io46 p44_2 p44_3 p44_4 p44_5 p44_6 p44_7 p44_8) hZ (hw _ (List.mem_of_getElem? (i := 55) rfl)) (hw _ (List.mem_of_getElem? (i := 7) rfl)) (by decide) (by decide)) q150a q150c (g := (mkF m 93 #[iv p0, iv p1, iv p2, iv p3, iv p4, iv ii, iv (3 : Int32), rv b7, rv b30, .unset, .unset, .unset, .unset, .unset] [(.int c0), (.ref b30)])) rfl (by rw [hml]; rfl) (Steps.refl _) (argsL := [(.int c0)]) (rest := []) (lenOf pd_10 rfl) rfl (by show 2 * 0 + _ ≤ _; exact Nat.le_of_eq rfl) (hb hby at_93) (fun _ _ => ⟨rfl, rfl, (by decide : 2 + 0 ≤ _), (by decide : 12 + 0 ≤ _)⟩)
    dsimp only [Pt.U, Pt.locs, Pt.cells, Pt.slots] at X150 l150 y150 z150 st150 hQ150
    subst l150 y150 z150
    obtain ⟨ng2_150, id2_150, fd2_150, pz2_150, us2_150, rfl, N150q, p150_0, p150_1, p150_2, p150_3, p150_4, p150_5, p150_6, p150_7, p150_8, p150_9⟩ := hQ150
    have N150 := Fr.app N44 N150q
    have f150_S_SimpleType_Form_INTEGER : Sta Z T150.heap sN4 "INTEGER" sN3 (.ref fI) := own_sta_keep f44_S_SimpleType_Form_INTEGER p150_0 (nsS f44_E_b30.nostat ns0)
    have f150_S_SimpleType_Form_DECIMAL : Sta Z T150.heap sN4 "DECIMAL" sN3 (.ref fD) := own_sta_keep f44_S_SimpleType_Form_DECIMAL p150_0 (nsS f44_E_b30.nostat ns0)
    have f150_S_NumberText_Part_SIGN : Sta Z T150.heap sN1 "SIGN" sN2 (.ref sS) := own_sta_keep f44_S_NumberText_Part_SIGN p150_0 (nsS f44_E_b30.nostat ns0)
    have f150_S_NumberText_Part_INTEGER : Sta Z T150.heap sN1 "INTEGER" sN2 (.ref sI) := own_sta_keep f44_S_NumberText_Part_INTEGER p150_0 (nsS f44_E_b30.nostat ns0)
    have f150_S_NumberText_Part_FRACTION : Sta Z T150.heap sN1 "FRACTION" sN2 (.ref sF) := own_sta_keep f44_S_NumberText_Part_FRACTION p150_0 (nsS f44_E_b30.nostat ns0)
    have f150_S_NumberText_Part_BROKEN : Sta Z T150.heap sN1 "BROKEN" sN2 (.ref sB) := own_sta_keep f44_S_NumberText_Part_BROKEN p150_0 (nsS f44_E_b30.nostat ns0)
    have f150_A_b7 : Arv Z T150.heap b7 k7 .char (4 : Int32) [(.int c0), (.int c1), (.int c2), (.int c3)] (.int (0 : Int32)) := vc.keep p150_0 (ninS ne_b7_b30 nin0)
    have f150_E_b30 : Exa Z T150.heap b30 sN0 := f44_E_b30.keep p150_0
    have z150 : n0 ≤ T150.heap.size := Nat.le_trans z44 p150_0.1
    have K150 : Keep h0 T150.heap [] := K44.trans p150_0 (allS (Or.inr sz_b30) all0)
    have R151 : ∀ t, Steps p.tables e below (T150.setTop (mkF m 96 #[iv p0, iv p1, iv p2, iv p3, iv p4, iv ii, iv (3 : Int32), rv b7, rv b30, .unset, .unset, .unset, .unset, .unset] [])) t → Steps p.tables e below (s₁.setTop f0) t := fun t k => R149 t (st150.trans k)
    obtain ⟨s0, es0⟩ : ∃ z : Nat, z = (own_nx 0 c0 ii) := ⟨_, rfl⟩
    obtain ⟨d0, ed0⟩ : ∃ z : Int32, z = (own_dr 0 c0 (0 : Int32)) := ⟨_, rfl⟩
    have fd0_ : Fld Z T150.heap b30 sN0 "digitRead" "Z" (.int d0) := by rw [ed0]; exact p150_4
    have fp0_ : Fld Z T150.heap b30 sN0 "part" sN2 (.ref (own_ad sS sI sF sB s0)) := by rw [es0]; exact p150_2
    have hs0_ : s0 < 4 := by rw [es0]; exact own_nx4 _ _ _
    have R152 : ∀ t, Steps p.tables e below (T150.setTop (mkF m 107 #[iv p0, iv p1, iv p2, iv p3, iv p4, iv ii, iv (3 : Int32), rv b7, rv b30, .unset, .unset, .unset, .unset, .unset] [(.int (1 : Int32)), (.ref b7), (.ref b30)])) t → Steps p.tables e below (s₁.setTop f0) t := fun t k => R151 t (by
      show Steps p.tables e below (T150.setTop (mkF m 96 #[iv p0, iv p1, iv p2, iv p3, iv p4, iv ii, iv (3 : Int32), rv b7, rv b30, .unset, .unset, .unset, .unset, .unset] [])) _
      refine XS.iload X150.here hx rfl (hb hby at_96) rfl  ?_
      refine XS.iconst X150.here hx rfl (hb hby at_98) ?_
      show Steps p.tables e below (T150.setTop (mkF m 99 #[iv p0, iv p1, iv p2, iv p3, iv p4, iv ii, iv (3 : Int32), rv b7, rv b30, .unset, .unset, .unset, .unset, .unset] [(.int (1 : Int32)), (.int (3 : Int32))])) _
      refine XS.icmpNo X150.here hx rfl (hb hby at_99) rfl (tlt (by decide : (1 : Int32) < (3 : Int32))).2.2.2 ?_
      refine XS.aload X150.here hx rfl (hb hby at_102) rfl rfl ?_
      show Steps p.tables e below (T150.setTop (mkF m 104 #[iv p0, iv p1, iv p2, iv p3, iv p4, iv ii, iv (3 : Int32), rv b7, rv b30, .unset, .unset, .unset, .unset, .unset] [(.ref b30)])) _
      refine XS.aload X150.here hx rfl (hb hby at_104) rfl rfl ?_
      refine XS.iconst X150.here hx rfl (hb hby at_106) ?_
      exact k)
    obtain ⟨cl153, Ar153, q153, S153, n153_, H153, G153⟩ := id f150_A_b7
    have hin153 : ¬ ((1 : Int32) < 0 ∨ cl153.slots.size ≤ ((1 : Int32)).toNatClampNeg) := inb_of S153 ⟨by decide, by decide⟩
    have hat153 : cl153.slots[((1 : Int32)).toNatClampNeg]? = some (.int c1) := Has.at H153 hin153 rfl
    have R154 : ∀ t, Steps p.tables e below (T150.setTop (mkF m 108 #[iv p0, iv p1, iv p2, iv p3, iv p4, iv ii, iv (3 : Int32), rv b7, rv b30, .unset, .unset, .unset, .unset, .unset] [(.int c1), (.ref b30)])) t → Steps p.tables e below (s₁.setTop f0) t := fun t k => R152 t (X150.caload hx (j := (1 : Int32)) (v := (.int c1)) Ar153.1 (State.isArrayOf_alike hZ.alike Ar153.2.1) Ar153.2.2 hin153 hat153 (g := (mkF m 107 #[iv p0, iv p1, iv p2, iv p3, iv p4, iv ii, iv (3 : Int32), rv b7, rv b30, .unset, .unset, .unset, .unset, .unset] [(.int (1 : Int32)), (.ref b7), (.ref b30)])) rfl rfl (hb hby at_107) _ k)
    obtain ⟨cq155, kq155, q155a, q155b, q155c⟩ := isOf hZ rfl f150_E_b30
    obtain ⟨_, _, ⟨T155, L155, k155, n155⟩, -, X155, ⟨Lc155, hQ155, l155, y155, z155⟩, st155⟩ := X150.virtualBack hx (y := (⟨sN0, "take", "(C)V"⟩ : MethodName)) (z := (⟨sN0, "take", "(C)V"⟩ : MethodName)) hown (mvT hZ (hw _ (List.mem_of_getElem? (i := 51) rfl))) (mvT hZ (hw _ (List.mem_of_getElem? (i := 52) rfl))) (notFace_of_selects (args := #[]) (mvT hZ (hw _ (List.mem_of_getElem? (i := 54) rfl)))) (mvT hZ (hw _ (List.mem_of_getElem? (i := 54) rfl))) (mvT hZ (hw _ (List.mem_of_getElem? (i := 53) rfl))) (by decide) (backOf (W := 0) (rmTake l Z a0 hw [] b30 c1 s0 ii ng2_150 d0 id2_150 fd2_150 pz2_150 us2_150 sS sI sF sB (1 : Int) T150.heap n0 z150 f150_E_b30 g_b30 f150_S_NumberText_Part_SIGN f150_S_NumberText_Part_INTEGER f150_S_NumberText_Part_FRACTION f150_S_NumberText_Part_BROKEN ne_sS_sI ne_sS_sF ne_sS_sB ne_sI_sF ne_sI_sB ne_sF_sB hs0_ (by decide) p150_9 p150_1 fp0_ p150_3 fd0_ p150_5 p150_6 p150_7 p150_8) hZ (hw _ (List.mem_of_getElem? (i := 55) rfl)) (hw _ (List.mem_of_getElem? (i := 7) rfl)) (by decide) (by decide)) q155a q155c (g := (mkF m 108 #[iv p0, iv p1, iv p2, iv p3, iv p4, iv ii, iv (3 : Int32), rv b7, rv b30, .unset, .unset, .unset, .unset, .unset] [(.int c1), (.ref b30)])) rfl (by rw [hml]; rfl) (Steps.refl _) (argsL := [(.int c1)]) (rest := []) (lenOf pd_10 rfl) rfl (by show 2 * 0 + _ ≤ _; exact Nat.le_of_eq rfl) (hb hby at_108) (fun _ _ => ⟨rfl, rfl, (by decide : 2 + 0 ≤ _), (by decide : 12 + 0 ≤ _)⟩)
    dsimp only [Pt.U, Pt.locs, Pt.cells, Pt.slots] at X155 l155 y155 z155 st155 hQ155
    subst l155 y155 z155
    obtain ⟨ng2_155, id2_155, fd2_155, pz2_155, us2_155, rfl, N155q, p155_0, p155_1, p155_2, p155_3, p155_4, p155_5, p155_6, p155_7, p155_8, p155_9⟩ := hQ155
    have N155 := Fr.app N150 N155q
    have f155_S_SimpleType_Form_INTEGER : Sta Z T155.heap sN4 "INTEGER" sN3 (.ref fI) := own_sta_keep f150_S_SimpleType_Form_INTEGER p155_0 (nsS f150_E_b30.nostat ns0)
    have f155_S_SimpleType_Form_DECIMAL : Sta Z T155.heap sN4 "DECIMAL" sN3 (.ref fD) := own_sta_keep f150_S_SimpleType_Form_DECIMAL p155_0 (nsS f150_E_b30.nostat ns0)
    have f155_S_NumberText_Part_SIGN : Sta Z T155.heap sN1 "SIGN" sN2 (.ref sS) := own_sta_keep f150_S_NumberText_Part_SIGN p155_0 (nsS f150_E_b30.nostat ns0)
    have f155_S_NumberText_Part_INTEGER : Sta Z T155.heap sN1 "INTEGER" sN2 (.ref sI) := own_sta_keep f150_S_NumberText_Part_INTEGER p155_0 (nsS f150_E_b30.nostat ns0)
    have f155_S_NumberText_Part_FRACTION : Sta Z T155.heap sN1 "FRACTION" sN2 (.ref sF) := own_sta_keep f150_S_NumberText_Part_FRACTION p155_0 (nsS f150_E_b30.nostat ns0)
    have f155_S_NumberText_Part_BROKEN : Sta Z T155.heap sN1 "BROKEN" sN2 (.ref sB) := own_sta_keep f150_S_NumberText_Part_BROKEN p155_0 (nsS f150_E_b30.nostat ns0)
    have f155_A_b7 : Arv Z T155.heap b7 k7 .char (4 : Int32) [(.int c0), (.int c1), (.int c2), (.int c3)] (.int (0 : Int32)) := f150_A_b7.keep p155_0 (ninS ne_b7_b30 nin0)
    have f155_E_b30 : Exa Z T155.heap b30 sN0 := f150_E_b30.keep p155_0
    have z155 : n0 ≤ T155.heap.size := Nat.le_trans z150 p155_0.1
    have K155 : Keep h0 T155.heap [] := K150.trans p155_0 (allS (Or.inr sz_b30) all0)
    have R156 : ∀ t, Steps p.tables e below (T155.setTop (mkF m 111 #[iv p0, iv p1, iv p2, iv p3, iv p4, iv ii, iv (3 : Int32), rv b7, rv b30, .unset, .unset, .unset, .unset, .unset] [])) t → Steps p.tables e below (s₁.setTop f0) t := fun t k => R154 t (st155.trans k)
    obtain ⟨s1, es1⟩ : ∃ z : Nat, z = (own_nx s0 c1 ii) := ⟨_, rfl⟩
    obtain ⟨d1, ed1⟩ : ∃ z : Int32, z = (own_dr s0 c1 d0) := ⟨_, rfl⟩
    have fd1_ : Fld Z T155.heap b30 sN0 "digitRead" "Z" (.int d1) := by rw [ed1]; exact p155_4
    have fp1_ : Fld Z T155.heap b30 sN0 "part" sN2 (.ref (own_ad sS sI sF sB s1)) := by rw [es1]; exact p155_2
    have hs1_ : s1 < 4 := by rw [es1]; exact own_nx4 _ _ _
    have R157 : ∀ t, Steps p.tables e below (T155.setTop (mkF m 122 #[iv p0, iv p1, iv p2, iv p3, iv p4, iv ii, iv (3 : Int32), rv b7, rv b30, .unset, .unset, .unset, .unset, .unset] [(.int (2 : Int32)), (.ref b7), (.ref b30)])) t → Steps p.tables e below (s₁.setTop f0) t := fun t k => R156 t (by
      show Steps p.tables e below (T155.setTop (mkF m 111 #[iv p0, iv p1, iv p2, iv p3, iv p4, iv ii, iv (3 : Int32), rv b7, rv b30, .unset, .unset, .unset, .unset, .unset] [])) _
      refine XS.iload X155.here hx rfl (hb hby at_111) rfl  ?_
      refine XS.iconst X155.here hx rfl (hb hby at_113) ?_
      show Steps p.tables e below (T155.setTop (mkF m 114 #[iv p0, iv p1, iv p2, iv p3, iv p4, iv ii, iv (3 : Int32), rv b7, rv b30, .unset, .unset, .unset, .unset, .unset] [(.int (2 : Int32)), (.int (3 : Int32))])) _
      refine XS.icmpNo X155.here hx rfl (hb hby at_114) rfl (tlt (by decide : (2 : Int32) < (3 : Int32))).2.2.2 ?_
      refine XS.aload X155.here hx rfl (hb hby at_117) rfl rfl ?_
      show Steps p.tables e below (T155.setTop (mkF m 119 #[iv p0, iv p1, iv p2, iv p3, iv p4, iv ii, iv (3 : Int32), rv b7, rv b30, .unset, .unset, .unset, .unset, .unset] [(.ref b30)])) _
      refine XS.aload X155.here hx rfl (hb hby at_119) rfl rfl ?_
      refine XS.iconst X155.here hx rfl (hb hby at_121) ?_
      exact k)
    obtain ⟨cl158, Ar158, q158, S158, n158_, H158, G158⟩ := id f155_A_b7
    have hin158 : ¬ ((2 : Int32) < 0 ∨ cl158.slots.size ≤ ((2 : Int32)).toNatClampNeg) := inb_of S158 ⟨by decide, by decide⟩
    have hat158 : cl158.slots[((2 : Int32)).toNatClampNeg]? = some (.int c2) := Has.at H158 hin158 rfl
    have R159 : ∀ t, Steps p.tables e below (T155.setTop (mkF m 123 #[iv p0, iv p1, iv p2, iv p3, iv p4, iv ii, iv (3 : Int32), rv b7, rv b30, .unset, .unset, .unset, .unset, .unset] [(.int c2), (.ref b30)])) t → Steps p.tables e below (s₁.setTop f0) t := fun t k => R157 t (X155.caload hx (j := (2 : Int32)) (v := (.int c2)) Ar158.1 (State.isArrayOf_alike hZ.alike Ar158.2.1) Ar158.2.2 hin158 hat158 (g := (mkF m 122 #[iv p0, iv p1, iv p2, iv p3, iv p4, iv ii, iv (3 : Int32), rv b7, rv b30, .unset, .unset, .unset, .unset, .unset] [(.int (2 : Int32)), (.ref b7), (.ref b30)])) rfl rfl (hb hby at_122) _ k)
    obtain ⟨cq160, kq160, q160a, q160b, q160c⟩ := isOf hZ rfl f155_E_b30
    obtain ⟨_, _, ⟨T160, L160, k160, n160⟩, -, X160, ⟨Lc160, hQ160, l160, y160, z160⟩, st160⟩ := X155.virtualBack hx (y := (⟨sN0, "take", "(C)V"⟩ : MethodName)) (z := (⟨sN0, "take", "(C)V"⟩ : MethodName)) hown (mvT hZ (hw _ (List.mem_of_getElem? (i := 51) rfl))) (mvT hZ (hw _ (List.mem_of_getElem? (i := 52) rfl))) (notFace_of_selects (args := #[]) (mvT hZ (hw _ (List.mem_of_getElem? (i := 54) rfl)))) (mvT hZ (hw _ (List.mem_of_getElem? (i := 54) rfl))) (mvT hZ (hw _ (List.mem_of_getElem? (i := 53) rfl))) (by decide) (backOf (W := 0) (rmTake l Z a0 hw [] b30 c2 s1 ii ng2_155 d1 id2_155 fd2_155 pz2_155 us2_155 sS sI sF sB (2 : Int) T155.heap n0 z155 f155_E_b30 g_b30 f155_S_NumberText_Part_SIGN f155_S_NumberText_Part_INTEGER f155_S_NumberText_Part_FRACTION f155_S_NumberText_Part_BROKEN ne_sS_sI ne_sS_sF ne_sS_sB ne_sI_sF ne_sI_sB ne_sF_sB hs1_ (by decide) p155_9 p155_1 fp1_ p155_3 fd1_ p155_5 p155_6 p155_7 p155_8) hZ (hw _ (List.mem_of_getElem? (i := 55) rfl)) (hw _ (List.mem_of_getElem? (i := 7) rfl)) (by decide) (by decide)) q160a q160c (g := (mkF m 123 #[iv p0, iv p1, iv p2, iv p3, iv p4, iv ii, iv (3 : Int32), rv b7, rv b30, .unset, .unset, .unset, .unset, .unset] [(.int c2), (.ref b30)])) rfl (by rw [hml]; rfl) (Steps.refl _) (argsL := [(.int c2)]) (rest := []) (lenOf pd_10 rfl) rfl (by show 2 * 0 + _ ≤ _; exact Nat.le_of_eq rfl) (hb hby at_123) (fun _ _ => ⟨rfl, rfl, (by decide : 2 + 0 ≤ _), (by decide : 12 + 0 ≤ _)⟩)
    dsimp only [Pt.U, Pt.locs, Pt.cells, Pt.slots] at X160 l160 y160 z160 st160 hQ160
    subst l160 y160 z160
    obtain ⟨ng2_160, id2_160, fd2_160, pz2_160, us2_160, rfl, N160q, p160_0, p160_1, p160_2, p160_3, p160_4, p160_5, p160_6, p160_7, p160_8, p160_9⟩ := hQ160
    have N160 := Fr.app N155 N160q
    have f160_S_SimpleType_Form_INTEGER : Sta Z T160.heap sN4 "INTEGER" sN3 (.ref fI) := own_sta_keep f155_S_SimpleType_Form_INTEGER p160_0 (nsS f155_E_b30.nostat ns0)
    have f160_S_SimpleType_Form_DECIMAL : Sta Z T160.heap sN4 "DECIMAL" sN3 (.ref fD) := own_sta_keep f155_S_SimpleType_Form_DECIMAL p160_0 (nsS f155_E_b30.nostat ns0)
    have f160_S_NumberText_Part_SIGN : Sta Z T160.heap sN1 "SIGN" sN2 (.ref sS) := own_sta_keep f155_S_NumberText_Part_SIGN p160_0 (nsS f155_E_b30.nostat ns0)
    have f160_S_NumberText_Part_INTEGER : Sta Z T160.heap sN1 "INTEGER" sN2 (.ref sI) := own_sta_keep f155_S_NumberText_Part_INTEGER p160_0 (nsS f155_E_b30.nostat ns0)
    have f160_S_NumberText_Part_FRACTION : Sta Z T160.heap sN1 "FRACTION" sN2 (.ref sF) := own_sta_keep f155_S_NumberText_Part_FRACTION p160_0 (nsS f155_E_b30.nostat ns0)
    have f160_S_NumberText_Part_BROKEN : Sta Z T160.heap sN1 "BROKEN" sN2 (.ref sB) := own_sta_keep f155_S_NumberText_Part_BROKEN p160_0 (nsS f155_E_b30.nostat ns0)
    have f160_A_b7 : Arv Z T160.heap b7 k7 .char (4 : Int32) [(.int c0), (.int c1), (.int c2), (.int c3)] (.int (0 : Int32)) := f155_A_b7.keep p160_0 (ninS ne_b7_b30 nin0)
    have f160_E_b30 : Exa Z T160.heap b30 sN0 := f155_E_b30.keep p160_0
    have z160 : n0 ≤ T160.heap.size := Nat.le_trans z155 p160_0.1
    have K160 : Keep h0 T160.heap [] := K155.trans p160_0 (allS (Or.inr sz_b30) all0)
    have R161 : ∀ t, Steps p.tables e below (T160.setTop (mkF m 126 #[iv p0, iv p1, iv p2, iv p3, iv p4, iv ii, iv (3 : Int32), rv b7, rv b30, .unset, .unset, .unset, .unset, .unset] [])) t → Steps p.tables e below (s₁.setTop f0) t := fun t k => R159 t (st160.trans k)
    obtain ⟨s2, es2⟩ : ∃ z : Nat, z = (own_nx s1 c2 ii) := ⟨_, rfl⟩
    obtain ⟨d2, ed2⟩ : ∃ z : Int32, z = (own_dr s1 c2 d1) := ⟨_, rfl⟩
    have fd2_ : Fld Z T160.heap b30 sN0 "digitRead" "Z" (.int d2) := by rw [ed2]; exact p160_4
    have fp2_ : Fld Z T160.heap b30 sN0 "part" sN2 (.ref (own_ad sS sI sF sB s2)) := by rw [es2]; exact p160_2
    have hs2_ : s2 < 4 := by rw [es2]; exact own_nx4 _ _ _
    have R162 : ∀ t, Steps p.tables e below (T160.setTop (mkF m 143 #[iv p0, iv p1, iv p2, iv p3, iv p4, iv ii, iv (3 : Int32), rv b7, rv b30, .unset, .unset, .unset, .unset, .unset] [(.ref b30)])) t → Steps p.tables e below (s₁.setTop f0) t := fun t k => R161 t (by
      show Steps p.tables e below (T160.setTop (mkF m 126 #[iv p0, iv p1, iv p2, iv p3, iv p4, iv ii, iv (3 : Int32), rv b7, rv b30, .unset, .unset, .unset, .unset, .unset] [])) _
      refine XS.iload X160.here hx rfl (hb hby at_126) rfl  ?_
      refine XS.iconst X160.here hx rfl (hb hby at_128) ?_
      show Steps p.tables e below (T160.setTop (mkF m 129 #[iv p0, iv p1, iv p2, iv p3, iv p4, iv ii, iv (3 : Int32), rv b7, rv b30, .unset, .unset, .unset, .unset, .unset] [(.int (3 : Int32)), (.int (3 : Int32))])) _
      refine XS.icmpYes X160.here hx rfl (pc0 := 129) (pc' := 141) rfl (hb hby at_129) rfl (flt (by decide : ¬ ((3 : Int32) < (3 : Int32)))).2.2.2 (by decide) (by decide) ?_
      refine XS.aload X160.here hx rfl (hb hby at_141) rfl rfl ?_
      exact k)
    obtain ⟨cq163, kq163, q163a, q163b, q163c⟩ := isOf hZ rfl f160_E_b30
    obtain ⟨_, _, ⟨T163, L163, k163, n163⟩, -, X163, ⟨Lc163, hQ163, l163, y163, z163⟩, st163⟩ := X160.virtualBack hx (y := (⟨sN0, "wellFormed", "()Z"⟩ : MethodName)) (z := (⟨sN0, "wellFormed", "()Z"⟩ : MethodName)) hown (mvT hZ (hw _ (List.mem_of_getElem? (i := 43) rfl))) (mvT hZ (hw _ (List.mem_of_getElem? (i := 44) rfl))) (notFace_of_selects (args := #[]) (mvT hZ (hw _ (List.mem_of_getElem? (i := 46) rfl)))) (mvT hZ (hw _ (List.mem_of_getElem? (i := 46) rfl))) (mvT hZ (hw _ (List.mem_of_getElem? (i := 45) rfl))) (by decide) (backOf (W := 0) (rmWf l Z a0 hw [] b30 s2 d2 sS sI sF sB T160.heap n0 z160 f160_S_NumberText_Part_BROKEN ne_sS_sB ne_sI_sB ne_sF_sB hs2_ fp2_ fd2_) hZ (hw _ (List.mem_of_getElem? (i := 47) rfl)) (hw _ (List.mem_of_getElem? (i := 7) rfl)) (by decide) (by decide)) q163a q163c (g := (mkF m 143 #[iv p0, iv p1, iv p2, iv p3, iv p4, iv ii, iv (3 : Int32), rv b7, rv b30, .unset, .unset, .unset, .unset, .unset] [(.ref b30)])) rfl (by rw [hml]; rfl) (Steps.refl _) (argsL := []) (rest := []) (lenOf pd_9 rfl) rfl (by show 2 * 0 + _ ≤ _; exact Nat.le_of_eq rfl) (hb hby at_143) (fun _ _ => ⟨rfl, rfl, (by decide : 2 + 0 ≤ _), (by decide : 12 + 0 ≤ _)⟩)
    dsimp only [Pt.U, Pt.locs, Pt.cells, Pt.slots] at X163 l163 y163 z163 st163 hQ163
    subst l163 y163 z163
    obtain ⟨rfl, N163q, p163_0⟩ := hQ163
    have N163 := Fr.app N160 N163q
    have R164 : ∀ t, Steps p.tables e below (T163.setTop (mkF m 146 #[iv p0, iv p1, iv p2, iv p3, iv p4, iv ii, iv (3 : Int32), rv b7, rv b30, .unset, .unset, .unset, .unset, .unset] [(.int (own_i (own_wf s2 d2)))])) t → Steps p.tables e below (s₁.setTop f0) t := fun t k => R162 t (st163.trans k)
    have R165 : ∀ t, Steps p.tables e below (T163.setTop (mkF m 170 #[iv p0, iv p1, iv p2, iv p3, iv p4, iv ii, iv (3 : Int32), rv b7, rv b30, iv (own_i (own_wf s2 d2)), iv (1 : Int32), iv (0 : Int32), iv (0 : Int32), .unset] [(.int (0 : Int32)), (.ref b7)])) t → Steps p.tables e below (s₁.setTop f0) t := fun t k => R164 t (by
      show Steps p.tables e below (T163.setTop (mkF m 146 #[iv p0, iv p1, iv p2, iv p3, iv p4, iv ii, iv (3 : Int32), rv b7, rv b30, .unset, .unset, .unset, .unset, .unset] [(.int (own_i (own_wf s2 d2)))])) _
      refine XS.istore X163.here hx rfl (hb hby at_146) rfl (l' := #[iv p0, iv p1, iv p2, iv p3, iv p4, iv ii, iv (3 : Int32), rv b7, rv b30, iv (own_i (own_wf s2 d2)), .unset, .unset, .unset, .unset]) rfl ?_
      refine XS.iconst X163.here hx rfl (hb hby at_148) ?_
      show Steps p.tables e below (T163.setTop (mkF m 149 #[iv p0, iv p1, iv p2, iv p3, iv p4, iv ii, iv (3 : Int32), rv b7, rv b30, iv (own_i (own_wf s2 d2)), .unset, .unset, .unset, .unset] [(.int (1 : Int32))])) _
      refine XS.istore X163.here hx rfl (hb hby at_149) rfl (l' := #[iv p0, iv p1, iv p2, iv p3, iv p4, iv ii, iv (3 : Int32), rv b7, rv b30, iv (own_i (own_wf s2 d2)), iv (1 : Int32), .unset, .unset, .unset]) rfl ?_
      refine XS.iconst X163.here hx rfl (hb hby at_151) ?_
      show Steps p.tables e below (T163.setTop (mkF m 152 #[iv p0, iv p1, iv p2, iv p3, iv p4, iv ii, iv (3 : Int32), rv b7, rv b30, iv (own_i (own_wf s2 d2)), iv (1 : Int32), .unset, .unset, .unset] [(.int (0 : Int32))])) _
      refine XS.istore X163.here hx rfl (hb hby at_152) rfl (l' := #[iv p0, iv p1, iv p2, iv p3, iv p4, iv ii, iv (3 : Int32), rv b7, rv b30, iv (own_i (own_wf s2 d2)), iv (1 : Int32), iv (0 : Int32), .unset, .unset]) rfl ?_
      refine XS.iconst X163.here hx rfl (hb hby at_154) ?_
      show Steps p.tables e below (T163.setTop (mkF m 155 #[iv p0, iv p1, iv p2, iv p3, iv p4, iv ii, iv (3 : Int32), rv b7, rv b30, iv (own_i (own_wf s2 d2)), iv (1 : Int32), iv (0 : Int32), .unset, .unset] [(.int (0 : Int32))])) _
      refine XS.istore X163.here hx rfl (hb hby at_155) rfl (l' := #[iv p0, iv p1, iv p2, iv p3, iv p4, iv ii, iv (3 : Int32), rv b7, rv b30, iv (own_i (own_wf s2 d2)), iv (1 : Int32), iv (0 : Int32), iv (0 : Int32), .unset]) rfl ?_
      refine XS.iload X163.here hx rfl (hb hby at_157) rfl  ?_
      show Steps p.tables e below (T163.setTop (mkF m 159 #[iv p0, iv p1, iv p2, iv p3, iv p4, iv ii, iv (3 : Int32), rv b7, rv b30, iv (own_i (own_wf s2 d2)), iv (1 : Int32), iv (0 : Int32), iv (0 : Int32), .unset] [(.int (3 : Int32))])) _
      refine XS.ifNo X163.here hx rfl (hb hby at_159) rfl ((if0 _ _).trans (tlt (by decide : (0 : Int32) < (3 : Int32))).2.2.2) ?_
      refine XS.iload X163.here hx rfl (hb hby at_162) rfl  ?_
      show Steps p.tables e below (T163.setTop (mkF m 164 #[iv p0, iv p1, iv p2, iv p3, iv p4, iv ii, iv (3 : Int32), rv b7, rv b30, iv (own_i (own_wf s2 d2)), iv (1 : Int32), iv (0 : Int32), iv (0 : Int32), .unset] [(.int (1 : Int32))])) _
      refine XS.ifNo X163.here hx rfl (hb hby at_164) rfl ((if0 _ _).trans (feq (by decide : ¬ ((1 : Int32) = (0 : Int32)))).1) ?_
      refine XS.aload X163.here hx rfl (hb hby at_167) rfl rfl ?_
      show Steps p.tables e below (T163.setTop (mkF m 169 #[iv p0, iv p1, iv p2, iv p3, iv p4, iv ii, iv (3 : Int32), rv b7, rv b30, iv (own_i (own_wf s2 d2)), iv (1 : Int32), iv (0 : Int32), iv (0 : Int32), .unset] [(.ref b7)])) _
      refine XS.iconst X163.here hx rfl (hb hby at_169) ?_
      exact k)
    obtain ⟨cl166, Ar166, q166, S166, n166_, H166, G166⟩ := id f160_A_b7
    have hin166 : ¬ ((0 : Int32) < 0 ∨ cl166.slots.size ≤ ((0 : Int32)).toNatClampNeg) := inb_of S166 ⟨by decide, by decide⟩
    have hat166 : cl166.slots[((0 : Int32)).toNatClampNeg]? = some (.int c0) := Has.at H166 hin166 rfl
    have R167 : ∀ t, Steps p.tables e below (T163.setTop (mkF m 171 #[iv p0, iv p1, iv p2, iv p3, iv p4, iv ii, iv (3 : Int32), rv b7, rv b30, iv (own_i (own_wf s2 d2)), iv (1 : Int32), iv (0 : Int32), iv (0 : Int32), .unset] [(.int c0)])) t → Steps p.tables e below (s₁.setTop f0) t := fun t k => R165 t (X163.caload hx (j := (0 : Int32)) (v := (.int c0)) (by rw [p163_0]; exact Ar166.1) (State.isArrayOf_alike hZ.alike Ar166.2.1) Ar166.2.2 hin166 hat166 (g := (mkF m 170 #[iv p0, iv p1, iv p2, iv p3, iv p4, iv ii, iv (3 : Int32), rv b7, rv b30, iv (own_i (own_wf s2 d2)), iv (1 : Int32), iv (0 : Int32), iv (0 : Int32), .unset] [(.int (0 : Int32)), (.ref b7)])) rfl rfl (hb hby at_170) _ k)
    have R168 : ∀ t, Steps p.tables e below (T163.setTop (mkF m 172 #[iv p0, iv p1, iv p2, iv p3, iv p4, iv ii, iv (3 : Int32), rv b7, rv b30, iv (own_i (own_wf s2 d2)), iv (1 : Int32), iv (0 : Int32), iv (0 : Int32), .unset] [(.int (0 : Int32)), (.int c0)])) t → Steps p.tables e below (s₁.setTop f0) t := fun t k => R167 t (by
      show Steps p.tables e below (T163.setTop (mkF m 171 #[iv p0, iv p1, iv p2, iv p3, iv p4, iv ii, iv (3 : Int32), rv b7, rv b30, iv (own_i (own_wf s2 d2)), iv (1 : Int32), iv (0 : Int32), iv (0 : Int32), .unset] [(.int c0)])) _
      refine XS.iconst X163.here hx rfl (hb hby at_171) ?_
      exact k)
    obtain ⟨_, _, ⟨T169, L169, k169, n169⟩, -, X169, ⟨Lc169, hQ169, l169, y169, z169⟩, st169⟩ := Jvm.LawKit.callS X163 hx (y := (⟨sN5, "allowed", "(CI)Z"⟩ : MethodName)) hown (mvT hZ (hw _ (List.mem_of_getElem? (i := 73) rfl))) (mvT hZ (hw _ (List.mem_of_getElem? (i := 74) rfl))) (mvT hZ (hw _ (List.mem_of_getElem? (i := 3) rfl))) (mvT hZ (hw _ (List.mem_of_getElem? (i := 75) rfl))) (by decide) (backOf (W := 0) (rmAll l Z a0 hw [] c0 (0 : Int32) T160.heap n0 z160) hZ (hw _ (List.mem_of_getElem? (i := 75) rfl)) (hw _ (List.mem_of_getElem? (i := 3) rfl)) (by decide) (by decide)) (g := (mkF m 172 #[iv p0, iv p1, iv p2, iv p3, iv p4, iv ii, iv (3 : Int32), rv b7, rv b30, iv (own_i (own_wf s2 d2)), iv (1 : Int32), iv (0 : Int32), iv (0 : Int32), .unset] [(.int (0 : Int32)), (.int c0)])) rfl (by rw [hml]; rfl) (argsL := [(.int c0), (.int (0 : Int32))]) (rest := []) (lenOf pd_11 rfl) rfl (by show 2 * 0 + _ ≤ _; exact Nat.le_of_eq rfl) (hb hby at_172) (fun _ _ => ⟨rfl, p163_0, (by decide : 2 + 0 ≤ _), (by decide : 12 + 0 ≤ _)⟩)
    dsimp only [Pt.U, Pt.locs, Pt.cells, Pt.slots] at X169 l169 y169 z169 st169 hQ169
    subst l169 y169 z169
    obtain ⟨rfl, N169q, p169_0⟩ := hQ169
    have N169 := Fr.app N163 N169q
    have R170 : ∀ t, Steps p.tables e below (T169.setTop (mkF m 175 #[iv p0, iv p1, iv p2, iv p3, iv p4, iv ii, iv (3 : Int32), rv b7, rv b30, iv (own_i (own_wf s2 d2)), iv (1 : Int32), iv (0 : Int32), iv (0 : Int32), .unset] [(.int (own_i (own_al c0 (0 : Int32))))])) t → Steps p.tables e below (s₁.setTop f0) t := fun t k => R168 t (st169 t k)
    have R171 : ∀ t, Steps p.tables e below (T169.setTop (mkF m 183 #[iv p0, iv p1, iv p2, iv p3, iv p4, iv ii, iv (3 : Int32), rv b7, rv b30, iv (own_i (own_wf s2 d2)), iv (1 : Int32), iv (0 : Int32), iv (0 : Int32), .unset] [(.int (own_i (own_al c0 (0 : Int32))))])) t → Steps p.tables e below (s₁.setTop f0) t := by
      intro t k
      refine R170 t ?_
      by_cases hm1 : (own_i (own_al c0 (0 : Int32))) = (0 : Int32)
      · skip
        show Steps p.tables e below (T169.setTop (mkF m 175 #[iv p0, iv p1, iv p2, iv p3, iv p4, iv ii, iv (3 : Int32), rv b7, rv b30, iv (own_i (own_wf s2 d2)), iv (1 : Int32), iv (0 : Int32), iv (0 : Int32), .unset] [(.int (own_i (own_al c0 (0 : Int32))))])) _
        refine XS.ifYes X169.here hx rfl (pc0 := 175) (pc' := 182) rfl (hb hby at_175) rfl ((if0 _ _).trans (teq hm1).1) (by decide) (by decide) ?_
        refine XS.iconst X169.here hx rfl (hb hby at_182) ?_
        have hv : (own_i (own_al c0 (0 : Int32))) = (0 : Int32) := by (try simp only [lw_gt, lw_lt, lw_eq, own_i_eq0, Bool.not_eq_false] at hm1); simp [own_i, hm1]
        rw [hv] at k
        exact k
      · skip
        show Steps p.tables e below (T169.setTop (mkF m 175 #[iv p0, iv p1, iv p2, iv p3, iv p4, iv ii, iv (3 : Int32), rv b7, rv b30, iv (own_i (own_wf s2 d2)), iv (1 : Int32), iv (0 : Int32), iv (0 : Int32), .unset] [(.int (own_i (own_al c0 (0 : Int32))))])) _
        refine XS.ifNo X169.here hx rfl (hb hby at_175) rfl ((if0 _ _).trans (feq hm1).1) ?_
        refine XS.iconst X169.here hx rfl (hb hby at_178) ?_
        show Steps p.tables e below (T169.setTop (mkF m 179 #[iv p0, iv p1, iv p2, iv p3, iv p4, iv ii, iv (3 : Int32), rv b7, rv b30, iv (own_i (own_wf s2 d2)), iv (1 : Int32), iv (0 : Int32), iv (0 : Int32), .unset] [(.int (1 : Int32))])) _
        refine XS.goto X169.here hx rfl (pc0 := 179) (pc' := 183) rfl (hb hby at_179) (by decide) (by decide) ?_
        have hv : (own_i (own_al c0 (0 : Int32))) = (1 : Int32) := by (try simp only [lw_gt, lw_lt, lw_eq, own_i_eq0, Bool.not_eq_false] at hm1); simp [own_i, hm1]
        rw [hv] at k
        exact k
    have R172 : ∀ t, Steps p.tables e below (T169.setTop (mkF m 190 #[iv p0, iv p1, iv p2, iv p3, iv p4, iv ii, iv (3 : Int32), rv b7, rv b30, iv (own_i (own_wf s2 d2)), iv (own_i (own_al c0 (0 : Int32))), iv (0 : Int32), iv (0 : Int32), .unset] [(.int (0 : Int32)), (.ref b7), (.int (0 : Int32))])) t → Steps p.tables e below (s₁.setTop f0) t := fun t k => R171 t (by
      show Steps p.tables e below (T169.setTop (mkF m 183 #[iv p0, iv p1, iv p2, iv p3, iv p4, iv ii, iv (3 : Int32), rv b7, rv b30, iv (own_i (own_wf s2 d2)), iv (1 : Int32), iv (0 : Int32), iv (0 : Int32), .unset] [(.int (own_i (own_al c0 (0 : Int32))))])) _
      refine XS.istore X169.here hx rfl (hb hby at_183) rfl (l' := #[iv p0, iv p1, iv p2, iv p3, iv p4, iv ii, iv (3 : Int32), rv b7, rv b30, iv (own_i (own_wf s2 d2)), iv (own_i (own_al c0 (0 : Int32))), iv (0 : Int32), iv (0 : Int32), .unset]) rfl ?_
      refine XS.iload X169.here hx rfl (hb hby at_185) rfl  ?_
      show Steps p.tables e below (T169.setTop (mkF m 187 #[iv p0, iv p1, iv p2, iv p3, iv p4, iv ii, iv (3 : Int32), rv b7, rv b30, iv (own_i (own_wf s2 d2)), iv (own_i (own_al c0 (0 : Int32))), iv (0 : Int32), iv (0 : Int32), .unset] [(.int (0 : Int32))])) _
      refine XS.aload X169.here hx rfl (hb hby at_187) rfl rfl ?_
      refine XS.iconst X169.here hx rfl (hb hby at_189) ?_
      exact k)
    obtain ⟨cl173, Ar173, q173, S173, n173_, H173, G173⟩ := id f160_A_b7
    have hin173 : ¬ ((0 : Int32) < 0 ∨ cl173.slots.size ≤ ((0 : Int32)).toNatClampNeg) := inb_of S173 ⟨by decide, by decide⟩
    have hat173 : cl173.slots[((0 : Int32)).toNatClampNeg]? = some (.int c0) := Has.at H173 hin173 rfl
    have R174 : ∀ t, Steps p.tables e below (T169.setTop (mkF m 191 #[iv p0, iv p1, iv p2, iv p3, iv p4, iv ii, iv (3 : Int32), rv b7, rv b30, iv (own_i (own_wf s2 d2)), iv (own_i (own_al c0 (0 : Int32))), iv (0 : Int32), iv (0 : Int32), .unset] [(.int c0), (.int (0 : Int32))])) t → Steps p.tables e below (s₁.setTop f0) t := fun t k => R172 t (X169.caload hx (j := (0 : Int32)) (v := (.int c0)) (by rw [p169_0]; exact Ar173.1) (State.isArrayOf_alike hZ.alike Ar173.2.1) Ar173.2.2 hin173 hat173 (g := (mkF m 190 #[iv p0, iv p1, iv p2, iv p3, iv p4, iv ii, iv (3 : Int32), rv b7, rv b30, iv (own_i (own_wf s2 d2)), iv (own_i (own_al c0 (0 : Int32))), iv (0 : Int32), iv (0 : Int32), .unset] [(.int (0 : Int32)), (.ref b7), (.int (0 : Int32))])) rfl rfl (hb hby at_190) _ k)
    obtain ⟨_, _, ⟨T175, L175, k175, n175⟩, -, X175, ⟨Lc175, hQ175, l175, y175, z175⟩, st175⟩ := Jvm.LawKit.callS X169 hx (y := (⟨sN5, "isDigit", "(C)Z"⟩ : MethodName)) hown (mvT hZ (hw _ (List.mem_of_getElem? (i := 76) rfl))) (mvT hZ (hw _ (List.mem_of_getElem? (i := 77) rfl))) (mvT hZ (hw _ (List.mem_of_getElem? (i := 3) rfl))) (mvT hZ (hw _ (List.mem_of_getElem? (i := 78) rfl))) (by decide) (backOf (W := 1) (rmIsd l Z a0 hw [] c0 T160.heap n0 z160) hZ (hw _ (List.mem_of_getElem? (i := 78) rfl)) (hw _ (List.mem_of_getElem? (i := 3) rfl)) (by decide) (by decide)) (g := (mkF m 191 #[iv p0, iv p1, iv p2, iv p3, iv p4, iv ii, iv (3 : Int32), rv b7, rv b30, iv (own_i (own_wf s2 d2)), iv (own_i (own_al c0 (0 : Int32))), iv (0 : Int32), iv (0 : Int32), .unset] [(.int c0), (.int (0 : Int32))])) rfl (by rw [hml]; rfl) (argsL := [(.int c0)]) (rest := [(.int (0 : Int32))]) (lenOf pd_5 rfl) rfl (by show 2 * 0 + _ ≤ _; exact Nat.le_of_eq rfl) (hb hby at_191) (fun _ _ => ⟨rfl, p169_0, (by decide : 2 + 0 ≤ _), (by decide : 12 + 0 ≤ _)⟩)
    dsimp only [Pt.U, Pt.locs, Pt.cells, Pt.slots] at X175 l175 y175 z175 st175 hQ175
    subst l175 y175 z175
    obtain ⟨rfl, N175q, p175_0⟩ := hQ175
    have N175 := Fr.app N169 N175q
    have R176 : ∀ t, Steps p.tables e below (T175.setTop (mkF m 194 #[iv p0, iv p1, iv p2, iv p3, iv p4, iv ii, iv (3 : Int32), rv b7, rv b30, iv (own_i (own_wf s2 d2)), iv (own_i (own_al c0 (0 : Int32))), iv (0 : Int32), iv (0 : Int32), .unset] [(.int (own_i (own_D c0))), (.int (0 : Int32))])) t → Steps p.tables e below (s₁.setTop f0) t := fun t k => R174 t (st175 t k)
    have R177 : ∀ t, Steps p.tables e below (T175.setTop (mkF m 202 #[iv p0, iv p1, iv p2, iv p3, iv p4, iv ii, iv (3 : Int32), rv b7, rv b30, iv (own_i (own_wf s2 d2)), iv (own_i (own_al c0 (0 : Int32))), iv (0 : Int32), iv (0 : Int32), .unset] [(.int (own_i (own_D c0))), (.int (0 : Int32))])) t → Steps p.tables e below (s₁.setTop f0) t := by
      intro t k
      refine R176 t ?_
      by_cases hm1 : (own_i (own_D c0)) = (0 : Int32)
      · skip
        show Steps p.tables e below (T175.setTop (mkF m 194 #[iv p0, iv p1, iv p2, iv p3, iv p4, iv ii, iv (3 : Int32), rv b7, rv b30, iv (own_i (own_wf s2 d2)), iv (own_i (own_al c0 (0 : Int32))), iv (0 : Int32), iv (0 : Int32), .unset] [(.int (own_i (own_D c0))), (.int (0 : Int32))])) _
        refine XS.ifYes X175.here hx rfl (pc0 := 194) (pc' := 201) rfl (hb hby at_194) rfl ((if0 _ _).trans (teq hm1).1) (by decide) (by decide) ?_
        refine XS.iconst X175.here hx rfl (hb hby at_201) ?_
        have hv : (own_i (own_D c0)) = (0 : Int32) := by (try simp only [lw_gt, lw_lt, lw_eq, own_i_eq0, Bool.not_eq_false] at hm1); simp [own_i, hm1]
        rw [hv] at k
        exact k
      · skip
        show Steps p.tables e below (T175.setTop (mkF m 194 #[iv p0, iv p1, iv p2, iv p3, iv p4, iv ii, iv (3 : Int32), rv b7, rv b30, iv (own_i (own_wf s2 d2)), iv (own_i (own_al c0 (0 : Int32))), iv (0 : Int32), iv (0 : Int32), .unset] [(.int (own_i (own_D c0))), (.int (0 : Int32))])) _
        refine XS.ifNo X175.here hx rfl (hb hby at_194) rfl ((if0 _ _).trans (feq hm1).1) ?_
        refine XS.iconst X175.here hx rfl (hb hby at_197) ?_
        show Steps p.tables e below (T175.setTop (mkF m 198 #[iv p0, iv p1, iv p2, iv p3, iv p4, iv ii, iv (3 : Int32), rv b7, rv b30, iv (own_i (own_wf s2 d2)), iv (own_i (own_al c0 (0 : Int32))), iv (0 : Int32), iv (0 : Int32), .unset] [(.int (1 : Int32)), (.int (0 : Int32))])) _
        refine XS.goto X175.here hx rfl (pc0 := 198) (pc' := 202) rfl (hb hby at_198) (by decide) (by decide) ?_
        have hv : (own_i (own_D c0)) = (1 : Int32) := by (try simp only [lw_gt, lw_lt, lw_eq, own_i_eq0, Bool.not_eq_false] at hm1); simp [own_i, hm1]
        rw [hv] at k
        exact k
    have R178 : ∀ t, Steps p.tables e below (T175.setTop (mkF m 210 #[iv p0, iv p1, iv p2, iv p3, iv p4, iv ii, iv (3 : Int32), rv b7, rv b30, iv (own_i (own_wf s2 d2)), iv (own_i (own_al c0 (0 : Int32))), iv ((0 : Int32) + (own_i (own_D c0))), iv (0 : Int32), .unset] [(.int (0 : Int32)), (.ref b7), (.int (0 : Int32))])) t → Steps p.tables e below (s₁.setTop f0) t := fun t k => R177 t (by
      show Steps p.tables e below (T175.setTop (mkF m 202 #[iv p0, iv p1, iv p2, iv p3, iv p4, iv ii, iv (3 : Int32), rv b7, rv b30, iv (own_i (own_wf s2 d2)), iv (own_i (own_al c0 (0 : Int32))), iv (0 : Int32), iv (0 : Int32), .unset] [(.int (own_i (own_D c0))), (.int (0 : Int32))])) _
      refine XS.iadd X175.here hx rfl (hb hby at_202) rfl ?_
      refine XS.istore X175.here hx rfl (hb hby at_203) rfl (l' := #[iv p0, iv p1, iv p2, iv p3, iv p4, iv ii, iv (3 : Int32), rv b7, rv b30, iv (own_i (own_wf s2 d2)), iv (own_i (own_al c0 (0 : Int32))), iv ((0 : Int32) + (own_i (own_D c0))), iv (0 : Int32), .unset]) rfl ?_
      show Steps p.tables e below (T175.setTop (mkF m 205 #[iv p0, iv p1, iv p2, iv p3, iv p4, iv ii, iv (3 : Int32), rv b7, rv b30, iv (own_i (own_wf s2 d2)), iv (own_i (own_al c0 (0 : Int32))), iv ((0 : Int32) + (own_i (own_D c0))), iv (0 : Int32), .unset] [])) _
      refine XS.iload X175.here hx rfl (hb hby at_205) rfl  ?_
      refine XS.aload X175.here hx rfl (hb hby at_207) rfl rfl ?_
      show Steps p.tables e below (T175.setTop (mkF m 209 #[iv p0, iv p1, iv p2, iv p3, iv p4, iv ii, iv (3 : Int32), rv b7, rv b30, iv (own_i (own_wf s2 d2)), iv (own_i (own_al c0 (0 : Int32))), iv ((0 : Int32) + (own_i (own_D c0))), iv (0 : Int32), .unset] [(.ref b7), (.int (0 : Int32))])) _
      refine XS.iconst X175.here hx rfl (hb hby at_209) ?_
      exact k)
    obtain ⟨cl179, Ar179, q179, S179, n179_, H179, G179⟩ := id f160_A_b7
    have hin179 : ¬ ((0 : Int32) < 0 ∨ cl179.slots.size ≤ ((0 : Int32)).toNatClampNeg) := inb_of S179 ⟨by decide, by decide⟩
    have hat179 : cl179.slots[((0 : Int32)).toNatClampNeg]? = some (.int c0) := Has.at H179 hin179 rfl
    have R180 : ∀ t, Steps p.tables e below (T175.setTop (mkF m 211 #[iv p0, iv p1, iv p2, iv p3, iv p4, iv ii, iv (3 : Int32), rv b7, rv b30, iv (own_i (own_wf s2 d2)), iv (own_i (own_al c0 (0 : Int32))), iv ((0 : Int32) + (own_i (own_D c0))), iv (0 : Int32), .unset] [(.int c0), (.int (0 : Int32))])) t → Steps p.tables e below (s₁.setTop f0) t := fun t k => R178 t (X175.caload hx (j := (0 : Int32)) (v := (.int c0)) (by rw [p175_0]; exact Ar179.1) (State.isArrayOf_alike hZ.alike Ar179.2.1) Ar179.2.2 hin179 hat179 (g := (mkF m 210 #[iv p0, iv p1, iv p2, iv p3, iv p4, iv ii, iv (3 : Int32), rv b7, rv b30, iv (own_i (own_wf s2 d2)), iv (own_i (own_al c0 (0 : Int32))), iv ((0 : Int32) + (own_i (own_D c0))), iv (0 : Int32), .unset] [(.int (0 : Int32)), (.ref b7), (.int (0 : Int32))])) rfl rfl (hb hby at_210) _ k)
    have R181 : ∀ t, Steps p.tables e below (T175.setTop (mkF m 213 #[iv p0, iv p1, iv p2, iv p3, iv p4, iv ii, iv (3 : Int32), rv b7, rv b30, iv (own_i (own_wf s2 d2)), iv (own_i (own_al c0 (0 : Int32))), iv ((0 : Int32) + (own_i (own_D c0))), iv (0 : Int32), .unset] [(.int (46 : Int32)), (.int c0), (.int (0 : Int32))])) t → Steps p.tables e below (s₁.setTop f0) t := fun t k => R180 t (by
      show Steps p.tables e below (T175.setTop (mkF m 211 #[iv p0, iv p1, iv p2, iv p3, iv p4, iv ii, iv (3 : Int32), rv b7, rv b30, iv (own_i (own_wf s2 d2)), iv (own_i (own_al c0 (0 : Int32))), iv ((0 : Int32) + (own_i (own_D c0))), iv (0 : Int32), .unset] [(.int c0), (.int (0 : Int32))])) _
      refine XS.bipush X175.here hx rfl (hb hby at_211) ?_
      exact k)
    have R182 : ∀ t, Steps p.tables e below (T175.setTop (mkF m 221 #[iv p0, iv p1, iv p2, iv p3, iv p4, iv ii, iv (3 : Int32), rv b7, rv b30, iv (own_i (own_wf s2 d2)), iv (own_i (own_al c0 (0 : Int32))), iv ((0 : Int32) + (own_i (own_D c0))), iv (0 : Int32), .unset] [(.int (own_i (own_P c0))), (.int (0 : Int32))])) t → Steps p.tables e below (s₁.setTop f0) t := by
      intro t k
      refine R181 t ?_
      by_cases hm1 : c0 = (46 : Int32)
      · skip
        show Steps p.tables e below (T175.setTop (mkF m 213 #[iv p0, iv p1, iv p2, iv p3, iv p4, iv ii, iv (3 : Int32), rv b7, rv b30, iv (own_i (own_wf s2 d2)), iv (own_i (own_al c0 (0 : Int32))), iv ((0 : Int32) + (own_i (own_D c0))), iv (0 : Int32), .unset] [(.int (46 : Int32)), (.int c0), (.int (0 : Int32))])) _
        refine XS.icmpNo X175.here hx rfl (hb hby at_213) rfl (teq hm1).2 ?_
        refine XS.iconst X175.here hx rfl (hb hby at_216) ?_
        show Steps p.tables e below (T175.setTop (mkF m 217 #[iv p0, iv p1, iv p2, iv p3, iv p4, iv ii, iv (3 : Int32), rv b7, rv b30, iv (own_i (own_wf s2 d2)), iv (own_i (own_al c0 (0 : Int32))), iv ((0 : Int32) + (own_i (own_D c0))), iv (0 : Int32), .unset] [(.int (1 : Int32)), (.int (0 : Int32))])) _
        refine XS.goto X175.here hx rfl (pc0 := 217) (pc' := 221) rfl (hb hby at_217) (by decide) (by decide) ?_
        have hv : (own_i (own_P c0)) = (1 : Int32) := by (try simp only [lw_gt, lw_lt, lw_eq, own_i_eq0, Bool.not_eq_false] at hm1); simp [own_i, own_P, hm1]
        rw [hv] at k
        exact k
      · skip
        show Steps p.tables e below (T175.setTop (mkF m 213 #[iv p0, iv p1, iv p2, iv p3, iv p4, iv ii, iv (3 : Int32), rv b7, rv b30, iv (own_i (own_wf s2 d2)), iv (own_i (own_al c0 (0 : Int32))), iv ((0 : Int32) + (own_i (own_D c0))), iv (0 : Int32), .unset] [(.int (46 : Int32)), (.int c0), (.int (0 : Int32))])) _
        refine XS.icmpYes X175.here hx rfl (pc0 := 213) (pc' := 220) rfl (hb hby at_213) rfl (feq hm1).2 (by decide) (by decide) ?_
        refine XS.iconst X175.here hx rfl (hb hby at_220) ?_
        have hv : (own_i (own_P c0)) = (0 : Int32) := by (try simp only [lw_gt, lw_lt, lw_eq, own_i_eq0, Bool.not_eq_false] at hm1); simp [own_i, own_P, hm1]
        rw [hv] at k
        exact k
    have R183 : ∀ t, Steps p.tables e below (T175.setTop (mkF m 232 #[iv p0, iv p1, iv p2, iv p3, iv p4, iv ii, iv (3 : Int32), rv b7, rv b30, iv (own_i (own_wf s2 d2)), iv (own_i (own_al c0 (0 : Int32))), iv ((0 : Int32) + (own_i (own_D c0))), iv ((0 : Int32) + (own_i (own_P c0))), .unset] [(.int (own_i (own_al c0 (0 : Int32))))])) t → Steps p.tables e below (s₁.setTop f0) t := fun t k => R182 t (by
      show Steps p.tables e below (T175.setTop (mkF m 221 #[iv p0, iv p1, iv p2, iv p3, iv p4, iv ii, iv (3 : Int32), rv b7, rv b30, iv (own_i (own_wf s2 d2)), iv (own_i (own_al c0 (0 : Int32))), iv ((0 : Int32) + (own_i (own_D c0))), iv (0 : Int32), .unset] [(.int (own_i (own_P c0))), (.int (0 : Int32))])) _
      refine XS.iadd X175.here hx rfl (hb hby at_221) rfl ?_
      refine XS.istore X175.here hx rfl (hb hby at_222) rfl (l' := #[iv p0, iv p1, iv p2, iv p3, iv p4, iv ii, iv (3 : Int32), rv b7, rv b30, iv (own_i (own_wf s2 d2)), iv (own_i (own_al c0 (0 : Int32))), iv ((0 : Int32) + (own_i (own_D c0))), iv ((0 : Int32) + (own_i (own_P c0))), .unset]) rfl ?_
      show Steps p.tables e below (T175.setTop (mkF m 224 #[iv p0, iv p1, iv p2, iv p3, iv p4, iv ii, iv (3 : Int32), rv b7, rv b30, iv (own_i (own_wf s2 d2)), iv (own_i (own_al c0 (0 : Int32))), iv ((0 : Int32) + (own_i (own_D c0))), iv ((0 : Int32) + (own_i (own_P c0))), .unset] [])) _
      refine XS.iload X175.here hx rfl (hb hby at_224) rfl  ?_
      refine XS.iconst X175.here hx rfl (hb hby at_226) ?_
      show Steps p.tables e below (T175.setTop (mkF m 227 #[iv p0, iv p1, iv p2, iv p3, iv p4, iv ii, iv (3 : Int32), rv b7, rv b30, iv (own_i (own_wf s2 d2)), iv (own_i (own_al c0 (0 : Int32))), iv ((0 : Int32) + (own_i (own_D c0))), iv ((0 : Int32) + (own_i (own_P c0))), .unset] [(.int (1 : Int32)), (.int (3 : Int32))])) _
      refine XS.icmpNo X175.here hx rfl (hb hby at_227) rfl (tlt (by decide : (1 : Int32) < (3 : Int32))).2.2.2 ?_
      refine XS.iload X175.here hx rfl (hb hby at_230) rfl  ?_
      exact k)
    obtain ⟨T193, L193, X193, N193, e193, R193⟩ : ∃ (T' : State) (L' : List Loc), Stand p l e room_1 s m #[(.int p0), (.int p1), (.int p2), (.int p3), (.int p4)] below meth c T' L' 2 12 ∧ Fr n0 L' ∧ T'.heap = T160.heap ∧ ∀ t, Steps p.tables e below (T'.setTop (mkF m 251 #[iv p0, iv p1, iv p2, iv p3, iv p4, iv ii, iv (3 : Int32), rv b7, rv b30, iv (own_i (own_wf s2 d2)), iv (own_i (own_al c0 (0 : Int32))), iv ((0 : Int32) + (own_i (own_D c0))), iv ((0 : Int32) + (own_i (own_P c0))), .unset] [(.int (own_i ((own_al c0 (0 : Int32)) && own_al c1 (1 : Int32))))])) t → Steps p.tables e below (s₁.setTop f0) t := by
      by_cases hg4 : (own_i (own_al c0 (0 : Int32))) = (0 : Int32)
      · skip
        have R184 : ∀ t, Steps p.tables e below (T175.setTop (mkF m 251 #[iv p0, iv p1, iv p2, iv p3, iv p4, iv ii, iv (3 : Int32), rv b7, rv b30, iv (own_i (own_wf s2 d2)), iv (own_i (own_al c0 (0 : Int32))), iv ((0 : Int32) + (own_i (own_D c0))), iv ((0 : Int32) + (own_i (own_P c0))), .unset] [(.int (0 : Int32))])) t → Steps p.tables e below (s₁.setTop f0) t := fun t k => R183 t (by
          show Steps p.tables e below (T175.setTop (mkF m 232 #[iv p0, iv p1, iv p2, iv p3, iv p4, iv ii, iv (3 : Int32), rv b7, rv b30, iv (own_i (own_wf s2 d2)), iv (own_i (own_al c0 (0 : Int32))), iv ((0 : Int32) + (own_i (own_D c0))), iv ((0 : Int32) + (own_i (own_P c0))), .unset] [(.int (own_i (own_al c0 (0 : Int32))))])) _
          refine XS.ifYes X175.here hx rfl (pc0 := 232) (pc' := 250) rfl (hb hby at_232) rfl ((if0 _ _).trans (teq hg4).1) (by decide) (by decide) ?_
          refine XS.iconst X175.here hx rfl (hb hby at_250) ?_
          exact k)
        have hv0 : (own_i ((own_al c0 (0 : Int32)) && own_al c1 (1 : Int32))) = (0 : Int32) := by (try simp only [lw_gt, lw_lt, lw_eq, own_i_eq0, Bool.not_eq_false] at hg4); simp [own_i, hg4]
        rw [hv0]
        exact ⟨T175, _, X175, N175, p175_0, R184⟩
      · skip
        have R185 : ∀ t, Steps p.tables e below (T175.setTop (mkF m 238 #[iv p0, iv p1, iv p2, iv p3, iv p4, iv ii, iv (3 : Int32), rv b7, rv b30, iv (own_i (own_wf s2 d2)), iv (own_i (own_al c0 (0 : Int32))), iv ((0 : Int32) + (own_i (own_D c0))), iv ((0 : Int32) + (own_i (own_P c0))), .unset] [(.int (1 : Int32)), (.ref b7)])) t → Steps p.tables e below (s₁.setTop f0) t := fun t k => R183 t (by
          show Steps p.tables e below (T175.setTop (mkF m 232 #[iv p0, iv p1, iv p2, iv p3, iv p4, iv ii, iv (3 : Int32), rv b7, rv b30, iv (own_i (own_wf s2 d2)), iv (own_i (own_al c0 (0 : Int32))), iv ((0 : Int32) + (own_i (own_D c0))), iv ((0 : Int32) + (own_i (own_P c0))), .unset] [(.int (own_i (own_al c0 (0 : Int32))))])) _
          refine XS.ifNo X175.here hx rfl (hb hby at_232) rfl ((if0 _ _).trans (feq hg4).1) ?_
          refine XS.aload X175.here hx rfl (hb hby at_235) rfl rfl ?_
          show Steps p.tables e below (T175.setTop (mkF m 237 #[iv p0, iv p1, iv p2, iv p3, iv p4, iv ii, iv (3 : Int32), rv b7, rv b30, iv (own_i (own_wf s2 d2)), iv (own_i (own_al c0 (0 : Int32))), iv ((0 : Int32) + (own_i (own_D c0))), iv ((0 : Int32) + (own_i (own_P c0))), .unset] [(.ref b7)])) _
          refine XS.iconst X175.here hx rfl (hb hby at_237) ?_
          exact k)
        obtain ⟨cl186, Ar186, q186, S186, n186_, H186, G186⟩ := id f160_A_b7
        have hin186 : ¬ ((1 : Int32) < 0 ∨ cl186.slots.size ≤ ((1 : Int32)).toNatClampNeg) := inb_of S186 ⟨by decide, by decide⟩
        have hat186 : cl186.slots[((1 : Int32)).toNatClampNeg]? = some (.int c1) := Has.at H186 hin186 rfl
        have R187 : ∀ t, Steps p.tables e below (T175.setTop (mkF m 239 #[iv p0, iv p1, iv p2, iv p3, iv p4, iv ii, iv (3 : Int32), rv b7, rv b30, iv (own_i (own_wf s2 d2)), iv (own_i (own_al c0 (0 : Int32))), iv ((0 : Int32) + (own_i (own_D c0))), iv ((0 : Int32) + (own_i (own_P c0))), .unset] [(.int c1)])) t → Steps p.tables e below (s₁.setTop f0) t := fun t k => R185 t (X175.caload hx (j := (1 : Int32)) (v := (.int c1)) (by rw [p175_0]; exact Ar186.1) (State.isArrayOf_alike hZ.alike Ar186.2.1) Ar186.2.2 hin186 hat186 (g := (mkF m 238 #[iv p0, iv p1, iv p2, iv p3, iv p4, iv ii, iv (3 : Int32), rv b7, rv b30, iv (own_i (own_wf s2 d2)), iv (own_i (own_al c0 (0 : Int32))), iv ((0 : Int32) + (own_i (own_D c0))), iv ((0 : Int32) + (own_i (own_P c0))), .unset] [(.int (1 : Int32)), (.ref b7)])) rfl rfl (hb hby at_238) _ k)
        have R188 : ∀ t, Steps p.tables e below (T175.setTop (mkF m 240 #[iv p0, iv p1, iv p2, iv p3, iv p4, iv ii, iv (3 : Int32), rv b7, rv b30, iv (own_i (own_wf s2 d2)), iv (own_i (own_al c0 (0 : Int32))), iv ((0 : Int32) + (own_i (own_D c0))), iv ((0 : Int32) + (own_i (own_P c0))), .unset] [(.int (1 : Int32)), (.int c1)])) t → Steps p.tables e below (s₁.setTop f0) t := fun t k => R187 t (by
          show Steps p.tables e below (T175.setTop (mkF m 239 #[iv p0, iv p1, iv p2, iv p3, iv p4, iv ii, iv (3 : Int32), rv b7, rv b30, iv (own_i (own_wf s2 d2)), iv (own_i (own_al c0 (0 : Int32))), iv ((0 : Int32) + (own_i (own_D c0))), iv ((0 : Int32) + (own_i (own_P c0))), .unset] [(.int c1)])) _
          refine XS.iconst X175.here hx rfl (hb hby at_239) ?_
          exact k)
        obtain ⟨_, _, ⟨T189, L189, k189, n189⟩, -, X189, ⟨Lc189, hQ189, l189, y189, z189⟩, st189⟩ := Jvm.LawKit.callS X175 hx (y := (⟨sN5, "allowed", "(CI)Z"⟩ : MethodName)) hown (mvT hZ (hw _ (List.mem_of_getElem? (i := 73) rfl))) (mvT hZ (hw _ (List.mem_of_getElem? (i := 74) rfl))) (mvT hZ (hw _ (List.mem_of_getElem? (i := 3) rfl))) (mvT hZ (hw _ (List.mem_of_getElem? (i := 75) rfl))) (by decide) (backOf (W := 0) (rmAll l Z a0 hw [] c1 (1 : Int32) T160.heap n0 z160) hZ (hw _ (List.mem_of_getElem? (i := 75) rfl)) (hw _ (List.mem_of_getElem? (i := 3) rfl)) (by decide) (by decide)) (g := (mkF m 240 #[iv p0, iv p1, iv p2, iv p3, iv p4, iv ii, iv (3 : Int32), rv b7, rv b30, iv (own_i (own_wf s2 d2)), iv (own_i (own_al c0 (0 : Int32))), iv ((0 : Int32) + (own_i (own_D c0))), iv ((0 : Int32) + (own_i (own_P c0))), .unset] [(.int (1 : Int32)), (.int c1)])) rfl (by rw [hml]; rfl) (argsL := [(.int c1), (.int (1 : Int32))]) (rest := []) (lenOf pd_11 rfl) rfl (by show 2 * 0 + _ ≤ _; exact Nat.le_of_eq rfl) (hb hby at_240) (fun _ _ => ⟨rfl, p175_0, (by decide : 2 + 0 ≤ _), (by decide : 12 + 0 ≤ _)⟩)
        dsimp only [Pt.U, Pt.locs, Pt.cells, Pt.slots] at X189 l189 y189 z189 st189 hQ189
        subst l189 y189 z189
        obtain ⟨rfl, N189q, p189_0⟩ := hQ189
        have N189 := Fr.app N175 N189q
        have R190 : ∀ t, Steps p.tables e below (T189.setTop (mkF m 243 #[iv p0, iv p1, iv p2, iv p3, iv p4, iv ii, iv (3 : Int32), rv b7, rv b30, iv (own_i (own_wf s2 d2)), iv (own_i (own_al c0 (0 : Int32))), iv ((0 : Int32) + (own_i (own_D c0))), iv ((0 : Int32) + (own_i (own_P c0))), .unset] [(.int (own_i (own_al c1 (1 : Int32))))])) t → Steps p.tables e below (s₁.setTop f0) t := fun t k => R188 t (st189 t k)
        by_cases hg5 : (own_i (own_al c1 (1 : Int32))) = (0 : Int32)
        · skip
          have R191 : ∀ t, Steps p.tables e below (T189.setTop (mkF m 251 #[iv p0, iv p1, iv p2, iv p3, iv p4, iv ii, iv (3 : Int32), rv b7, rv b30, iv (own_i (own_wf s2 d2)), iv (own_i (own_al c0 (0 : Int32))), iv ((0 : Int32) + (own_i (own_D c0))), iv ((0 : Int32) + (own_i (own_P c0))), .unset] [(.int (0 : Int32))])) t → Steps p.tables e below (s₁.setTop f0) t := fun t k => R190 t (by
            show Steps p.tables e below (T189.setTop (mkF m 243 #[iv p0, iv p1, iv p2, iv p3, iv p4, iv ii, iv (3 : Int32), rv b7, rv b30, iv (own_i (own_wf s2 d2)), iv (own_i (own_al c0 (0 : Int32))), iv ((0 : Int32) + (own_i (own_D c0))), iv ((0 : Int32) + (own_i (own_P c0))), .unset] [(.int (own_i (own_al c1 (1 : Int32))))])) _
            refine XS.ifYes X189.here hx rfl (pc0 := 243) (pc' := 250) rfl (hb hby at_243) rfl ((if0 _ _).trans (teq hg5).1) (by decide) (by decide) ?_
            refine XS.iconst X189.here hx rfl (hb hby at_250) ?_
            exact k)
          have hv0 : (own_i ((own_al c0 (0 : Int32)) && own_al c1 (1 : Int32))) = (0 : Int32) := by (try simp only [lw_gt, lw_lt, lw_eq, own_i_eq0, Bool.not_eq_false] at hg4); (try simp only [lw_gt, lw_lt, lw_eq, own_i_eq0, Bool.not_eq_false] at hg5); simp [own_i, hg4, hg5]
          rw [hv0]
          exact ⟨T189, _, X189, N189, p189_0, R191⟩
        · skip
          have R192 : ∀ t, Steps p.tables e below (T189.setTop (mkF m 251 #[iv p0, iv p1, iv p2, iv p3, iv p4, iv ii, iv (3 : Int32), rv b7, rv b30, iv (own_i (own_wf s2 d2)), iv (own_i (own_al c0 (0 : Int32))), iv ((0 : Int32) + (own_i (own_D c0))), iv ((0 : Int32) + (own_i (own_P c0))), .unset] [(.int (1 : Int32))])) t → Steps p.tables e below (s₁.setTop f0) t := fun t k => R190 t (by
            show Steps p.tables e below (T189.setTop (mkF m 243 #[iv p0, iv p1, iv p2, iv p3, iv p4, iv ii, iv (3 : Int32), rv b7, rv b30, iv (own_i (own_wf s2 d2)), iv (own_i (own_al c0 (0 : Int32))), iv ((0 : Int32) + (own_i (own_D c0))), iv ((0 : Int32) + (own_i (own_P c0))), .unset] [(.int (own_i (own_al c1 (1 : Int32))))])) _
            refine XS.ifNo X189.here hx rfl (hb hby at_243) rfl ((if0 _ _).trans (feq hg5).1) ?_
            refine XS.iconst X189.here hx rfl (hb hby at_246) ?_
            show Steps p.tables e below (T189.setTop (mkF m 247 #[iv p0, iv p1, iv p2, iv p3, iv p4, iv ii, iv (3 : Int32), rv b7, rv b30, iv (own_i (own_wf s2 d2)), iv (own_i (own_al c0 (0 : Int32))), iv ((0 : Int32) + (own_i (own_D c0))), iv ((0 : Int32) + (own_i (own_P c0))), .unset] [(.int (1 : Int32))])) _
            refine XS.goto X189.here hx rfl (pc0 := 247) (pc' := 251) rfl (hb hby at_247) (by decide) (by decide) ?_
            exact k)
          have hv0 : (own_i ((own_al c0 (0 : Int32)) && own_al c1 (1 : Int32))) = (1 : Int32) := by (try simp only [lw_gt, lw_lt, lw_eq, own_i_eq0, Bool.not_eq_false] at hg4); (try simp only [lw_gt, lw_lt, lw_eq, own_i_eq0, Bool.not_eq_false] at hg5); simp [own_i, hg4, hg5]
          rw [hv0]
          exact ⟨T189, _, X189, N189, p189_0, R192⟩
    have R194 : ∀ t, Steps p.tables e below (T193.setTop (mkF m 258 #[iv p0, iv p1, iv p2, iv p3, iv p4, iv ii, iv (3 : Int32), rv b7, rv b30, iv (own_i (own_wf s2 d2)), iv (own_i ((own_al c0 (0 : Int32)) && own_al c1 (1 : Int32))), iv ((0 : Int32) + (own_i (own_D c0))), iv ((0 : Int32) + (own_i (own_P c0))), .unset] [(.int (1 : Int32)), (.ref b7), (.int ((0 : Int32) + (own_i (own_D c0))))])) t → Steps p.tables e below (s₁.setTop f0) t := fun t k => R193 t (by
      show Steps p.tables e below (T193.setTop (mkF m 251 #[iv p0, iv p1, iv p2, iv p3, iv p4, iv ii, iv (3 : Int32), rv b7, rv b30, iv (own_i (own_wf s2 d2)), iv (own_i (own_al c0 (0 : Int32))), iv ((0 : Int32) + (own_i (own_D c0))), iv ((0 : Int32) + (own_i (own_P c0))), .unset] [(.int (own_i ((own_al c0 (0 : Int32)) && own_al c1 (1 : Int32))))])) _
      refine XS.istore X193.here hx rfl (hb hby at_251) rfl (l' := #[iv p0, iv p1, iv p2, iv p3, iv p4, iv ii, iv (3 : Int32), rv b7, rv b30, iv (own_i (own_wf s2 d2)), iv (own_i ((own_al c0 (0 : Int32)) && own_al c1 (1 : Int32))), iv ((0 : Int32) + (own_i (own_D c0))), iv ((0 : Int32) + (own_i (own_P c0))), .unset]) rfl ?_
      refine XS.iload X193.here hx rfl (hb hby at_253) rfl  ?_
      show Steps p.tables e below (T193.setTop (mkF m 255 #[iv p0, iv p1, iv p2, iv p3, iv p4, iv ii, iv (3 : Int32), rv b7, rv b30, iv (own_i (own_wf s2 d2)), iv (own_i ((own_al c0 (0 : Int32)) && own_al c1 (1 : Int32))), iv ((0 : Int32) + (own_i (own_D c0))), iv ((0 : Int32) + (own_i (own_P c0))), .unset] [(.int ((0 : Int32) + (own_i (own_D c0))))])) _
      refine XS.aload X193.here hx rfl (hb hby at_255) rfl rfl ?_
      refine XS.iconst X193.here hx rfl (hb hby at_257) ?_
      exact k)
    obtain ⟨cl195, Ar195, q195, S195, n195_, H195, G195⟩ := id f160_A_b7
    have hin195 : ¬ ((1 : Int32) < 0 ∨ cl195.slots.size ≤ ((1 : Int32)).toNatClampNeg) := inb_of S195 ⟨by decide, by decide⟩
    have hat195 : cl195.slots[((1 : Int32)).toNatClampNeg]? = some (.int c1) := Has.at H195 hin195 rfl
    have R196 : ∀ t, Steps p.tables e below (T193.setTop (mkF m 259 #[iv p0, iv p1, iv p2, iv p3, iv p4, iv ii, iv (3 : Int32), rv b7, rv b30, iv (own_i (own_wf s2 d2)), iv (own_i ((own_al c0 (0 : Int32)) && own_al c1 (1 : Int32))), iv ((0 : Int32) + (own_i (own_D c0))), iv ((0 : Int32) + (own_i (own_P c0))), .unset] [(.int c1), (.int ((0 : Int32) + (own_i (own_D c0))))])) t → Steps p.tables e below (s₁.setTop f0) t := fun t k => R194 t (X193.caload hx (j := (1 : Int32)) (v := (.int c1)) (by rw [e193]; exact Ar195.1) (State.isArrayOf_alike hZ.alike Ar195.2.1) Ar195.2.2 hin195 hat195 (g := (mkF m 258 #[iv p0, iv p1, iv p2, iv p3, iv p4, iv ii, iv (3 : Int32), rv b7, rv b30, iv (own_i (own_wf s2 d2)), iv (own_i ((own_al c0 (0 : Int32)) && own_al c1 (1 : Int32))), iv ((0 : Int32) + (own_i (own_D c0))), iv ((0 : Int32) + (own_i (own_P c0))), .unset] [(.int (1 : Int32)), (.ref b7), (.int ((0 : Int32) + (own_i (own_D c0))))])) rfl rfl (hb hby at_258) _ k)
    obtain ⟨_, _, ⟨T197, L197, k197, n197⟩, -, X197, ⟨Lc197, hQ197, l197, y197, z197⟩, st197⟩ := Jvm.LawKit.callS X193 hx (y := (⟨sN5, "isDigit", "(C)Z"⟩ : MethodName)) hown (mvT hZ (hw _ (List.mem_of_getElem? (i := 76) rfl))) (mvT hZ (hw _ (List.mem_of_getElem? (i := 77) rfl))) (mvT hZ (hw _ (List.mem_of_getElem? (i := 3) rfl))) (mvT hZ (hw _ (List.mem_of_getElem? (i := 78) rfl))) (by decide) (backOf (W := 1) (rmIsd l Z a0 hw [] c1 T160.heap n0 z160) hZ (hw _ (List.mem_of_getElem? (i := 78) rfl)) (hw _ (List.mem_of_getElem? (i := 3) rfl)) (by decide) (by decide)) (g := (mkF m 259 #[iv p0, iv p1, iv p2, iv p3, iv p4, iv ii, iv (3 : Int32), rv b7, rv b30, iv (own_i (own_wf s2 d2)), iv (own_i ((own_al c0 (0 : Int32)) && own_al c1 (1 : Int32))), iv ((0 : Int32) + (own_i (own_D c0))), iv ((0 : Int32) + (own_i (own_P c0))), .unset] [(.int c1), (.int ((0 : Int32) + (own_i (own_D c0))))])) rfl (by rw [hml]; rfl) (argsL := [(.int c1)]) (rest := [(.int ((0 : Int32) + (own_i (own_D c0))))]) (lenOf pd_5 rfl) rfl (by show 2 * 0 + _ ≤ _; exact Nat.le_of_eq rfl) (hb hby at_259) (fun _ _ => ⟨rfl, e193, (by decide : 2 + 0 ≤ _), (by decide : 12 + 0 ≤ _)⟩)
    dsimp only [Pt.U, Pt.locs, Pt.cells, Pt.slots] at X197 l197 y197 z197 st197 hQ197
    subst l197 y197 z197
    obtain ⟨rfl, N197q, p197_0⟩ := hQ197
    have N197 := Fr.app N193 N197q
    have R198 : ∀ t, Steps p.tables e below (T197.setTop (mkF m 262 #[iv p0, iv p1, iv p2, iv p3, iv p4, iv ii, iv (3 : Int32), rv b7, rv b30, iv (own_i (own_wf s2 d2)), iv (own_i ((own_al c0 (0 : Int32)) && own_al c1 (1 : Int32))), iv ((0 : Int32) + (own_i (own_D c0))), iv ((0 : Int32) + (own_i (own_P c0))), .unset] [(.int (own_i (own_D c1))), (.int ((0 : Int32) + (own_i (own_D c0))))])) t → Steps p.tables e below (s₁.setTop f0) t := fun t k => R196 t (st197 t k)
    have R199 : ∀ t, Steps p.tables e below (T197.setTop (mkF m 270 #[iv p0, iv p1, iv p2, iv p3, iv p4, iv ii, iv (3 : Int32), rv b7, rv b30, iv (own_i (own_wf s2 d2)), iv (own_i ((own_al c0 (0 : Int32)) && own_al c1 (1 : Int32))), iv ((0 : Int32) + (own_i (own_D c0))), iv ((0 : Int32) + (own_i (own_P c0))), .unset] [(.int (own_i (own_D c1))), (.int ((0 : Int32) + (own_i (own_D c0))))])) t → Steps p.tables e below (s₁.setTop f0) t := by
      intro t k
      refine R198 t ?_
      by_cases hm1 : (own_i (own_D c1)) = (0 : Int32)
      · skip
        show Steps p.tables e below (T197.setTop (mkF m 262 #[iv p0, iv p1, iv p2, iv p3, iv p4, iv ii, iv (3 : Int32), rv b7, rv b30, iv (own_i (own_wf s2 d2)), iv (own_i ((own_al c0 (0 : Int32)) && own_al c1 (1 : Int32))), iv ((0 : Int32) + (own_i (own_D c0))), iv ((0 : Int32) + (own_i (own_P c0))), .unset] [(.int (own_i (own_D c1))), (.int ((0 : Int32) + (own_i (own_D c0))))])) _
        refine XS.ifYes X197.here hx rfl (pc0 := 262) (pc' := 269) rfl (hb hby at_262) rfl ((if0 _ _).trans (teq hm1).1) (by decide) (by decide) ?_
        refine XS.iconst X197.here hx rfl (hb hby at_269) ?_
        have hv : (own_i (own_D c1)) = (0 : Int32) := by (try simp only [lw_gt, lw_lt, lw_eq, own_i_eq0, Bool.not_eq_false] at hm1); simp [own_i, hm1]
        rw [hv] at k
        exact k
      · skip
        show Steps p.tables e below (T197.setTop (mkF m 262 #[iv p0, iv p1, iv p2, iv p3, iv p4, iv ii, iv (3 : Int32), rv b7, rv b30, iv (own_i (own_wf s2 d2)), iv (own_i ((own_al c0 (0 : Int32)) && own_al c1 (1 : Int32))), iv ((0 : Int32) + (own_i (own_D c0))), iv ((0 : Int32) + (own_i (own_P c0))), .unset] [(.int (own_i (own_D c1))), (.int ((0 : Int32) + (own_i (own_D c0))))])) _
        refine XS.ifNo X197.here hx rfl (hb hby at_262) rfl ((if0 _ _).trans (feq hm1).1) ?_
        refine XS.iconst X197.here hx rfl (hb hby at_265) ?_
        show Steps p.tables e below (T197.setTop (mkF m 266 #[iv p0, iv p1, iv p2, iv p3, iv p4, iv ii, iv (3 : Int32), rv b7, rv b30, iv (own_i (own_wf s2 d2)), iv (own_i ((own_al c0 (0 : Int32)) && own_al c1 (1 : Int32))), iv ((0 : Int32) + (own_i (own_D c0))), iv ((0 : Int32) + (own_i (own_P c0))), .unset] [(.int (1 : Int32)), (.int ((0 : Int32) + (own_i (own_D c0))))])) _
        refine XS.goto X197.here hx rfl (pc0 := 266) (pc' := 270) rfl (hb hby at_266) (by decide) (by decide) ?_
        have hv : (own_i (own_D c1)) = (1 : Int32) := by (try simp only [lw_gt, lw_lt, lw_eq, own_i_eq0, Bool.not_eq_false] at hm1); simp [own_i, hm1]
        rw [hv] at k
        exact k
    have R200 : ∀ t, Steps p.tables e below (T197.setTop (mkF m 278 #[iv p0, iv p1, iv p2, iv p3, iv p4, iv ii, iv (3 : Int32), rv b7, rv b30, iv (own_i (own_wf s2 d2)), iv (own_i ((own_al c0 (0 : Int32)) && own_al c1 (1 : Int32))), iv (((0 : Int32) + (own_i (own_D c0))) + (own_i (own_D c1))), iv ((0 : Int32) + (own_i (own_P c0))), .unset] [(.int (1 : Int32)), (.ref b7), (.int ((0 : Int32) + (own_i (own_P c0))))])) t → Steps p.tables e below (s₁.setTop f0) t := fun t k => R199 t (by
      show Steps p.tables e below (T197.setTop (mkF m 270 #[iv p0, iv p1, iv p2, iv p3, iv p4, iv ii, iv (3 : Int32), rv b7, rv b30, iv (own_i (own_wf s2 d2)), iv (own_i ((own_al c0 (0 : Int32)) && own_al c1 (1 : Int32))), iv ((0 : Int32) + (own_i (own_D c0))), iv ((0 : Int32) + (own_i (own_P c0))), .unset] [(.int (own_i (own_D c1))), (.int ((0 : Int32) + (own_i (own_D c0))))])) _
      refine XS.iadd X197.here hx rfl (hb hby at_270) rfl ?_
      refine XS.istore X197.here hx rfl (hb hby at_271) rfl (l' := #[iv p0, iv p1, iv p2, iv p3, iv p4, iv ii, iv (3 : Int32), rv b7, rv b30, iv (own_i (own_wf s2 d2)), iv (own_i ((own_al c0 (0 : Int32)) && own_al c1 (1 : Int32))), iv (((0 : Int32) + (own_i (own_D c0))) + (own_i (own_D c1))), iv ((0 : Int32) + (own_i (own_P c0))), .unset]) rfl ?_
      show Steps p.tables e below (T197.setTop (mkF m 273 #[iv p0, iv p1, iv p2, iv p3, iv p4, iv ii, iv (3 : Int32), rv b7, rv b30, iv (own_i (own_wf s2 d2)), iv (own_i ((own_al c0 (0 : Int32)) && own_al c1 (1 : Int32))), iv (((0 : Int32) + (own_i (own_D c0))) + (own_i (own_D c1))), iv ((0 : Int32) + (own_i (own_P c0))), .unset] [])) _
      refine XS.iload X197.here hx rfl (hb hby at_273) rfl  ?_
      refine XS.aload X197.here hx rfl (hb hby at_275) rfl rfl ?_
      show Steps p.tables e below (T197.setTop (mkF m 277 #[iv p0, iv p1, iv p2, iv p3, iv p4, iv ii, iv (3 : Int32), rv b7, rv b30, iv (own_i (own_wf s2 d2)), iv (own_i ((own_al c0 (0 : Int32)) && own_al c1 (1 : Int32))), iv (((0 : Int32) + (own_i (own_D c0))) + (own_i (own_D c1))), iv ((0 : Int32) + (own_i (own_P c0))), .unset] [(.ref b7), (.int ((0 : Int32) + (own_i (own_P c0))))])) _
      refine XS.iconst X197.here hx rfl (hb hby at_277) ?_
      exact k)
    obtain ⟨cl201, Ar201, q201, S201, n201_, H201, G201⟩ := id f160_A_b7
    have hin201 : ¬ ((1 : Int32) < 0 ∨ cl201.slots.size ≤ ((1 : Int32)).toNatClampNeg) := inb_of S201 ⟨by decide, by decide⟩
    have hat201 : cl201.slots[((1 : Int32)).toNatClampNeg]? = some (.int c1) := Has.at H201 hin201 rfl
    have R202 : ∀ t, Steps p.tables e below (T197.setTop (mkF m 279 #[iv p0, iv p1, iv p2, iv p3, iv p4, iv ii, iv (3 : Int32), rv b7, rv b30, iv (own_i (own_wf s2 d2)), iv (own_i ((own_al c0 (0 : Int32)) && own_al c1 (1 : Int32))), iv (((0 : Int32) + (own_i (own_D c0))) + (own_i (own_D c1))), iv ((0 : Int32) + (own_i (own_P c0))), .unset] [(.int c1), (.int ((0 : Int32) + (own_i (own_P c0))))])) t → Steps p.tables e below (s₁.setTop f0) t := fun t k => R200 t (X197.caload hx (j := (1 : Int32)) (v := (.int c1)) (by rw [p197_0]; exact Ar201.1) (State.isArrayOf_alike hZ.alike Ar201.2.1) Ar201.2.2 hin201 hat201 (g := (mkF m 278 #[iv p0, iv p1, iv p2, iv p3, iv p4, iv ii, iv (3 : Int32), rv b7, rv b30, iv (own_i (own_wf s2 d2)), iv (own_i ((own_al c0 (0 : Int32)) && own_al c1 (1 : Int32))), iv (((0 : Int32) + (own_i (own_D c0))) + (own_i (own_D c1))), iv ((0 : Int32) + (own_i (own_P c0))), .unset] [(.int (1 : Int32)), (.ref b7), (.int ((0 : Int32) + (own_i (own_P c0))))])) rfl rfl (hb hby at_278) _ k)
    have R203 : ∀ t, Steps p.tables e below (T197.setTop (mkF m 281 #[iv p0, iv p1, iv p2, iv p3, iv p4, iv ii, iv (3 : Int32), rv b7, rv b30, iv (own_i (own_wf s2 d2)), iv (own_i ((own_al c0 (0 : Int32)) && own_al c1 (1 : Int32))), iv (((0 : Int32) + (own_i (own_D c0))) + (own_i (own_D c1))), iv ((0 : Int32) + (own_i (own_P c0))), .unset] [(.int (46 : Int32)), (.int c1), (.int ((0 : Int32) + (own_i (own_P c0))))])) t → Steps p.tables e below (s₁.setTop f0) t := fun t k => R202 t (by
      show Steps p.tables e below (T197.setTop (mkF m 279 #[iv p0, iv p1, iv p2, iv p3, iv p4, iv ii, iv (3 : Int32), rv b7, rv b30, iv (own_i (own_wf s2 d2)), iv (own_i ((own_al c0 (0 : Int32)) && own_al c1 (1 : Int32))), iv (((0 : Int32) + (own_i (own_D c0))) + (own_i (own_D c1))), iv ((0 : Int32) + (own_i (own_P c0))), .unset] [(.int c1), (.int ((0 : Int32) + (own_i (own_P c0))))])) _
      refine XS.bipush X197.here hx rfl (hb hby at_279) ?_
      exact k)
    have R204 : ∀ t, Steps p.tables e below (T197.setTop (mkF m 289 #[iv p0, iv p1, iv p2, iv p3, iv p4, iv ii, iv (3 : Int32), rv b7, rv b30, iv (own_i (own_wf s2 d2)), iv (own_i ((own_al c0 (0 : Int32)) && own_al c1 (1 : Int32))), iv (((0 : Int32) + (own_i (own_D c0))) + (own_i (own_D c1))), iv ((0 : Int32) + (own_i (own_P c0))), .unset] [(.int (own_i (own_P c1))), (.int ((0 : Int32) + (own_i (own_P c0))))])) t → Steps p.tables e below (s₁.setTop f0) t := by
      intro t k
      refine R203 t ?_
      by_cases hm1 : c1 = (46 : Int32)
      · skip
        show Steps p.tables e below (T197.setTop (mkF m 281 #[iv p0, iv p1, iv p2, iv p3, iv p4, iv ii, iv (3 : Int32), rv b7, rv b30, iv (own_i (own_wf s2 d2)), iv (own_i ((own_al c0 (0 : Int32)) && own_al c1 (1 : Int32))), iv (((0 : Int32) + (own_i (own_D c0))) + (own_i (own_D c1))), iv ((0 : Int32) + (own_i (own_P c0))), .unset] [(.int (46 : Int32)), (.int c1), (.int ((0 : Int32) + (own_i (own_P c0))))])) _
        refine XS.icmpNo X197.here hx rfl (hb hby at_281) rfl (teq hm1).2 ?_
        refine XS.iconst X197.here hx rfl (hb hby at_284) ?_
        show Steps p.tables e below (T197.setTop (mkF m 285 #[iv p0, iv p1, iv p2, iv p3, iv p4, iv ii, iv (3 : Int32), rv b7, rv b30, iv (own_i (own_wf s2 d2)), iv (own_i ((own_al c0 (0 : Int32)) && own_al c1 (1 : Int32))), iv (((0 : Int32) + (own_i (own_D c0))) + (own_i (own_D c1))), iv ((0 : Int32) + (own_i (own_P c0))), .unset] [(.int (1 : Int32)), (.int ((0 : Int32) + (own_i (own_P c0))))])) _
        refine XS.goto X197.here hx rfl (pc0 := 285) (pc' := 289) rfl (hb hby at_285) (by decide) (by decide) ?_
        have hv : (own_i (own_P c1)) = (1 : Int32) := by (try simp only [lw_gt, lw_lt, lw_eq, own_i_eq0, Bool.not_eq_false] at hm1); simp [own_i, own_P, hm1]
        rw [hv] at k
        exact k
      · skip
        show Steps p.tables e below (T197.setTop (mkF m 281 #[iv p0, iv p1, iv p2, iv p3, iv p4, iv ii, iv (3 : Int32), rv b7, rv b30, iv (own_i (own_wf s2 d2)), iv (own_i ((own_al c0 (0 : Int32)) && own_al c1 (1 : Int32))), iv (((0 : Int32) + (own_i (own_D c0))) + (own_i (own_D c1))), iv ((0 : Int32) + (own_i (own_P c0))), .unset] [(.int (46 : Int32)), (.int c1), (.int ((0 : Int32) + (own_i (own_P c0))))])) _
        refine XS.icmpYes X197.here hx rfl (pc0 := 281) (pc' := 288) rfl (hb hby at_281) rfl (feq hm1).2 (by decide) (by decide) ?_
        refine XS.iconst X197.here hx rfl (hb hby at_288) ?_
        have hv : (own_i (own_P c1)) = (0 : Int32) := by (try simp only [lw_gt, lw_lt, lw_eq, own_i_eq0, Bool.not_eq_false] at hm1); simp [own_i, own_P, hm1]
        rw [hv] at k
        exact k
    have R205 : ∀ t, Steps p.tables e below (T197.setTop (mkF m 300 #[iv p0, iv p1, iv p2, iv p3, iv p4, iv ii, iv (3 : Int32), rv b7, rv b30, iv (own_i (own_wf s2 d2)), iv (own_i ((own_al c0 (0 : Int32)) && own_al c1 (1 : Int32))), iv (((0 : Int32) + (own_i (own_D c0))) + (own_i (own_D c1))), iv (((0 : Int32) + (own_i (own_P c0))) + (own_i (own_P c1))), .unset] [(.int (own_i ((own_al c0 (0 : Int32)) && own_al c1 (1 : Int32))))])) t → Steps p.tables e below (s₁.setTop f0) t := fun t k => R204 t (by
      show Steps p.tables e below (T197.setTop (mkF m 289 #[iv p0, iv p1, iv p2, iv p3, iv p4, iv ii, iv (3 : Int32), rv b7, rv b30, iv (own_i (own_wf s2 d2)), iv (own_i ((own_al c0 (0 : Int32)) && own_al c1 (1 : Int32))), iv (((0 : Int32) + (own_i (own_D c0))) + (own_i (own_D c1))), iv ((0 : Int32) + (own_i (own_P c0))), .unset] [(.int (own_i (own_P c1))), (.int ((0 : Int32) + (own_i (own_P c0))))])) _
      refine XS.iadd X197.here hx rfl (hb hby at_289) rfl ?_
      refine XS.istore X197.here hx rfl (hb hby at_290) rfl (l' := #[iv p0, iv p1, iv p2, iv p3, iv p4, iv ii, iv (3 : Int32), rv b7, rv b30, iv (own_i (own_wf s2 d2)), iv (own_i ((own_al c0 (0 : Int32)) && own_al c1 (1 : Int32))), iv (((0 : Int32) + (own_i (own_D c0))) + (own_i (own_D c1))), iv (((0 : Int32) + (own_i (own_P c0))) + (own_i (own_P c1))), .unset]) rfl ?_
      show Steps p.tables e below (T197.setTop (mkF m 292 #[iv p0, iv p1, iv p2, iv p3, iv p4, iv ii, iv (3 : Int32), rv b7, rv b30, iv (own_i (own_wf s2 d2)), iv (own_i ((own_al c0 (0 : Int32)) && own_al c1 (1 : Int32))), iv (((0 : Int32) + (own_i (own_D c0))) + (own_i (own_D c1))), iv (((0 : Int32) + (own_i (own_P c0))) + (own_i (own_P c1))), .unset] [])) _
      refine XS.iload X197.here hx rfl (hb hby at_292) rfl  ?_
      refine XS.iconst X197.here hx rfl (hb hby at_294) ?_
      show Steps p.tables e below (T197.setTop (mkF m 295 #[iv p0, iv p1, iv p2, iv p3, iv p4, iv ii, iv (3 : Int32), rv b7, rv b30, iv (own_i (own_wf s2 d2)), iv (own_i ((own_al c0 (0 : Int32)) && own_al c1 (1 : Int32))), iv (((0 : Int32) + (own_i (own_D c0))) + (own_i (own_D c1))), iv (((0 : Int32) + (own_i (own_P c0))) + (own_i (own_P c1))), .unset] [(.int (2 : Int32)), (.int (3 : Int32))])) _
      refine XS.icmpNo X197.here hx rfl (hb hby at_295) rfl (tlt (by decide : (2 : Int32) < (3 : Int32))).2.2.2 ?_
      refine XS.iload X197.here hx rfl (hb hby at_298) rfl  ?_
      exact k)
    obtain ⟨T215, L215, X215, N215, e215, R215⟩ : ∃ (T' : State) (L' : List Loc), Stand p l e room_1 s m #[(.int p0), (.int p1), (.int p2), (.int p3), (.int p4)] below meth c T' L' 2 12 ∧ Fr n0 L' ∧ T'.heap = T160.heap ∧ ∀ t, Steps p.tables e below (T'.setTop (mkF m 319 #[iv p0, iv p1, iv p2, iv p3, iv p4, iv ii, iv (3 : Int32), rv b7, rv b30, iv (own_i (own_wf s2 d2)), iv (own_i ((own_al c0 (0 : Int32)) && own_al c1 (1 : Int32))), iv (((0 : Int32) + (own_i (own_D c0))) + (own_i (own_D c1))), iv (((0 : Int32) + (own_i (own_P c0))) + (own_i (own_P c1))), .unset] [(.int (own_i (((own_al c0 (0 : Int32)) && own_al c1 (1 : Int32)) && own_al c2 (2 : Int32))))])) t → Steps p.tables e below (s₁.setTop f0) t := by
      by_cases hg6 : (own_i ((own_al c0 (0 : Int32)) && own_al c1 (1 : Int32))) = (0 : Int32)
      · skip
        have R206 : ∀ t, Steps p.tables e below (T197.setTop (mkF m 319 #[iv p0, iv p1, iv p2, iv p3, iv p4, iv ii, iv (3 : Int32), rv b7, rv b30, iv (own_i (own_wf s2 d2)), iv (own_i ((own_al c0 (0 : Int32)) && own_al c1 (1 : Int32))), iv (((0 : Int32) + (own_i (own_D c0))) + (own_i (own_D c1))), iv (((0 : Int32) + (own_i (own_P c0))) + (own_i (own_P c1))), .unset] [(.int (0 : Int32))])) t → Steps p.tables e below (s₁.setTop f0) t := fun t k => R205 t (by
          show Steps p.tables e below (T197.setTop (mkF m 300 #[iv p0, iv p1, iv p2, iv p3, iv p4, iv ii, iv (3 : Int32), rv b7, rv b30, iv (own_i (own_wf s2 d2)), iv (own_i ((own_al c0 (0 : Int32)) && own_al c1 (1 : Int32))), iv (((0 : Int32) + (own_i (own_D c0))) + (own_i (own_D c1))), iv (((0 : Int32) + (own_i (own_P c0))) + (own_i (own_P c1))), .unset] [(.int (own_i ((own_al c0 (0 : Int32)) && own_al c1 (1 : Int32))))])) _
          refine XS.ifYes X197.here hx rfl (pc0 := 300) (pc' := 318) rfl (hb hby at_300) rfl ((if0 _ _).trans (teq hg6).1) (by decide) (by decide) ?_
          refine XS.iconst X197.here hx rfl (hb hby at_318) ?_
          exact k)
        have hv0 : (own_i (((own_al c0 (0 : Int32)) && own_al c1 (1 : Int32)) && own_al c2 (2 : Int32))) = (0 : Int32) := by (try simp only [lw_gt, lw_lt, lw_eq, own_i_eq0, Bool.not_eq_false] at hg6); simp [own_i, hg6]
        rw [hv0]
        exact ⟨T197, _, X197, N197, p197_0, R206⟩
      · skip
        have R207 : ∀ t, Steps p.tables e below (T197.setTop (mkF m 306 #[iv p0, iv p1, iv p2, iv p3, iv p4, iv ii, iv (3 : Int32), rv b7, rv b30, iv (own_i (own_wf s2 d2)), iv (own_i ((own_al c0 (0 : Int32)) && own_al c1 (1 : Int32))), iv (((0 : Int32) + (own_i (own_D c0))) + (own_i (own_D c1))), iv (((0 : Int32) + (own_i (own_P c0))) + (own_i (own_P c1))), .unset] [(.int (2 : Int32)), (.ref b7)])) t → Steps p.tables e below (s₁.setTop f0) t := fun t k => R205 t (by
          show Steps p.tables e below (T197.setTop (mkF m 300 #[iv p0, iv p1, iv p2, iv p3, iv p4, iv ii, iv (3 : Int32), rv b7, rv b30, iv (own_i (own_wf s2 d2)), iv (own_i ((own_al c0 (0 : Int32)) && own_al c1 (1 : Int32))), iv (((0 : Int32) + (own_i (own_D c0))) + (own_i (own_D c1))), iv (((0 : Int32) + (own_i (own_P c0))) + (own_i (own_P c1))), .unset] [(.int (own_i ((own_al c0 (0 : Int32)) && own_al c1 (1 : Int32))))])) _
          refine XS.ifNo X197.here hx rfl (hb hby at_300) rfl ((if0 _ _).trans (feq hg6).1) ?_
          refine XS.aload X197.here hx rfl (hb hby at_303) rfl rfl ?_
          show Steps p.tables e below (T197.setTop (mkF m 305 #[iv p0, iv p1, iv p2, iv p3, iv p4, iv ii, iv (3 : Int32), rv b7, rv b30, iv (own_i (own_wf s2 d2)), iv (own_i ((own_al c0 (0 : Int32)) && own_al c1 (1 : Int32))), iv (((0 : Int32) + (own_i (own_D c0))) + (own_i (own_D c1))), iv (((0 : Int32) + (own_i (own_P c0))) + (own_i (own_P c1))), .unset] [(.ref b7)])) _
          refine XS.iconst X197.here hx rfl (hb hby at_305) ?_
          exact k)
        obtain ⟨cl208, Ar208, q208, S208, n208_, H208, G208⟩ := id f160_A_b7
        have hin208 : ¬ ((2 : Int32) < 0 ∨ cl208.slots.size ≤ ((2 : Int32)).toNatClampNeg) := inb_of S208 ⟨by decide, by decide⟩
        have hat208 : cl208.slots[((2 : Int32)).toNatClampNeg]? = some (.int c2) := Has.at H208 hin208 rfl
        have R209 : ∀ t, Steps p.tables e below (T197.setTop (mkF m 307 #[iv p0, iv p1, iv p2, iv p3, iv p4, iv ii, iv (3 : Int32), rv b7, rv b30, iv (own_i (own_wf s2 d2)), iv (own_i ((own_al c0 (0 : Int32)) && own_al c1 (1 : Int32))), iv (((0 : Int32) + (own_i (own_D c0))) + (own_i (own_D c1))), iv (((0 : Int32) + (own_i (own_P c0))) + (own_i (own_P c1))), .unset] [(.int c2)])) t → Steps p.tables e below (s₁.setTop f0) t := fun t k => R207 t (X197.caload hx (j := (2 : Int32)) (v := (.int c2)) (by rw [p197_0]; exact Ar208.1) (State.isArrayOf_alike hZ.alike Ar208.2.1) Ar208.2.2 hin208 hat208 (g := (mkF m 306 #[iv p0, iv p1, iv p2, iv p3, iv p4, iv ii, iv (3 : Int32), rv b7, rv b30, iv (own_i (own_wf s2 d2)), iv (own_i ((own_al c0 (0 : Int32)) && own_al c1 (1 : Int32))), iv (((0 : Int32) + (own_i (own_D c0))) + (own_i (own_D c1))), iv (((0 : Int32) + (own_i (own_P c0))) + (own_i (own_P c1))), .unset] [(.int (2 : Int32)), (.ref b7)])) rfl rfl (hb hby at_306) _ k)
        have R210 : ∀ t, Steps p.tables e below (T197.setTop (mkF m 308 #[iv p0, iv p1, iv p2, iv p3, iv p4, iv ii, iv (3 : Int32), rv b7, rv b30, iv (own_i (own_wf s2 d2)), iv (own_i ((own_al c0 (0 : Int32)) && own_al c1 (1 : Int32))), iv (((0 : Int32) + (own_i (own_D c0))) + (own_i (own_D c1))), iv (((0 : Int32) + (own_i (own_P c0))) + (own_i (own_P c1))), .unset] [(.int (2 : Int32)), (.int c2)])) t → Steps p.tables e below (s₁.setTop f0) t := fun t k => R209 t (by
          show Steps p.tables e below (T197.setTop (mkF m 307 #[iv p0, iv p1, iv p2, iv p3, iv p4, iv ii, iv (3 : Int32), rv b7, rv b30, iv (own_i (own_wf s2 d2)), iv (own_i ((own_al c0 (0 : Int32)) && own_al c1 (1 : Int32))), iv (((0 : Int32) + (own_i (own_D c0))) + (own_i (own_D c1))), iv (((0 : Int32) + (own_i (own_P c0))) + (own_i (own_P c1))), .unset] [(.int c2)])) _
          refine XS.iconst X197.here hx rfl (hb hby at_307) ?_
          exact k)
        obtain ⟨_, _, ⟨T211, L211, k211, n211⟩, -, X211, ⟨Lc211, hQ211, l211, y211, z211⟩, st211⟩ := Jvm.LawKit.callS X197 hx (y := (⟨sN5, "allowed", "(CI)Z"⟩ : MethodName)) hown (mvT hZ (hw _ (List.mem_of_getElem? (i := 73) rfl))) (mvT hZ (hw _ (List.mem_of_getElem? (i := 74) rfl))) (mvT hZ (hw _ (List.mem_of_getElem? (i := 3) rfl))) (mvT hZ (hw _ (List.mem_of_getElem? (i := 75) rfl))) (by decide) (backOf (W := 0) (rmAll l Z a0 hw [] c2 (2 : Int32) T160.heap n0 z160) hZ (hw _ (List.mem_of_getElem? (i := 75) rfl)) (hw _ (List.mem_of_getElem? (i := 3) rfl)) (by decide) (by decide)) (g := (mkF m 308 #[iv p0, iv p1, iv p2, iv p3, iv p4, iv ii, iv (3 : Int32), rv b7, rv b30, iv (own_i (own_wf s2 d2)), iv (own_i ((own_al c0 (0 : Int32)) && own_al c1 (1 : Int32))), iv (((0 : Int32) + (own_i (own_D c0))) + (own_i (own_D c1))), iv (((0 : Int32) + (own_i (own_P c0))) + (own_i (own_P c1))), .unset] [(.int (2 : Int32)), (.int c2)])) rfl (by rw [hml]; rfl) (argsL := [(.int c2), (.int (2 : Int32))]) (rest := []) (lenOf pd_11 rfl) rfl (by show 2 * 0 + _ ≤ _; exact Nat.le_of_eq rfl) (hb hby at_308) (fun _ _ => ⟨rfl, p197_0, (by decide : 2 + 0 ≤ _), (by decide : 12 + 0 ≤ _)⟩)
        dsimp only [Pt.U, Pt.locs, Pt.cells, Pt.slots] at X211 l211 y211 z211 st211 hQ211
        subst l211 y211 z211
        obtain ⟨rfl, N211q, p211_0⟩ := hQ211
        have N211 := Fr.app N197 N211q
        have R212 : ∀ t, Steps p.tables e below (T211.setTop (mkF m 311 #[iv p0, iv p1, iv p2, iv p3, iv p4, iv ii, iv (3 : Int32), rv b7, rv b30, iv (own_i (own_wf s2 d2)), iv (own_i ((own_al c0 (0 : Int32)) && own_al c1 (1 : Int32))), iv (((0 : Int32) + (own_i (own_D c0))) + (own_i (own_D c1))), iv (((0 : Int32) + (own_i (own_P c0))) + (own_i (own_P c1))), .unset] [(.int (own_i (own_al c2 (2 : Int32))))])) t → Steps p.tables e below (s₁.setTop f0) t := fun t k => R210 t (st211 t k)
        by_cases hg7 : (own_i (own_al c2 (2 : Int32))) = (0 : Int32)
        · skip
          have R213 : ∀ t, Steps p.tables e below (T211.setTop (mkF m 319 #[iv p0, iv p1, iv p2, iv p3, iv p4, iv ii, iv (3 : Int32), rv b7, rv b30, iv (own_i (own_wf s2 d2)), iv (own_i ((own_al c0 (0 : Int32)) && own_al c1 (1 : Int32))), iv (((0 : Int32) + (own_i (own_D c0))) + (own_i (own_D c1))), iv (((0 : Int32) + (own_i (own_P c0))) + (own_i (own_P c1))), .unset] [(.int (0 : Int32))])) t → Steps p.tables e below (s₁.setTop f0) t := fun t k => R212 t (by
            show Steps p.tables e below (T211.setTop (mkF m 311 #[iv p0, iv p1, iv p2, iv p3, iv p4, iv ii, iv (3 : Int32), rv b7, rv b30, iv (own_i (own_wf s2 d2)), iv (own_i ((own_al c0 (0 : Int32)) && own_al c1 (1 : Int32))), iv (((0 : Int32) + (own_i (own_D c0))) + (own_i (own_D c1))), iv (((0 : Int32) + (own_i (own_P c0))) + (own_i (own_P c1))), .unset] [(.int (own_i (own_al c2 (2 : Int32))))])) _
            refine XS.ifYes X211.here hx rfl (pc0 := 311) (pc' := 318) rfl (hb hby at_311) rfl ((if0 _ _).trans (teq hg7).1) (by decide) (by decide) ?_
            refine XS.iconst X211.here hx rfl (hb hby at_318) ?_
            exact k)
          have hv0 : (own_i (((own_al c0 (0 : Int32)) && own_al c1 (1 : Int32)) && own_al c2 (2 : Int32))) = (0 : Int32) := by (try simp only [lw_gt, lw_lt, lw_eq, own_i_eq0, Bool.not_eq_false] at hg6); (try simp only [lw_gt, lw_lt, lw_eq, own_i_eq0, Bool.not_eq_false] at hg7); simp [own_i, hg6, hg7]
          rw [hv0]
          exact ⟨T211, _, X211, N211, p211_0, R213⟩
        · skip
          have R214 : ∀ t, Steps p.tables e below (T211.setTop (mkF m 319 #[iv p0, iv p1, iv p2, iv p3, iv p4, iv ii, iv (3 : Int32), rv b7, rv b30, iv (own_i (own_wf s2 d2)), iv (own_i ((own_al c0 (0 : Int32)) && own_al c1 (1 : Int32))), iv (((0 : Int32) + (own_i (own_D c0))) + (own_i (own_D c1))), iv (((0 : Int32) + (own_i (own_P c0))) + (own_i (own_P c1))), .unset] [(.int (1 : Int32))])) t → Steps p.tables e below (s₁.setTop f0) t := fun t k => R212 t (by
            show Steps p.tables e below (T211.setTop (mkF m 311 #[iv p0, iv p1, iv p2, iv p3, iv p4, iv ii, iv (3 : Int32), rv b7, rv b30, iv (own_i (own_wf s2 d2)), iv (own_i ((own_al c0 (0 : Int32)) && own_al c1 (1 : Int32))), iv (((0 : Int32) + (own_i (own_D c0))) + (own_i (own_D c1))), iv (((0 : Int32) + (own_i (own_P c0))) + (own_i (own_P c1))), .unset] [(.int (own_i (own_al c2 (2 : Int32))))])) _
            refine XS.ifNo X211.here hx rfl (hb hby at_311) rfl ((if0 _ _).trans (feq hg7).1) ?_
            refine XS.iconst X211.here hx rfl (hb hby at_314) ?_
            show Steps p.tables e below (T211.setTop (mkF m 315 #[iv p0, iv p1, iv p2, iv p3, iv p4, iv ii, iv (3 : Int32), rv b7, rv b30, iv (own_i (own_wf s2 d2)), iv (own_i ((own_al c0 (0 : Int32)) && own_al c1 (1 : Int32))), iv (((0 : Int32) + (own_i (own_D c0))) + (own_i (own_D c1))), iv (((0 : Int32) + (own_i (own_P c0))) + (own_i (own_P c1))), .unset] [(.int (1 : Int32))])) _
            refine XS.goto X211.here hx rfl (pc0 := 315) (pc' := 319) rfl (hb hby at_315) (by decide) (by decide) ?_
            exact k)
          have hv0 : (own_i (((own_al c0 (0 : Int32)) && own_al c1 (1 : Int32)) && own_al c2 (2 : Int32))) = (1 : Int32) := by (try simp only [lw_gt, lw_lt, lw_eq, own_i_eq0, Bool.not_eq_false] at hg6); (try simp only [lw_gt, lw_lt, lw_eq, own_i_eq0, Bool.not_eq_false] at hg7); simp [own_i, hg6, hg7]
          rw [hv0]
          exact ⟨T211, _, X211, N211, p211_0, R214⟩
    have R216 : ∀ t, Steps p.tables e below (T215.setTop (mkF m 326 #[iv p0, iv p1, iv p2, iv p3, iv p4, iv ii, iv (3 : Int32), rv b7, rv b30, iv (own_i (own_wf s2 d2)), iv (own_i (((own_al c0 (0 : Int32)) && own_al c1 (1 : Int32)) && own_al c2 (2 : Int32))), iv (((0 : Int32) + (own_i (own_D c0))) + (own_i (own_D c1))), iv (((0 : Int32) + (own_i (own_P c0))) + (own_i (own_P c1))), .unset] [(.int (2 : Int32)), (.ref b7), (.int (((0 : Int32) + (own_i (own_D c0))) + (own_i (own_D c1))))])) t → Steps p.tables e below (s₁.setTop f0) t := fun t k => R215 t (by
      show Steps p.tables e below (T215.setTop (mkF m 319 #[iv p0, iv p1, iv p2, iv p3, iv p4, iv ii, iv (3 : Int32), rv b7, rv b30, iv (own_i (own_wf s2 d2)), iv (own_i ((own_al c0 (0 : Int32)) && own_al c1 (1 : Int32))), iv (((0 : Int32) + (own_i (own_D c0))) + (own_i (own_D c1))), iv (((0 : Int32) + (own_i (own_P c0))) + (own_i (own_P c1))), .unset] [(.int (own_i (((own_al c0 (0 : Int32)) && own_al c1 (1 : Int32)) && own_al c2 (2 : Int32))))])) _
      refine XS.istore X215.here hx rfl (hb hby at_319) rfl (l' := #[iv p0, iv p1, iv p2, iv p3, iv p4, iv ii, iv (3 : Int32), rv b7, rv b30, iv (own_i (own_wf s2 d2)), iv (own_i (((own_al c0 (0 : Int32)) && own_al c1 (1 : Int32)) && own_al c2 (2 : Int32))), iv (((0 : Int32) + (own_i (own_D c0))) + (own_i (own_D c1))), iv (((0 : Int32) + (own_i (own_P c0))) + (own_i (own_P c1))), .unset]) rfl ?_
      refine XS.iload X215.here hx rfl (hb hby at_321) rfl  ?_
      show Steps p.tables e below (T215.setTop (mkF m 323 #[iv p0, iv p1, iv p2, iv p3, iv p4, iv ii, iv (3 : Int32), rv b7, rv b30, iv (own_i (own_wf s2 d2)), iv (own_i (((own_al c0 (0 : Int32)) && own_al c1 (1 : Int32)) && own_al c2 (2 : Int32))), iv (((0 : Int32) + (own_i (own_D c0))) + (own_i (own_D c1))), iv (((0 : Int32) + (own_i (own_P c0))) + (own_i (own_P c1))), .unset] [(.int (((0 : Int32) + (own_i (own_D c0))) + (own_i (own_D c1))))])) _
      refine XS.aload X215.here hx rfl (hb hby at_323) rfl rfl ?_
      refine XS.iconst X215.here hx rfl (hb hby at_325) ?_
      exact k)
    obtain ⟨cl217, Ar217, q217, S217, n217_, H217, G217⟩ := id f160_A_b7
    have hin217 : ¬ ((2 : Int32) < 0 ∨ cl217.slots.size ≤ ((2 : Int32)).toNatClampNeg) := inb_of S217 ⟨by decide, by decide⟩
    have hat217 : cl217.slots[((2 : Int32)).toNatClampNeg]? = some (.int c2) := Has.at H217 hin217 rfl
    have R218 : ∀ t, Steps p.tables e below (T215.setTop (mkF m 327 #[iv p0, iv p1, iv p2, iv p3, iv p4, iv ii, iv (3 : Int32), rv b7, rv b30, iv (own_i (own_wf s2 d2)), iv (own_i (((own_al c0 (0 : Int32)) && own_al c1 (1 : Int32)) && own_al c2 (2 : Int32))), iv (((0 : Int32) + (own_i (own_D c0))) + (own_i (own_D c1))), iv (((0 : Int32) + (own_i (own_P c0))) + (own_i (own_P c1))), .unset] [(.int c2), (.int (((0 : Int32) + (own_i (own_D c0))) + (own_i (own_D c1))))])) t → Steps p.tables e below (s₁.setTop f0) t := fun t k => R216 t (X215.caload hx (j := (2 : Int32)) (v := (.int c2)) (by rw [e215]; exact Ar217.1) (State.isArrayOf_alike hZ.alike Ar217.2.1) Ar217.2.2 hin217 hat217 (g := (mkF m 326 #[iv p0, iv p1, iv p2, iv p3, iv p4, iv ii, iv (3 : Int32), rv b7, rv b30, iv (own_i (own_wf s2 d2)), iv (own_i (((own_al c0 (0 : Int32)) && own_al c1 (1 : Int32)) && own_al c2 (2 : Int32))), iv (((0 : Int32) + (own_i (own_D c0))) + (own_i (own_D c1))), iv (((0 : Int32) + (own_i (own_P c0))) + (own_i (own_P c1))), .unset] [(.int (2 : Int32)), (.ref b7), (.int (((0 : Int32) + (own_i (own_D c0))) + (own_i (own_D c1))))])) rfl rfl (hb hby at_326) _ k)
    obtain ⟨_, _, ⟨T219, L219, k219, n219⟩, -, X219, ⟨Lc219, hQ219, l219, y219, z219⟩, st219⟩ := Jvm.LawKit.callS X215 hx (y := (⟨sN5, "isDigit", "(C)Z"⟩ : MethodName)) hown (mvT hZ (hw _ (List.mem_of_getElem? (i := 76) rfl))) (mvT hZ (hw _ (List.mem_of_getElem? (i := 77) rfl))) (mvT hZ (hw _ (List.mem_of_getElem? (i := 3) rfl))) (mvT hZ (hw _ (List.mem_of_getElem? (i := 78) rfl))) (by decide) (backOf (W := 1) (rmIsd l Z a0 hw [] c2 T160.heap n0 z160) hZ (hw _ (List.mem_of_getElem? (i := 78) rfl)) (hw _ (List.mem_of_getElem? (i := 3) rfl)) (by decide) (by decide)) (g := (mkF m 327 #[iv p0, iv p1, iv p2, iv p3, iv p4, iv ii, iv (3 : Int32), rv b7, rv b30, iv (own_i (own_wf s2 d2)), iv (own_i (((own_al c0 (0 : Int32)) && own_al c1 (1 : Int32)) && own_al c2 (2 : Int32))), iv (((0 : Int32) + (own_i (own_D c0))) + (own_i (own_D c1))), iv (((0 : Int32) + (own_i (own_P c0))) + (own_i (own_P c1))), .unset] [(.int c2), (.int (((0 : Int32) + (own_i (own_D c0))) + (own_i (own_D c1))))])) rfl (by rw [hml]; rfl) (argsL := [(.int c2)]) (rest := [(.int (((0 : Int32) + (own_i (own_D c0))) + (own_i (own_D c1))))]) (lenOf pd_5 rfl) rfl (by show 2 * 0 + _ ≤ _; exact Nat.le_of_eq rfl) (hb hby at_327) (fun _ _ => ⟨rfl, e215, (by decide : 2 + 0 ≤ _), (by decide : 12 + 0 ≤ _)⟩)
    dsimp only [Pt.U, Pt.locs, Pt.cells, Pt.slots] at X219 l219 y219 z219 st219 hQ219
    subst l219 y219 z219
    obtain ⟨rfl, N219q, p219_0⟩ := hQ219
    have N219 := Fr.app N215 N219q
    have R220 : ∀ t, Steps p.tables e below (T219.setTop (mkF m 330 #[iv p0, iv p1, iv p2, iv p3, iv p4, iv ii, iv (3 : Int32), rv b7, rv b30, iv (own_i (own_wf s2 d2)), iv (own_i (((own_al c0 (0 : Int32)) && own_al c1 (1 : Int32)) && own_al c2 (2 : Int32))), iv (((0 : Int32) + (own_i (own_D c0))) + (own_i (own_D c1))), iv (((0 : Int32) + (own_i (own_P c0))) + (own_i (own_P c1))), .unset] [(.int (own_i (own_D c2))), (.int (((0 : Int32) + (own_i (own_D c0))) + (own_i (own_D c1))))])) t → Steps p.tables e below (s₁.setTop f0) t := fun t k => R218 t (st219 t k)
    have R221 : ∀ t, Steps p.tables e below (T219.setTop (mkF m 338 #[iv p0, iv p1, iv p2, iv p3, iv p4, iv ii, iv (3 : Int32), rv b7, rv b30, iv (own_i (own_wf s2 d2)), iv (own_i (((own_al c0 (0 : Int32)) && own_al c1 (1 : Int32)) && own_al c2 (2 : Int32))), iv (((0 : Int32) + (own_i (own_D c0))) + (own_i (own_D c1))), iv (((0 : Int32) + (own_i (own_P c0))) + (own_i (own_P c1))), .unset] [(.int (own_i (own_D c2))), (.int (((0 : Int32) + (own_i (own_D c0))) + (own_i (own_D c1))))])) t → Steps p.tables e below (s₁.setTop f0) t := by
      intro t k
      refine R220 t ?_
      by_cases hm1 : (own_i (own_D c2)) = (0 : Int32)
      · skip
        show Steps p.tables e below (T219.setTop (mkF m 330 #[iv p0, iv p1, iv p2, iv p3, iv p4, iv ii, iv (3 : Int32), rv b7, rv b30, iv (own_i (own_wf s2 d2)), iv (own_i (((own_al c0 (0 : Int32)) && own_al c1 (1 : Int32)) && own_al c2 (2 : Int32))), iv (((0 : Int32) + (own_i (own_D c0))) + (own_i (own_D c1))), iv (((0 : Int32) + (own_i (own_P c0))) + (own_i (own_P c1))), .unset] [(.int (own_i (own_D c2))), (.int (((0 : Int32) + (own_i (own_D c0))) + (own_i (own_D c1))))])) _
        refine XS.ifYes X219.here hx rfl (pc0 := 330) (pc' := 337) rfl (hb hby at_330) rfl ((if0 _ _).trans (teq hm1).1) (by decide) (by decide) ?_
        refine XS.iconst X219.here hx rfl (hb hby at_337) ?_
        have hv : (own_i (own_D c2)) = (0 : Int32) := by (try simp only [lw_gt, lw_lt, lw_eq, own_i_eq0, Bool.not_eq_false] at hm1); simp [own_i, hm1]
        rw [hv] at k
        exact k
      · skip
        show Steps p.tables e below (T219.setTop (mkF m 330 #[iv p0, iv p1, iv p2, iv p3, iv p4, iv ii, iv (3 : Int32), rv b7, rv b30, iv (own_i (own_wf s2 d2)), iv (own_i (((own_al c0 (0 : Int32)) && own_al c1 (1 : Int32)) && own_al c2 (2 : Int32))), iv (((0 : Int32) + (own_i (own_D c0))) + (own_i (own_D c1))), iv (((0 : Int32) + (own_i (own_P c0))) + (own_i (own_P c1))), .unset] [(.int (own_i (own_D c2))), (.int (((0 : Int32) + (own_i (own_D c0))) + (own_i (own_D c1))))])) _
        refine XS.ifNo X219.here hx rfl (hb hby at_330) rfl ((if0 _ _).trans (feq hm1).1) ?_
        refine XS.iconst X219.here hx rfl (hb hby at_333) ?_
        show Steps p.tables e below (T219.setTop (mkF m 334 #[iv p0, iv p1, iv p2, iv p3, iv p4, iv ii, iv (3 : Int32), rv b7, rv b30, iv (own_i (own_wf s2 d2)), iv (own_i (((own_al c0 (0 : Int32)) && own_al c1 (1 : Int32)) && own_al c2 (2 : Int32))), iv (((0 : Int32) + (own_i (own_D c0))) + (own_i (own_D c1))), iv (((0 : Int32) + (own_i (own_P c0))) + (own_i (own_P c1))), .unset] [(.int (1 : Int32)), (.int (((0 : Int32) + (own_i (own_D c0))) + (own_i (own_D c1))))])) _
        refine XS.goto X219.here hx rfl (pc0 := 334) (pc' := 338) rfl (hb hby at_334) (by decide) (by decide) ?_
        have hv : (own_i (own_D c2)) = (1 : Int32) := by (try simp only [lw_gt, lw_lt, lw_eq, own_i_eq0, Bool.not_eq_false] at hm1); simp [own_i, hm1]
        rw [hv] at k
        exact k
    have R222 : ∀ t, Steps p.tables e below (T219.setTop (mkF m 346 #[iv p0, iv p1, iv p2, iv p3, iv p4, iv ii, iv (3 : Int32), rv b7, rv b30, iv (own_i (own_wf s2 d2)), iv (own_i (((own_al c0 (0 : Int32)) && own_al c1 (1 : Int32)) && own_al c2 (2 : Int32))), iv ((((0 : Int32) + (own_i (own_D c0))) + (own_i (own_D c1))) + (own_i (own_D c2))), iv (((0 : Int32) + (own_i (own_P c0))) + (own_i (own_P c1))), .unset] [(.int (2 : Int32)), (.ref b7), (.int (((0 : Int32) + (own_i (own_P c0))) + (own_i (own_P c1))))])) t → Steps p.tables e below (s₁.setTop f0) t := fun t k => R221 t (by
      show Steps p.tables e below (T219.setTop (mkF m 338 #[iv p0, iv p1, iv p2, iv p3, iv p4, iv ii, iv (3 : Int32), rv b7, rv b30, iv (own_i (own_wf s2 d2)), iv (own_i (((own_al c0 (0 : Int32)) && own_al c1 (1 : Int32)) && own_al c2 (2 : Int32))), iv (((0 : Int32) + (own_i (own_D c0))) + (own_i (own_D c1))), iv (((0 : Int32) + (own_i (own_P c0))) + (own_i (own_P c1))), .unset] [(.int (own_i (own_D c2))), (.int (((0 : Int32) + (own_i (own_D c0))) + (own_i (own_D c1))))])) _
      refine XS.iadd X219.here hx rfl (hb hby at_338) rfl ?_
      refine XS.istore X219.here hx rfl (hb hby at_339) rfl (l' := #[iv p0, iv p1, iv p2, iv p3, iv p4, iv ii, iv (3 : Int32), rv b7, rv b30, iv (own_i (own_wf s2 d2)), iv (own_i (((own_al c0 (0 : Int32)) && own_al c1 (1 : Int32)) && own_al c2 (2 : Int32))), iv ((((0 : Int32) + (own_i (own_D c0))) + (own_i (own_D c1))) + (own_i (own_D c2))), iv (((0 : Int32) + (own_i (own_P c0))) + (own_i (own_P c1))), .unset]) rfl ?_
      show Steps p.tables e below (T219.setTop (mkF m 341 #[iv p0, iv p1, iv p2, iv p3, iv p4, iv ii, iv (3 : Int32), rv b7, rv b30, iv (own_i (own_wf s2 d2)), iv (own_i (((own_al c0 (0 : Int32)) && own_al c1 (1 : Int32)) && own_al c2 (2 : Int32))), iv ((((0 : Int32) + (own_i (own_D c0))) + (own_i (own_D c1))) + (own_i (own_D c2))), iv (((0 : Int32) + (own_i (own_P c0))) + (own_i (own_P c1))), .unset] [])) _
      refine XS.iload X219.here hx rfl (hb hby at_341) rfl  ?_
      refine XS.aload X219.here hx rfl (hb hby at_343) rfl rfl ?_
      show Steps p.tables e below (T219.setTop (mkF m 345 #[iv p0, iv p1, iv p2, iv p3, iv p4, iv ii, iv (3 : Int32), rv b7, rv b30, iv (own_i (own_wf s2 d2)), iv (own_i (((own_al c0 (0 : Int32)) && own_al c1 (1 : Int32)) && own_al c2 (2 : Int32))), iv ((((0 : Int32) + (own_i (own_D c0))) + (own_i (own_D c1))) + (own_i (own_D c2))), iv (((0 : Int32) + (own_i (own_P c0))) + (own_i (own_P c1))), .unset] [(.ref b7), (.int (((0 : Int32) + (own_i (own_P c0))) + (own_i (own_P c1))))])) _
      refine XS.iconst X219.here hx rfl (hb hby at_345) ?_
      exact k)
    obtain ⟨cl223, Ar223, q223, S223, n223_, H223, G223⟩ := id f160_A_b7
    have hin223 : ¬ ((2 : Int32) < 0 ∨ cl223.slots.size ≤ ((2 : Int32)).toNatClampNeg) := inb_of S223 ⟨by decide, by decide⟩
    have hat223 : cl223.slots[((2 : Int32)).toNatClampNeg]? = some (.int c2) := Has.at H223 hin223 rfl
    have R224 : ∀ t, Steps p.tables e below (T219.setTop (mkF m 347 #[iv p0, iv p1, iv p2, iv p3, iv p4, iv ii, iv (3 : Int32), rv b7, rv b30, iv (own_i (own_wf s2 d2)), iv (own_i (((own_al c0 (0 : Int32)) && own_al c1 (1 : Int32)) && own_al c2 (2 : Int32))), iv ((((0 : Int32) + (own_i (own_D c0))) + (own_i (own_D c1))) + (own_i (own_D c2))), iv (((0 : Int32) + (own_i (own_P c0))) + (own_i (own_P c1))), .unset] [(.int c2), (.int (((0 : Int32) + (own_i (own_P c0))) + (own_i (own_P c1))))])) t → Steps p.tables e below (s₁.setTop f0) t := fun t k => R222 t (X219.caload hx (j := (2 : Int32)) (v := (.int c2)) (by rw [p219_0]; exact Ar223.1) (State.isArrayOf_alike hZ.alike Ar223.2.1) Ar223.2.2 hin223 hat223 (g := (mkF m 346 #[iv p0, iv p1, iv p2, iv p3, iv p4, iv ii, iv (3 : Int32), rv b7, rv b30, iv (own_i (own_wf s2 d2)), iv (own_i (((own_al c0 (0 : Int32)) && own_al c1 (1 : Int32)) && own_al c2 (2 : Int32))), iv ((((0 : Int32) + (own_i (own_D c0))) + (own_i (own_D c1))) + (own_i (own_D c2))), iv (((0 : Int32) + (own_i (own_P c0))) + (own_i (own_P c1))), .unset] [(.int (2 : Int32)), (.ref b7), (.int (((0 : Int32) + (own_i (own_P c0))) + (own_i (own_P c1))))])) rfl rfl (hb hby at_346) _ k)
    have R225 : ∀ t, Steps p.tables e below (T219.setTop (mkF m 349 #[iv p0, iv p1, iv p2, iv p3, iv p4, iv ii, iv (3 : Int32), rv b7, rv b30, iv (own_i (own_wf s2 d2)), iv (own_i (((own_al c0 (0 : Int32)) && own_al c1 (1 : Int32)) && own_al c2 (2 : Int32))), iv ((((0 : Int32) + (own_i (own_D c0))) + (own_i (own_D c1))) + (own_i (own_D c2))), iv (((0 : Int32) + (own_i (own_P c0))) + (own_i (own_P c1))), .unset] [(.int (46 : Int32)), (.int c2), (.int (((0 : Int32) + (own_i (own_P c0))) + (own_i (own_P c1))))])) t → Steps p.tables e below (s₁.setTop f0) t := fun t k => R224 t (by
      show Steps p.tables e below (T219.setTop (mkF m 347 #[iv p0, iv p1, iv p2, iv p3, iv p4, iv ii, iv (3 : Int32), rv b7, rv b30, iv (own_i (own_wf s2 d2)), iv (own_i (((own_al c0 (0 : Int32)) && own_al c1 (1 : Int32)) && own_al c2 (2 : Int32))), iv ((((0 : Int32) + (own_i (own_D c0))) + (own_i (own_D c1))) + (own_i (own_D c2))), iv (((0 : Int32) + (own_i (own_P c0))) + (own_i (own_P c1))), .unset] [(.int c2), (.int (((0 : Int32) + (own_i (own_P c0))) + (own_i (own_P c1))))])) _
      refine XS.bipush X219.here hx rfl (hb hby at_347) ?_
      exact k)
    have R226 : ∀ t, Steps p.tables e below (T219.setTop (mkF m 357 #[iv p0, iv p1, iv p2, iv p3, iv p4, iv ii, iv (3 : Int32), rv b7, rv b30, iv (own_i (own_wf s2 d2)), iv (own_i (((own_al c0 (0 : Int32)) && own_al c1 (1 : Int32)) && own_al c2 (2 : Int32))), iv ((((0 : Int32) + (own_i (own_D c0))) + (own_i (own_D c1))) + (own_i (own_D c2))), iv (((0 : Int32) + (own_i (own_P c0))) + (own_i (own_P c1))), .unset] [(.int (own_i (own_P c2))), (.int (((0 : Int32) + (own_i (own_P c0))) + (own_i (own_P c1))))])) t → Steps p.tables e below (s₁.setTop f0) t := by
      intro t k
      refine R225 t ?_
      by_cases hm1 : c2 = (46 : Int32)
      · skip
        show Steps p.tables e below (T219.setTop (mkF m 349 #[iv p0, iv p1, iv p2, iv p3, iv p4, iv ii, iv (3 : Int32), rv b7, rv b30, iv (own_i (own_wf s2 d2)), iv (own_i (((own_al c0 (0 : Int32)) && own_al c1 (1 : Int32)) && own_al c2 (2 : Int32))), iv ((((0 : Int32) + (own_i (own_D c0))) + (own_i (own_D c1))) + (own_i (own_D c2))), iv (((0 : Int32) + (own_i (own_P c0))) + (own_i (own_P c1))), .unset] [(.int (46 : Int32)), (.int c2), (.int (((0 : Int32) + (own_i (own_P c0))) + (own_i (own_P c1))))])) _
        refine XS.icmpNo X219.here hx rfl (hb hby at_349) rfl (teq hm1).2 ?_
        refine XS.iconst X219.here hx rfl (hb hby at_352) ?_
        show Steps p.tables e below (T219.setTop (mkF m 353 #[iv p0, iv p1, iv p2, iv p3, iv p4, iv ii, iv (3 : Int32), rv b7, rv b30, iv (own_i (own_wf s2 d2)), iv (own_i (((own_al c0 (0 : Int32)) && own_al c1 (1 : Int32)) && own_al c2 (2 : Int32))), iv ((((0 : Int32) + (own_i (own_D c0))) + (own_i (own_D c1))) + (own_i (own_D c2))), iv (((0 : Int32) + (own_i (own_P c0))) + (own_i (own_P c1))), .unset] [(.int (1 : Int32)), (.int (((0 : Int32) + (own_i (own_P c0))) + (own_i (own_P c1))))])) _
        refine XS.goto X219.here hx rfl (pc0 := 353) (pc' := 357) rfl (hb hby at_353) (by decide) (by decide) ?_
        have hv : (own_i (own_P c2)) = (1 : Int32) := by (try simp only [lw_gt, lw_lt, lw_eq, own_i_eq0, Bool.not_eq_false] at hm1); simp [own_i, own_P, hm1]
        rw [hv] at k
        exact k
      · skip
        show Steps p.tables e below (T219.setTop (mkF m 349 #[iv p0, iv p1, iv p2, iv p3, iv p4, iv ii, iv (3 : Int32), rv b7, rv b30, iv (own_i (own_wf s2 d2)), iv (own_i (((own_al c0 (0 : Int32)) && own_al c1 (1 : Int32)) && own_al c2 (2 : Int32))), iv ((((0 : Int32) + (own_i (own_D c0))) + (own_i (own_D c1))) + (own_i (own_D c2))), iv (((0 : Int32) + (own_i (own_P c0))) + (own_i (own_P c1))), .unset] [(.int (46 : Int32)), (.int c2), (.int (((0 : Int32) + (own_i (own_P c0))) + (own_i (own_P c1))))])) _
        refine XS.icmpYes X219.here hx rfl (pc0 := 349) (pc' := 356) rfl (hb hby at_349) rfl (feq hm1).2 (by decide) (by decide) ?_
        refine XS.iconst X219.here hx rfl (hb hby at_356) ?_
        have hv : (own_i (own_P c2)) = (0 : Int32) := by (try simp only [lw_gt, lw_lt, lw_eq, own_i_eq0, Bool.not_eq_false] at hm1); simp [own_i, own_P, hm1]
        rw [hv] at k
        exact k
    have R227 : ∀ t, Steps p.tables e below (T219.setTop (mkF m 428 #[iv p0, iv p1, iv p2, iv p3, iv p4, iv ii, iv (3 : Int32), rv b7, rv b30, iv (own_i (own_wf s2 d2)), iv (own_i (((own_al c0 (0 : Int32)) && own_al c1 (1 : Int32)) && own_al c2 (2 : Int32))), iv ((((0 : Int32) + (own_i (own_D c0))) + (own_i (own_D c1))) + (own_i (own_D c2))), iv ((((0 : Int32) + (own_i (own_P c0))) + (own_i (own_P c1))) + (own_i (own_P c2))), .unset] [])) t → Steps p.tables e below (s₁.setTop f0) t := fun t k => R226 t (by
      show Steps p.tables e below (T219.setTop (mkF m 357 #[iv p0, iv p1, iv p2, iv p3, iv p4, iv ii, iv (3 : Int32), rv b7, rv b30, iv (own_i (own_wf s2 d2)), iv (own_i (((own_al c0 (0 : Int32)) && own_al c1 (1 : Int32)) && own_al c2 (2 : Int32))), iv ((((0 : Int32) + (own_i (own_D c0))) + (own_i (own_D c1))) + (own_i (own_D c2))), iv (((0 : Int32) + (own_i (own_P c0))) + (own_i (own_P c1))), .unset] [(.int (own_i (own_P c2))), (.int (((0 : Int32) + (own_i (own_P c0))) + (own_i (own_P c1))))])) _
      refine XS.iadd X219.here hx rfl (hb hby at_357) rfl ?_
      refine XS.istore X219.here hx rfl (hb hby at_358) rfl (l' := #[iv p0, iv p1, iv p2, iv p3, iv p4, iv ii, iv (3 : Int32), rv b7, rv b30, iv (own_i (own_wf s2 d2)), iv (own_i (((own_al c0 (0 : Int32)) && own_al c1 (1 : Int32)) && own_al c2 (2 : Int32))), iv ((((0 : Int32) + (own_i (own_D c0))) + (own_i (own_D c1))) + (own_i (own_D c2))), iv ((((0 : Int32) + (own_i (own_P c0))) + (own_i (own_P c1))) + (own_i (own_P c2))), .unset]) rfl ?_
      show Steps p.tables e below (T219.setTop (mkF m 360 #[iv p0, iv p1, iv p2, iv p3, iv p4, iv ii, iv (3 : Int32), rv b7, rv b30, iv (own_i (own_wf s2 d2)), iv (own_i (((own_al c0 (0 : Int32)) && own_al c1 (1 : Int32)) && own_al c2 (2 : Int32))), iv ((((0 : Int32) + (own_i (own_D c0))) + (own_i (own_D c1))) + (own_i (own_D c2))), iv ((((0 : Int32) + (own_i (own_P c0))) + (own_i (own_P c1))) + (own_i (own_P c2))), .unset] [])) _
      refine XS.iload X219.here hx rfl (hb hby at_360) rfl  ?_
      refine XS.iconst X219.here hx rfl (hb hby at_362) ?_
      show Steps p.tables e below (T219.setTop (mkF m 363 #[iv p0, iv p1, iv p2, iv p3, iv p4, iv ii, iv (3 : Int32), rv b7, rv b30, iv (own_i (own_wf s2 d2)), iv (own_i (((own_al c0 (0 : Int32)) && own_al c1 (1 : Int32)) && own_al c2 (2 : Int32))), iv ((((0 : Int32) + (own_i (own_D c0))) + (own_i (own_D c1))) + (own_i (own_D c2))), iv ((((0 : Int32) + (own_i (own_P c0))) + (own_i (own_P c1))) + (own_i (own_P c2))), .unset] [(.int (3 : Int32)), (.int (3 : Int32))])) _
      refine XS.icmpYes X219.here hx rfl (pc0 := 363) (pc' := 428) rfl (hb hby at_363) rfl (flt (by decide : ¬ ((3 : Int32) < (3 : Int32)))).2.2.2 (by decide) (by decide) ?_
      exact k)
    obtain ⟨dg, e_dg⟩ : ∃ z : Int32, z = ((((0 : Int32) + (own_i (own_D c0))) + (own_i (own_D c1))) + (own_i (own_D c2))) := ⟨_, rfl⟩
    have R228 : ∀ t, Steps p.tables e below (T219.setTop (mkF m 428 #[iv p0, iv p1, iv p2, iv p3, iv p4, iv ii, iv (3 : Int32), rv b7, rv b30, iv (own_i (own_wf s2 d2)), iv (own_i (((own_al c0 (0 : Int32)) && own_al c1 (1 : Int32)) && own_al c2 (2 : Int32))), iv dg, iv ((((0 : Int32) + (own_i (own_P c0))) + (own_i (own_P c1))) + (own_i (own_P c2))), .unset] [])) t → Steps p.tables e below (s₁.setTop f0) t := by have q := R227; rw [← e_dg] at q; exact q
    obtain ⟨dt, e_dt⟩ : ∃ z : Int32, z = ((((0 : Int32) + (own_i (own_P c0))) + (own_i (own_P c1))) + (own_i (own_P c2))) := ⟨_, rfl⟩
    have R229 : ∀ t, Steps p.tables e below (T219.setTop (mkF m 428 #[iv p0, iv p1, iv p2, iv p3, iv p4, iv ii, iv (3 : Int32), rv b7, rv b30, iv (own_i (own_wf s2 d2)), iv (own_i (((own_al c0 (0 : Int32)) && own_al c1 (1 : Int32)) && own_al c2 (2 : Int32))), iv dg, iv dt, .unset] [])) t → Steps p.tables e below (s₁.setTop f0) t := by have q := R228; rw [← e_dt] at q; exact q
    have R230 : ∀ t, Steps p.tables e below (T219.setTop (mkF m 430 #[iv p0, iv p1, iv p2, iv p3, iv p4, iv ii, iv (3 : Int32), rv b7, rv b30, iv (own_i (own_wf s2 d2)), iv (own_i (((own_al c0 (0 : Int32)) && own_al c1 (1 : Int32)) && own_al c2 (2 : Int32))), iv dg, iv dt, .unset] [(.int (own_i (((own_al c0 (0 : Int32)) && own_al c1 (1 : Int32)) && own_al c2 (2 : Int32))))])) t → Steps p.tables e below (s₁.setTop f0) t := fun t k => R229 t (by
      show Steps p.tables e below (T219.setTop (mkF m 428 #[iv p0, iv p1, iv p2, iv p3, iv p4, iv ii, iv (3 : Int32), rv b7, rv b30, iv (own_i (own_wf s2 d2)), iv (own_i (((own_al c0 (0 : Int32)) && own_al c1 (1 : Int32)) && own_al c2 (2 : Int32))), iv dg, iv dt, .unset] [])) _
      refine XS.iload X219.here hx rfl (hb hby at_428) rfl  ?_
      exact k)
    have R231 : ∀ t, Steps p.tables e below (T219.setTop (mkF m 459 #[iv p0, iv p1, iv p2, iv p3, iv p4, iv ii, iv (3 : Int32), rv b7, rv b30, iv (own_i (own_wf s2 d2)), iv (own_i (((own_al c0 (0 : Int32)) && own_al c1 (1 : Int32)) && own_al c2 (2 : Int32))), iv dg, iv dt, .unset] [(.int (own_i ((((own_al c0 (0 : Int32)) && own_al c1 (1 : Int32)) && own_al c2 (2 : Int32)) && ! decide (dg < (1 : Int32)) && ! decide ((own_lim ii) < dt))))])) t → Steps p.tables e below (s₁.setTop f0) t := by
      intro t k
      refine R230 t ?_
      by_cases hm1 : (own_i (((own_al c0 (0 : Int32)) && own_al c1 (1 : Int32)) && own_al c2 (2 : Int32))) = (0 : Int32)
      · skip
        show Steps p.tables e below (T219.setTop (mkF m 430 #[iv p0, iv p1, iv p2, iv p3, iv p4, iv ii, iv (3 : Int32), rv b7, rv b30, iv (own_i (own_wf s2 d2)), iv (own_i (((own_al c0 (0 : Int32)) && own_al c1 (1 : Int32)) && own_al c2 (2 : Int32))), iv dg, iv dt, .unset] [(.int (own_i (((own_al c0 (0 : Int32)) && own_al c1 (1 : Int32)) && own_al c2 (2 : Int32))))])) _
        refine XS.ifYes X219.here hx rfl (pc0 := 430) (pc' := 458) rfl (hb hby at_430) rfl ((if0 _ _).trans (teq hm1).1) (by decide) (by decide) ?_
        refine XS.iconst X219.here hx rfl (hb hby at_458) ?_
        have hv : (own_i ((((own_al c0 (0 : Int32)) && own_al c1 (1 : Int32)) && own_al c2 (2 : Int32)) && ! decide (dg < (1 : Int32)) && ! decide ((own_lim ii) < dt))) = (0 : Int32) := by (try simp only [lw_gt, lw_lt, lw_eq, own_i_eq0, Bool.not_eq_false] at hm1); simp [own_i, own_lim, own_limB, hm1]
        rw [hv] at k
        exact k
      · skip
        show Steps p.tables e below (T219.setTop (mkF m 430 #[iv p0, iv p1, iv p2, iv p3, iv p4, iv ii, iv (3 : Int32), rv b7, rv b30, iv (own_i (own_wf s2 d2)), iv (own_i (((own_al c0 (0 : Int32)) && own_al c1 (1 : Int32)) && own_al c2 (2 : Int32))), iv dg, iv dt, .unset] [(.int (own_i (((own_al c0 (0 : Int32)) && own_al c1 (1 : Int32)) && own_al c2 (2 : Int32))))])) _
        refine XS.ifNo X219.here hx rfl (hb hby at_430) rfl ((if0 _ _).trans (feq hm1).1) ?_
        refine XS.iload X219.here hx rfl (hb hby at_433) rfl  ?_
        show Steps p.tables e below (T219.setTop (mkF m 435 #[iv p0, iv p1, iv p2, iv p3, iv p4, iv ii, iv (3 : Int32), rv b7, rv b30, iv (own_i (own_wf s2 d2)), iv (own_i (((own_al c0 (0 : Int32)) && own_al c1 (1 : Int32)) && own_al c2 (2 : Int32))), iv dg, iv dt, .unset] [(.int dg)])) _
        refine XS.iconst X219.here hx rfl (hb hby at_435) ?_
        by_cases hm2 : dg < (1 : Int32)
        · skip
          show Steps p.tables e below (T219.setTop (mkF m 436 #[iv p0, iv p1, iv p2, iv p3, iv p4, iv ii, iv (3 : Int32), rv b7, rv b30, iv (own_i (own_wf s2 d2)), iv (own_i (((own_al c0 (0 : Int32)) && own_al c1 (1 : Int32)) && own_al c2 (2 : Int32))), iv dg, iv dt, .unset] [(.int (1 : Int32)), (.int dg)])) _
          refine XS.icmpYes X219.here hx rfl (pc0 := 436) (pc' := 458) rfl (hb hby at_436) rfl (tlt hm2).1 (by decide) (by decide) ?_
          refine XS.iconst X219.here hx rfl (hb hby at_458) ?_
          have hv : (own_i ((((own_al c0 (0 : Int32)) && own_al c1 (1 : Int32)) && own_al c2 (2 : Int32)) && ! decide (dg < (1 : Int32)) && ! decide ((own_lim ii) < dt))) = (0 : Int32) := by (try simp only [lw_gt, lw_lt, lw_eq, own_i_eq0, Bool.not_eq_false] at hm1); (try simp only [lw_gt, lw_lt, lw_eq, own_i_eq0, Bool.not_eq_false] at hm2); simp [own_i, own_lim, own_limB, hm1, hm2]
          rw [hv] at k
          exact k
        · skip
          show Steps p.tables e below (T219.setTop (mkF m 436 #[iv p0, iv p1, iv p2, iv p3, iv p4, iv ii, iv (3 : Int32), rv b7, rv b30, iv (own_i (own_wf s2 d2)), iv (own_i (((own_al c0 (0 : Int32)) && own_al c1 (1 : Int32)) && own_al c2 (2 : Int32))), iv dg, iv dt, .unset] [(.int (1 : Int32)), (.int dg)])) _
          refine XS.icmpNo X219.here hx rfl (hb hby at_436) rfl (flt hm2).1 ?_
          refine XS.iload X219.here hx rfl (hb hby at_439) rfl  ?_
          show Steps p.tables e below (T219.setTop (mkF m 441 #[iv p0, iv p1, iv p2, iv p3, iv p4, iv ii, iv (3 : Int32), rv b7, rv b30, iv (own_i (own_wf s2 d2)), iv (own_i (((own_al c0 (0 : Int32)) && own_al c1 (1 : Int32)) && own_al c2 (2 : Int32))), iv dg, iv dt, .unset] [(.int dt)])) _
          refine XS.iload X219.here hx rfl (hb hby at_441) rfl  ?_
          by_cases hm3 : ii = (0 : Int32)
          · skip
            show Steps p.tables e below (T219.setTop (mkF m 443 #[iv p0, iv p1, iv p2, iv p3, iv p4, iv ii, iv (3 : Int32), rv b7, rv b30, iv (own_i (own_wf s2 d2)), iv (own_i (((own_al c0 (0 : Int32)) && own_al c1 (1 : Int32)) && own_al c2 (2 : Int32))), iv dg, iv dt, .unset] [(.int ii), (.int dt)])) _
            refine XS.ifYes X219.here hx rfl (pc0 := 443) (pc' := 450) rfl (hb hby at_443) rfl ((if0 _ _).trans (teq hm3).1) (by decide) (by decide) ?_
            refine XS.iconst X219.here hx rfl (hb hby at_450) ?_
            by_cases hm4 : (1 : Int32) < dt
            · skip
              show Steps p.tables e below (T219.setTop (mkF m 451 #[iv p0, iv p1, iv p2, iv p3, iv p4, iv ii, iv (3 : Int32), rv b7, rv b30, iv (own_i (own_wf s2 d2)), iv (own_i (((own_al c0 (0 : Int32)) && own_al c1 (1 : Int32)) && own_al c2 (2 : Int32))), iv dg, iv dt, .unset] [(.int (1 : Int32)), (.int dt)])) _
              refine XS.icmpYes X219.here hx rfl (pc0 := 451) (pc' := 458) rfl (hb hby at_451) rfl (tlt hm4).2.2.1 (by decide) (by decide) ?_
              refine XS.iconst X219.here hx rfl (hb hby at_458) ?_
              have hv : (own_i ((((own_al c0 (0 : Int32)) && own_al c1 (1 : Int32)) && own_al c2 (2 : Int32)) && ! decide (dg < (1 : Int32)) && ! decide ((own_lim ii) < dt))) = (0 : Int32) := by (try simp only [lw_gt, lw_lt, lw_eq, own_i_eq0, Bool.not_eq_false] at hm1); (try simp only [lw_gt, lw_lt, lw_eq, own_i_eq0, Bool.not_eq_false] at hm2); (try simp only [lw_gt, lw_lt, lw_eq, own_i_eq0, Bool.not_eq_false] at hm3); (try simp only [lw_gt, lw_lt, lw_eq, own_i_eq0, Bool.not_eq_false] at hm4); simp [own_i, own_lim, own_limB, hm1, hm2, hm3, hm4]
              rw [hv] at k
              exact k
            · skip
              show Steps p.tables e below (T219.setTop (mkF m 451 #[iv p0, iv p1, iv p2, iv p3, iv p4, iv ii, iv (3 : Int32), rv b7, rv b30, iv (own_i (own_wf s2 d2)), iv (own_i (((own_al c0 (0 : Int32)) && own_al c1 (1 : Int32)) && own_al c2 (2 : Int32))), iv dg, iv dt, .unset] [(.int (1 : Int32)), (.int dt)])) _
              refine XS.icmpNo X219.here hx rfl (hb hby at_451) rfl (flt hm4).2.2.1 ?_
              refine XS.iconst X219.here hx rfl (hb hby at_454) ?_
              show Steps p.tables e below (T219.setTop (mkF m 455 #[iv p0, iv p1, iv p2, iv p3, iv p4, iv ii, iv (3 : Int32), rv b7, rv b30, iv (own_i (own_wf s2 d2)), iv (own_i (((own_al c0 (0 : Int32)) && own_al c1 (1 : Int32)) && own_al c2 (2 : Int32))), iv dg, iv dt, .unset] [(.int (1 : Int32))])) _
              refine XS.goto X219.here hx rfl (pc0 := 455) (pc' := 459) rfl (hb hby at_455) (by decide) (by decide) ?_
              have hv : (own_i ((((own_al c0 (0 : Int32)) && own_al c1 (1 : Int32)) && own_al c2 (2 : Int32)) && ! decide (dg < (1 : Int32)) && ! decide ((own_lim ii) < dt))) = (1 : Int32) := by (try simp only [lw_gt, lw_lt, lw_eq, own_i_eq0, Bool.not_eq_false] at hm1); (try simp only [lw_gt, lw_lt, lw_eq, own_i_eq0, Bool.not_eq_false] at hm2); (try simp only [lw_gt, lw_lt, lw_eq, own_i_eq0, Bool.not_eq_false] at hm3); (try simp only [lw_gt, lw_lt, lw_eq, own_i_eq0, Bool.not_eq_false] at hm4); simp [own_i, own_lim, own_limB, hm1, hm2, hm3, hm4]
              rw [hv] at k
              exact k
          · skip
            show Steps p.tables e below (T219.setTop (mkF m 443 #[iv p0, iv p1, iv p2, iv p3, iv p4, iv ii, iv (3 : Int32), rv b7, rv b30, iv (own_i (own_wf s2 d2)), iv (own_i (((own_al c0 (0 : Int32)) && own_al c1 (1 : Int32)) && own_al c2 (2 : Int32))), iv dg, iv dt, .unset] [(.int ii), (.int dt)])) _
            refine XS.ifNo X219.here hx rfl (hb hby at_443) rfl ((if0 _ _).trans (feq hm3).1) ?_
            refine XS.iconst X219.here hx rfl (hb hby at_446) ?_
            show Steps p.tables e below (T219.setTop (mkF m 447 #[iv p0, iv p1, iv p2, iv p3, iv p4, iv ii, iv (3 : Int32), rv b7, rv b30, iv (own_i (own_wf s2 d2)), iv (own_i (((own_al c0 (0 : Int32)) && own_al c1 (1 : Int32)) && own_al c2 (2 : Int32))), iv dg, iv dt, .unset] [(.int (0 : Int32)), (.int dt)])) _
            refine XS.goto X219.here hx rfl (pc0 := 447) (pc' := 451) rfl (hb hby at_447) (by decide) (by decide) ?_
            by_cases hm5 : (0 : Int32) < dt
            · skip
              show Steps p.tables e below (T219.setTop (mkF m 451 #[iv p0, iv p1, iv p2, iv p3, iv p4, iv ii, iv (3 : Int32), rv b7, rv b30, iv (own_i (own_wf s2 d2)), iv (own_i (((own_al c0 (0 : Int32)) && own_al c1 (1 : Int32)) && own_al c2 (2 : Int32))), iv dg, iv dt, .unset] [(.int (0 : Int32)), (.int dt)])) _
              refine XS.icmpYes X219.here hx rfl (pc0 := 451) (pc' := 458) rfl (hb hby at_451) rfl (tlt hm5).2.2.1 (by decide) (by decide) ?_
              refine XS.iconst X219.here hx rfl (hb hby at_458) ?_
              have hv : (own_i ((((own_al c0 (0 : Int32)) && own_al c1 (1 : Int32)) && own_al c2 (2 : Int32)) && ! decide (dg < (1 : Int32)) && ! decide ((own_lim ii) < dt))) = (0 : Int32) := by (try simp only [lw_gt, lw_lt, lw_eq, own_i_eq0, Bool.not_eq_false] at hm1); (try simp only [lw_gt, lw_lt, lw_eq, own_i_eq0, Bool.not_eq_false] at hm2); (try simp only [lw_gt, lw_lt, lw_eq, own_i_eq0, Bool.not_eq_false] at hm3); (try simp only [lw_gt, lw_lt, lw_eq, own_i_eq0, Bool.not_eq_false] at hm5); simp [own_i, own_lim, own_limB, hm1, hm2, hm3, hm5]
              rw [hv] at k
              exact k
            · skip
              show Steps p.tables e below (T219.setTop (mkF m 451 #[iv p0, iv p1, iv p2, iv p3, iv p4, iv ii, iv (3 : Int32), rv b7, rv b30, iv (own_i (own_wf s2 d2)), iv (own_i (((own_al c0 (0 : Int32)) && own_al c1 (1 : Int32)) && own_al c2 (2 : Int32))), iv dg, iv dt, .unset] [(.int (0 : Int32)), (.int dt)])) _
              refine XS.icmpNo X219.here hx rfl (hb hby at_451) rfl (flt hm5).2.2.1 ?_
              refine XS.iconst X219.here hx rfl (hb hby at_454) ?_
              show Steps p.tables e below (T219.setTop (mkF m 455 #[iv p0, iv p1, iv p2, iv p3, iv p4, iv ii, iv (3 : Int32), rv b7, rv b30, iv (own_i (own_wf s2 d2)), iv (own_i (((own_al c0 (0 : Int32)) && own_al c1 (1 : Int32)) && own_al c2 (2 : Int32))), iv dg, iv dt, .unset] [(.int (1 : Int32))])) _
              refine XS.goto X219.here hx rfl (pc0 := 455) (pc' := 459) rfl (hb hby at_455) (by decide) (by decide) ?_
              have hv : (own_i ((((own_al c0 (0 : Int32)) && own_al c1 (1 : Int32)) && own_al c2 (2 : Int32)) && ! decide (dg < (1 : Int32)) && ! decide ((own_lim ii) < dt))) = (1 : Int32) := by (try simp only [lw_gt, lw_lt, lw_eq, own_i_eq0, Bool.not_eq_false] at hm1); (try simp only [lw_gt, lw_lt, lw_eq, own_i_eq0, Bool.not_eq_false] at hm2); (try simp only [lw_gt, lw_lt, lw_eq, own_i_eq0, Bool.not_eq_false] at hm3); (try simp only [lw_gt, lw_lt, lw_eq, own_i_eq0, Bool.not_eq_false] at hm5); simp [own_i, own_lim, own_limB, hm1, hm2, hm3, hm5]
              rw [hv] at k
              exact k
    have R232 : ∀ t, Steps p.tables e below (T219.setTop (mkF m 473 #[iv p0, iv p1, iv p2, iv p3, iv p4, iv ii, iv (3 : Int32), rv b7, rv b30, iv (own_i (own_wf s2 d2)), iv (own_i (((own_al c0 (0 : Int32)) && own_al c1 (1 : Int32)) && own_al c2 (2 : Int32))), iv dg, iv dt, iv (own_i ((((own_al c0 (0 : Int32)) && own_al c1 (1 : Int32)) && own_al c2 (2 : Int32)) && ! decide (dg < (1 : Int32)) && ! decide ((own_lim ii) < dt)))] [(.int (1 : Int32))])) t → Steps p.tables e below (s₁.setTop f0) t := fun t k => R231 t (by
      show Steps p.tables e below (T219.setTop (mkF m 459 #[iv p0, iv p1, iv p2, iv p3, iv p4, iv ii, iv (3 : Int32), rv b7, rv b30, iv (own_i (own_wf s2 d2)), iv (own_i (((own_al c0 (0 : Int32)) && own_al c1 (1 : Int32)) && own_al c2 (2 : Int32))), iv dg, iv dt, .unset] [(.int (own_i ((((own_al c0 (0 : Int32)) && own_al c1 (1 : Int32)) && own_al c2 (2 : Int32)) && ! decide (dg < (1 : Int32)) && ! decide ((own_lim ii) < dt))))])) _
      refine XS.istore X219.here hx rfl (hb hby at_459) rfl (l' := #[iv p0, iv p1, iv p2, iv p3, iv p4, iv ii, iv (3 : Int32), rv b7, rv b30, iv (own_i (own_wf s2 d2)), iv (own_i (((own_al c0 (0 : Int32)) && own_al c1 (1 : Int32)) && own_al c2 (2 : Int32))), iv dg, iv dt, iv (own_i ((((own_al c0 (0 : Int32)) && own_al c1 (1 : Int32)) && own_al c2 (2 : Int32)) && ! decide (dg < (1 : Int32)) && ! decide ((own_lim ii) < dt)))]) rfl ?_
      refine XS.iload X219.here hx rfl (hb hby at_461) rfl  ?_
      show Steps p.tables e below (T219.setTop (mkF m 463 #[iv p0, iv p1, iv p2, iv p3, iv p4, iv ii, iv (3 : Int32), rv b7, rv b30, iv (own_i (own_wf s2 d2)), iv (own_i (((own_al c0 (0 : Int32)) && own_al c1 (1 : Int32)) && own_al c2 (2 : Int32))), iv dg, iv dt, iv (own_i ((((own_al c0 (0 : Int32)) && own_al c1 (1 : Int32)) && own_al c2 (2 : Int32)) && ! decide (dg < (1 : Int32)) && ! decide ((own_lim ii) < dt)))] [(.int (own_i (own_wf s2 d2)))])) _
      refine XS.iload X219.here hx rfl (hb hby at_463) rfl  ?_
      refine XS.icmpNo X219.here hx rfl (hb hby at_465) rfl (teq (by subst e_dg e_dt ed2 es2 ed1 es1 ed0 es0 ; exact own_fin_3 c0 c1 c2 ii : (own_i (own_wf s2 d2)) = (own_i ((((own_al c0 (0 : Int32)) && own_al c1 (1 : Int32)) && own_al c2 (2 : Int32)) && ! decide (dg < (1 : Int32)) && ! decide ((own_lim ii) < dt))))).2 ?_
      show Steps p.tables e below (T219.setTop (mkF m 468 #[iv p0, iv p1, iv p2, iv p3, iv p4, iv ii, iv (3 : Int32), rv b7, rv b30, iv (own_i (own_wf s2 d2)), iv (own_i (((own_al c0 (0 : Int32)) && own_al c1 (1 : Int32)) && own_al c2 (2 : Int32))), iv dg, iv dt, iv (own_i ((((own_al c0 (0 : Int32)) && own_al c1 (1 : Int32)) && own_al c2 (2 : Int32)) && ! decide (dg < (1 : Int32)) && ! decide ((own_lim ii) < dt)))] [])) _
      refine XS.iconst X219.here hx rfl (hb hby at_468) ?_
      refine XS.goto X219.here hx rfl (pc0 := 469) (pc' := 473) rfl (hb hby at_469) (by decide) (by decide) ?_
      exact k)
    obtain ⟨fs, hr, hrun, hended, hW, hsame⟩ := X219.leave (v := some (.int (1 : Int32))) (fun h => by rw [Bd.returns] at h; cases h)
    refine ⟨_, _, pre0 _ (R232 _ ?_), hrun, hended, _, _, rfl, ?_, ⟨_, rfl⟩, hW, hsame.mono (by decide) (by decide)⟩
    · show Steps p.tables e below (T219.setTop (mkF m 473 #[iv p0, iv p1, iv p2, iv p3, iv p4, iv ii, iv (3 : Int32), rv b7, rv b30, iv (own_i (own_wf s2 d2)), iv (own_i (((own_al c0 (0 : Int32)) && own_al c1 (1 : Int32)) && own_al c2 (2 : Int32))), iv dg, iv dt, iv (own_i ((((own_al c0 (0 : Int32)) && own_al c1 (1 : Int32)) && own_al c2 (2 : Int32)) && ! decide (dg < (1 : Int32)) && ! decide ((own_lim ii) < dt)))] [(.int (1 : Int32))])) _
      exact retN X219 hx (t := .boolean) Bd.returns (by simp) (hb hby at_473) hr
    · show Q_rmLaw Z p0 p1 p2 p3 p4 fI fD sS sI sF sB h0 n0 _ T219.heap _
      rw [p219_0]
      exact ⟨rfl, N219⟩
  · skip
    have R233 : ∀ t, Steps p.tables e below (T44.setTop (mkF m 84 #[iv p0, iv p1, iv p2, iv p3, iv p4, iv ii, iv (4 : Int32), rv b7, rv b30, .unset, .unset, .unset, .unset, .unset] [(.int (4 : Int32))])) t → Steps p.tables e below (s₁.setTop f0) t := by have q := R47; rw [(hn : nn = (4 : Int32))] at q; exact q
    have R234 : ∀ t, Steps p.tables e below (T44.setTop (mkF m 92 #[iv p0, iv p1, iv p2, iv p3, iv p4, iv ii, iv (4 : Int32), rv b7, rv b30, .unset, .unset, .unset, .unset, .unset] [(.int (0 : Int32)), (.ref b7), (.ref b30)])) t → Steps p.tables e below (s₁.setTop f0) t := fun t k => R233 t (by
      show Steps p.tables e below (T44.setTop (mkF m 84 #[iv p0, iv p1, iv p2, iv p3, iv p4, iv ii, iv (4 : Int32), rv b7, rv b30, .unset, .unset, .unset, .unset, .unset] [(.int (4 : Int32))])) _
      refine XS.ifNo X44.here hx rfl (hb hby at_84) rfl ((if0 _ _).trans (tlt (by decide : (0 : Int32) < (4 : Int32))).2.2.2) ?_
      refine XS.aload X44.here hx rfl (hb hby at_87) rfl rfl ?_
      show Steps p.tables e below (T44.setTop (mkF m 89 #[iv p0, iv p1, iv p2, iv p3, iv p4, iv ii, iv (4 : Int32), rv b7, rv b30, .unset, .unset, .unset, .unset, .unset] [(.ref b30)])) _
      refine XS.aload X44.here hx rfl (hb hby at_89) rfl rfl ?_
      refine XS.iconst X44.here hx rfl (hb hby at_91) ?_
      exact k)
    obtain ⟨cl235, Ar235, q235, S235, n235_, H235, G235⟩ := id vc
    have hin235 : ¬ ((0 : Int32) < 0 ∨ cl235.slots.size ≤ ((0 : Int32)).toNatClampNeg) := inb_of S235 ⟨by decide, by decide⟩
    have hat235 : cl235.slots[((0 : Int32)).toNatClampNeg]? = some (.int c0) := Has.at H235 hin235 rfl
    have R236 : ∀ t, Steps p.tables e below (T44.setTop (mkF m 93 #[iv p0, iv p1, iv p2, iv p3, iv p4, iv ii, iv (4 : Int32), rv b7, rv b30, .unset, .unset, .unset, .unset, .unset] [(.int c0), (.ref b30)])) t → Steps p.tables e below (s₁.setTop f0) t := fun t k => R234 t (X44.caload hx (j := (0 : Int32)) (v := (.int c0)) Ar235.1 (State.isArrayOf_alike hZ.alike Ar235.2.1) Ar235.2.2 hin235 hat235 (g := (mkF m 92 #[iv p0, iv p1, iv p2, iv p3, iv p4, iv ii, iv (4 : Int32), rv b7, rv b30, .unset, .unset, .unset, .unset, .unset] [(.int (0 : Int32)), (.ref b7), (.ref b30)])) rfl rfl (hb hby at_92) _ k)
    obtain ⟨cq237, kq237, q237a, q237b, q237c⟩ := isOf hZ rfl f44_E_b30
    obtain ⟨_, _, ⟨T237, L237, k237, n237⟩, -, X237, ⟨Lc237, hQ237, l237, y237, z237⟩, st237⟩ := X44.virtualBack hx (y := (⟨sN0, "take", "(C)V"⟩ : MethodName)) (z := (⟨sN0, "take", "(C)V"⟩ : MethodName)) hown (mvT hZ (hw _ (List.mem_of_getElem? (i := 51) rfl))) (mvT hZ (hw _ (List.mem_of_getElem? (i := 52) rfl))) (notFace_of_selects (args := #[]) (mvT hZ (hw _ (List.mem_of_getElem? (i := 54) rfl)))) (mvT hZ (hw _ (List.mem_of_getElem? (i := 54) rfl))) (mvT hZ (hw _ (List.mem_of_getElem? (i := 53) rfl))) (by decide) (backOf (W := 0) (rmTake l Z a0 hw [] b30 c0 0 ii (.int (0 : Int32)) (0 : Int32) (0 : Int64) (0 : Int64) (0 : Int64) (0 : Int64) sS sI sF sB (0 : Int) T44.heap n0 z44 f44_E_b30 g_b30 f44_S_NumberText_Part_SIGN f44_S_NumberText_Part_INTEGER f44_S_NumberText_Part_FRACTION f44_S_NumberText_Part_BROKEN ne_sS_sI ne_sS_sF ne_sS_sB ne_sI_sF ne_sI_sB ne_sF_sB (by decide) (by decide) ⟨by decide, by decide⟩ io46 p44_2 p44_3 p44_4 p44_5 p44_6 p44_7 p44_8) hZ (hw _ (List.mem_of_getElem? (i := 55) rfl)) (hw _ (List.mem_of_getElem? (i := 7) rfl)) (by decide) (by decide)) q237a q237c (g := (mkF m 93 #[iv p0, iv p1, iv p2, iv p3, iv p4, iv ii, iv (4 : Int32), rv b7, rv b30, .unset, .unset, .unset, .unset, .unset] [(.int c0), (.ref b30)])) rfl (by rw [hml]; rfl) (Steps.refl _) (argsL := [(.int c0)]) (rest := []) (lenOf pd_10 rfl) rfl (by show 2 * 0 + _ ≤ _; exact Nat.le_of_eq rfl) (hb hby at_93) (fun _ _ => ⟨rfl, rfl, (by decide : 2 + 0 ≤ _), (by decide : 12 + 0 ≤ _)⟩)
    dsimp only [Pt.U, Pt.locs, Pt.cells, Pt.slots] at X237 l237 y237 z237 st237 hQ237
    subst l237 y237 z237
    obtain ⟨ng2_237, id2_237, fd2_237, pz2_237, us2_237, rfl, N237q, p237_0, p237_1, p237_2, p237_3, p237_4, p237_5, p237_6, p237_7, p237_8, p237_9⟩ := hQ237
    have N237 := Fr.app N44 N237q
    have f237_S_SimpleType_Form_INTEGER : Sta Z T237.heap sN4 "INTEGER" sN3 (.ref fI) := own_sta_keep f44_S_SimpleType_Form_INTEGER p237_0 (nsS f44_E_b30.nostat ns0)
    have f237_S_SimpleType_Form_DECIMAL : Sta Z T237.heap sN4 "DECIMAL" sN3 (.ref fD) := own_sta_keep f44_S_SimpleType_Form_DECIMAL p237_0 (nsS f44_E_b30.nostat ns0)
    have f237_S_NumberText_Part_SIGN : Sta Z T237.heap sN1 "SIGN" sN2 (.ref sS) := own_sta_keep f44_S_NumberText_Part_SIGN p237_0 (nsS f44_E_b30.nostat ns0)
    have f237_S_NumberText_Part_INTEGER : Sta Z T237.heap sN1 "INTEGER" sN2 (.ref sI) := own_sta_keep f44_S_NumberText_Part_INTEGER p237_0 (nsS f44_E_b30.nostat ns0)
    have f237_S_NumberText_Part_FRACTION : Sta Z T237.heap sN1 "FRACTION" sN2 (.ref sF) := own_sta_keep f44_S_NumberText_Part_FRACTION p237_0 (nsS f44_E_b30.nostat ns0)
    have f237_S_NumberText_Part_BROKEN : Sta Z T237.heap sN1 "BROKEN" sN2 (.ref sB) := own_sta_keep f44_S_NumberText_Part_BROKEN p237_0 (nsS f44_E_b30.nostat ns0)
    have f237_A_b7 : Arv Z T237.heap b7 k7 .char (4 : Int32) [(.int c0), (.int c1), (.int c2), (.int c3)] (.int (0 : Int32)) := vc.keep p237_0 (ninS ne_b7_b30 nin0)
    have f237_E_b30 : Exa Z T237.heap b30 sN0 := f44_E_b30.keep p237_0
    have z237 : n0 ≤ T237.heap.size := Nat.le_trans z44 p237_0.1
    have K237 : Keep h0 T237.heap [] := K44.trans p237_0 (allS (Or.inr sz_b30) all0)
    have R238 : ∀ t, Steps p.tables e below (T237.setTop (mkF m 96 #[iv p0, iv p1, iv p2, iv p3, iv p4, iv ii, iv (4 : Int32), rv b7, rv b30, .unset, .unset, .unset, .unset, .unset] [])) t → Steps p.tables e below (s₁.setTop f0) t := fun t k => R236 t (st237.trans k)
    obtain ⟨s0, es0⟩ : ∃ z : Nat, z = (own_nx 0 c0 ii) := ⟨_, rfl⟩
    obtain ⟨d0, ed0⟩ : ∃ z : Int32, z = (own_dr 0 c0 (0 : Int32)) := ⟨_, rfl⟩
    have fd0_ : Fld Z T237.heap b30 sN0 "digitRead" "Z" (.int d0) := by rw [ed0]; exact p237_4
    have fp0_ : Fld Z T237.heap b30 sN0 "part" sN2 (.ref (own_ad sS sI sF sB s0)) := by rw [es0]; exact p237_2
    have hs0_ : s0 < 4 := by rw [es0]; exact own_nx4 _ _ _
    have R239 : ∀ t, Steps p.tables e below (T237.setTop (mkF m 107 #[iv p0, iv p1, iv p2, iv p3, iv p4, iv ii, iv (4 : Int32), rv b7, rv b30, .unset, .unset, .unset, .unset, .unset] [(.int (1 : Int32)), (.ref b7), (.ref b30)])) t → Steps p.tables e below (s₁.setTop f0) t := fun t k => R238 t (by
      show Steps p.tables e below (T237.setTop (mkF m 96 #[iv p0, iv p1, iv p2, iv p3, iv p4, iv ii, iv (4 : Int32), rv b7, rv b30, .unset, .unset, .unset, .unset, .unset] [])) _
      refine XS.iload X237.here hx rfl (hb hby at_96) rfl  ?_
      refine XS.iconst X237.here hx rfl (hb hby at_98) ?_
      show Steps p.tables e below (T237.setTop (mkF m 99 #[iv p0, iv p1, iv p2, iv p3, iv p4, iv ii, iv (4 : Int32), rv b7, rv b30, .unset, .unset, .unset, .unset, .unset] [(.int (1 : Int32)), (.int (4 : Int32))])) _
      refine XS.icmpNo X237.here hx rfl (hb hby at_99) rfl (tlt (by decide : (1 : Int32) < (4 : Int32))).2.2.2 ?_
      refine XS.aload X237.here hx rfl (hb hby at_102) rfl rfl ?_
      show Steps p.tables e below (T237.setTop (mkF m 104 #[iv p0, iv p1, iv p2, iv p3, iv p4, iv ii, iv (4 : Int32), rv b7, rv b30, .unset, .unset, .unset, .unset, .unset] [(.ref b30)])) _
      refine XS.aload X237.here hx rfl (hb hby at_104) rfl rfl ?_
      refine XS.iconst X237.here hx rfl (hb hby at_106) ?_
      exact k)
    obtain ⟨cl240, Ar240, q240, S240, n240_, H240, G240⟩ := id f237_A_b7
    have hin240 : ¬ ((1 : Int32) < 0 ∨ cl240.slots.size ≤ ((1 : Int32)).toNatClampNeg) := inb_of S240 ⟨by decide, by decide⟩
    have hat240 : cl240.slots[((1 : Int32)).toNatClampNeg]? = some (.int c1) := Has.at H240 hin240 rfl
    have R241 : ∀ t, Steps p.tables e below (T237.setTop (mkF m 108 #[iv p0, iv p1, iv p2, iv p3, iv p4, iv ii, iv (4 : Int32), rv b7, rv b30, .unset, .unset, .unset, .unset, .unset] [(.int c1), (.ref b30)])) t → Steps p.tables e below (s₁.setTop f0) t := fun t k => R239 t (X237.caload hx (j := (1 : Int32)) (v := (.int c1)) Ar240.1 (State.isArrayOf_alike hZ.alike Ar240.2.1) Ar240.2.2 hin240 hat240 (g := (mkF m 107 #[iv p0, iv p1, iv p2, iv p3, iv p4, iv ii, iv (4 : Int32), rv b7, rv b30, .unset, .unset, .unset, .unset, .unset] [(.int (1 : Int32)), (.ref b7), (.ref b30)])) rfl rfl (hb hby at_107) _ k)
    obtain ⟨cq242, kq242, q242a, q242b, q242c⟩ := isOf hZ rfl f237_E_b30
    obtain ⟨_, _, ⟨T242, L242, k242, n242⟩, -, X242, ⟨Lc242, hQ242, l242, y242, z242⟩, st242⟩ := X237.virtualBack hx (y := (⟨sN0, "take", "(C)V"⟩ : MethodName)) (z := (⟨sN0, "take", "(C)V"⟩ : MethodName)) hown (mvT hZ (hw _ (List.mem_of_getElem? (i := 51) rfl))) (mvT hZ (hw _ (List.mem_of_getElem? (i := 52) rfl))) (notFace_of_selects (args := #[]) (mvT hZ (hw _ (List.mem_of_getElem? (i := 54) rfl)))) (mvT hZ (hw _ (List.mem_of_getElem? (i := 54) rfl))) (mvT hZ (hw _ (List.mem_of_getElem? (i := 53) rfl))) (by decide) (backOf (W := 0) (rmTake l Z a0 hw [] b30 c1 s0 ii ng2_237 d0 id2_237 fd2_237 pz2_237 us2_237 sS sI sF sB (1 : Int) T237.heap n0 z237 f237_E_b30 g_b30 f237_S_NumberText_Part_SIGN f237_S_NumberText_Part_INTEGER f237_S_NumberText_Part_FRACTION f237_S_NumberText_Part_BROKEN ne_sS_sI ne_sS_sF ne_sS_sB ne_sI_sF ne_sI_sB ne_sF_sB hs0_ (by decide) p237_9 p237_1 fp0_ p237_3 fd0_ p237_5 p237_6 p237_7 p237_8) hZ (hw _ (List.mem_of_getElem? (i := 55) rfl)) (hw _ (List.mem_of_getElem? (i := 7) rfl)) (by decide) (by decide)) q242a q242c (g := (mkF m 108 #[iv p0, iv p1, iv p2, iv p3, iv p4, iv ii, iv (4 : Int32), rv b7, rv b30, .unset, .unset, .unset, .unset, .unset] [(.int c1), (.ref b30)])) rfl (by rw [hml]; rfl) (Steps.refl _) (argsL := [(.int c1)]) (rest := []) (lenOf pd_10 rfl) rfl (by show 2 * 0 + _ ≤ _; exact Nat.le_of_eq rfl) (hb hby at_108) (fun _ _ => ⟨rfl, rfl, (by decide : 2 + 0 ≤ _), (by decide : 12 + 0 ≤ _)⟩)
    dsimp only [Pt.U, Pt.locs, Pt.cells, Pt.slots] at X242 l242 y242 z242 st242 hQ242
    subst l242 y242 z242
    obtain ⟨ng2_242, id2_242, fd2_242, pz2_242, us2_242, rfl, N242q, p242_0, p242_1, p242_2, p242_3, p242_4, p242_5, p242_6, p242_7, p242_8, p242_9⟩ := hQ242
    have N242 := Fr.app N237 N242q
    have f242_S_SimpleType_Form_INTEGER : Sta Z T242.heap sN4 "INTEGER" sN3 (.ref fI) := own_sta_keep f237_S_SimpleType_Form_INTEGER p242_0 (nsS f237_E_b30.nostat ns0)
    have f242_S_SimpleType_Form_DECIMAL : Sta Z T242.heap sN4 "DECIMAL" sN3 (.ref fD) := own_sta_keep f237_S_SimpleType_Form_DECIMAL p242_0 (nsS f237_E_b30.nostat ns0)
    have f242_S_NumberText_Part_SIGN : Sta Z T242.heap sN1 "SIGN" sN2 (.ref sS) := own_sta_keep f237_S_NumberText_Part_SIGN p242_0 (nsS f237_E_b30.nostat ns0)
    have f242_S_NumberText_Part_INTEGER : Sta Z T242.heap sN1 "INTEGER" sN2 (.ref sI) := own_sta_keep f237_S_NumberText_Part_INTEGER p242_0 (nsS f237_E_b30.nostat ns0)
    have f242_S_NumberText_Part_FRACTION : Sta Z T242.heap sN1 "FRACTION" sN2 (.ref sF) := own_sta_keep f237_S_NumberText_Part_FRACTION p242_0 (nsS f237_E_b30.nostat ns0)
    have f242_S_NumberText_Part_BROKEN : Sta Z T242.heap sN1 "BROKEN" sN2 (.ref sB) := own_sta_keep f237_S_NumberText_Part_BROKEN p242_0 (nsS f237_E_b30.nostat ns0)
    have f242_A_b7 : Arv Z T242.heap b7 k7 .char (4 : Int32) [(.int c0), (.int c1), (.int c2), (.int c3)] (.int (0 : Int32)) := f237_A_b7.keep p242_0 (ninS ne_b7_b30 nin0)
    have f242_E_b30 : Exa Z T242.heap b30 sN0 := f237_E_b30.keep p242_0
    have z242 : n0 ≤ T242.heap.size := Nat.le_trans z237 p242_0.1
    have K242 : Keep h0 T242.heap [] := K237.trans p242_0 (allS (Or.inr sz_b30) all0)
    have R243 : ∀ t, Steps p.tables e below (T242.setTop (mkF m 111 #[iv p0, iv p1, iv p2, iv p3, iv p4, iv ii, iv (4 : Int32), rv b7, rv b30, .unset, .unset, .unset, .unset, .unset] [])) t → Steps p.tables e below (s₁.setTop f0) t := fun t k => R241 t (st242.trans k)
    obtain ⟨s1, es1⟩ : ∃ z : Nat, z = (own_nx s0 c1 ii) := ⟨_, rfl⟩
    obtain ⟨d1, ed1⟩ : ∃ z : Int32, z = (own_dr s0 c1 d0) := ⟨_, rfl⟩
    have fd1_ : Fld Z T242.heap b30 sN0 "digitRead" "Z" (.int d1) := by rw [ed1]; exact p242_4
    have fp1_ : Fld Z T242.heap b30 sN0 "part" sN2 (.ref (own_ad sS sI sF sB s1)) := by rw [es1]; exact p242_2
    have hs1_ : s1 < 4 := by rw [es1]; exact own_nx4 _ _ _
    have R244 : ∀ t, Steps p.tables e below (T242.setTop (mkF m 122 #[iv p0, iv p1, iv p2, iv p3, iv p4, iv ii, iv (4 : Int32), rv b7, rv b30, .unset, .unset, .unset, .unset, .unset] [(.int (2 : Int32)), (.ref b7), (.ref b30)])) t → Steps p.tables e below (s₁.setTop f0) t := fun t k => R243 t (by
      show Steps p.tables e below (T242.setTop (mkF m 111 #[iv p0, iv p1, iv p2, iv p3, iv p4, iv ii, iv (4 : Int32), rv b7, rv b30, .unset, .unset, .unset, .unset, .unset] [])) _
      refine XS.iload X242.here hx rfl (hb hby at_111) rfl  ?_
      refine XS.iconst X242.here hx rfl (hb hby at_113) ?_
      show Steps p.tables e below (T242.setTop (mkF m 114 #[iv p0, iv p1, iv p2, iv p3, iv p4, iv ii, iv (4 : Int32), rv b7, rv b30, .unset, .unset, .unset, .unset, .unset] [(.int (2 : Int32)), (.int (4 : Int32))])) _
      refine XS.icmpNo X242.here hx rfl (hb hby at_114) rfl (tlt (by decide : (2 : Int32) < (4 : Int32))).2.2.2 ?_
      refine XS.aload X242.here hx rfl (hb hby at_117) rfl rfl ?_
      show Steps p.tables e below (T242.setTop (mkF m 119 #[iv p0, iv p1, iv p2, iv p3, iv p4, iv ii, iv (4 : Int32), rv b7, rv b30, .unset, .unset, .unset, .unset, .unset] [(.ref b30)])) _
      refine XS.aload X242.here hx rfl (hb hby at_119) rfl rfl ?_
      refine XS.iconst X242.here hx rfl (hb hby at_121) ?_
      exact k)
    obtain ⟨cl245, Ar245, q245, S245, n245_, H245, G245⟩ := id f242_A_b7
    have hin245 : ¬ ((2 : Int32) < 0 ∨ cl245.slots.size ≤ ((2 : Int32)).toNatClampNeg) := inb_of S245 ⟨by decide, by decide⟩
    have hat245 : cl245.slots[((2 : Int32)).toNatClampNeg]? = some (.int c2) := Has.at H245 hin245 rfl
    have R246 : ∀ t, Steps p.tables e below (T242.setTop (mkF m 123 #[iv p0, iv p1, iv p2, iv p3, iv p4, iv ii, iv (4 : Int32), rv b7, rv b30, .unset, .unset, .unset, .unset, .unset] [(.int c2), (.ref b30)])) t → Steps p.tables e below (s₁.setTop f0) t := fun t k => R244 t (X242.caload hx (j := (2 : Int32)) (v := (.int c2)) Ar245.1 (State.isArrayOf_alike hZ.alike Ar245.2.1) Ar245.2.2 hin245 hat245 (g := (mkF m 122 #[iv p0, iv p1, iv p2, iv p3, iv p4, iv ii, iv (4 : Int32), rv b7, rv b30, .unset, .unset, .unset, .unset, .unset] [(.int (2 : Int32)), (.ref b7), (.ref b30)])) rfl rfl (hb hby at_122) _ k)
    obtain ⟨cq247, kq247, q247a, q247b, q247c⟩ := isOf hZ rfl f242_E_b30
    obtain ⟨_, _, ⟨T247, L247, k247, n247⟩, -, X247, ⟨Lc247, hQ247, l247, y247, z247⟩, st247⟩ := X242.virtualBack hx (y := (⟨sN0, "take", "(C)V"⟩ : MethodName)) (z := (⟨sN0, "take", "(C)V"⟩ : MethodName)) hown (mvT hZ (hw _ (List.mem_of_getElem? (i := 51) rfl))) (mvT hZ (hw _ (List.mem_of_getElem? (i := 52) rfl))) (notFace_of_selects (args := #[]) (mvT hZ (hw _ (List.mem_of_getElem? (i := 54) rfl)))) (mvT hZ (hw _ (List.mem_of_getElem? (i := 54) rfl))) (mvT hZ (hw _ (List.mem_of_getElem? (i := 53) rfl))) (by decide) (backOf (W := 0) (rmTake l Z a0 hw [] b30 c2 s1 ii ng2_242 d1 id2_242 fd2_242 pz2_242 us2_242 sS sI sF sB (2 : Int) T242.heap n0 z242 f242_E_b30 g_b30 f242_S_NumberText_Part_SIGN f242_S_NumberText_Part_INTEGER f242_S_NumberText_Part_FRACTION f242_S_NumberText_Part_BROKEN ne_sS_sI ne_sS_sF ne_sS_sB ne_sI_sF ne_sI_sB ne_sF_sB hs1_ (by decide) p242_9 p242_1 fp1_ p242_3 fd1_ p242_5 p242_6 p242_7 p242_8) hZ (hw _ (List.mem_of_getElem? (i := 55) rfl)) (hw _ (List.mem_of_getElem? (i := 7) rfl)) (by decide) (by decide)) q247a q247c (g := (mkF m 123 #[iv p0, iv p1, iv p2, iv p3, iv p4, iv ii, iv (4 : Int32), rv b7, rv b30, .unset, .unset, .unset, .unset, .unset] [(.int c2), (.ref b30)])) rfl (by rw [hml]; rfl) (Steps.refl _) (argsL := [(.int c2)]) (rest := []) (lenOf pd_10 rfl) rfl (by show 2 * 0 + _ ≤ _; exact Nat.le_of_eq rfl) (hb hby at_123) (fun _ _ => ⟨rfl, rfl, (by decide : 2 + 0 ≤ _), (by decide : 12 + 0 ≤ _)⟩)
    dsimp only [Pt.U, Pt.locs, Pt.cells, Pt.slots] at X247 l247 y247 z247 st247 hQ247
    subst l247 y247 z247
    obtain ⟨ng2_247, id2_247, fd2_247, pz2_247, us2_247, rfl, N247q, p247_0, p247_1, p247_2, p247_3, p247_4, p247_5, p247_6, p247_7, p247_8, p247_9⟩ := hQ247
    have N247 := Fr.app N242 N247q
    have f247_S_SimpleType_Form_INTEGER : Sta Z T247.heap sN4 "INTEGER" sN3 (.ref fI) := own_sta_keep f242_S_SimpleType_Form_INTEGER p247_0 (nsS f242_E_b30.nostat ns0)
    have f247_S_SimpleType_Form_DECIMAL : Sta Z T247.heap sN4 "DECIMAL" sN3 (.ref fD) := own_sta_keep f242_S_SimpleType_Form_DECIMAL p247_0 (nsS f242_E_b30.nostat ns0)
    have f247_S_NumberText_Part_SIGN : Sta Z T247.heap sN1 "SIGN" sN2 (.ref sS) := own_sta_keep f242_S_NumberText_Part_SIGN p247_0 (nsS f242_E_b30.nostat ns0)
    have f247_S_NumberText_Part_INTEGER : Sta Z T247.heap sN1 "INTEGER" sN2 (.ref sI) := own_sta_keep f242_S_NumberText_Part_INTEGER p247_0 (nsS f242_E_b30.nostat ns0)
    have f247_S_NumberText_Part_FRACTION : Sta Z T247.heap sN1 "FRACTION" sN2 (.ref sF) := own_sta_keep f242_S_NumberText_Part_FRACTION p247_0 (nsS f242_E_b30.nostat ns0)
    have f247_S_NumberText_Part_BROKEN : Sta Z T247.heap sN1 "BROKEN" sN2 (.ref sB) := own_sta_keep f242_S_NumberText_Part_BROKEN p247_0 (nsS f242_E_b30.nostat ns0)
    have f247_A_b7 : Arv Z T247.heap b7 k7 .char (4 : Int32) [(.int c0), (.int c1), (.int c2), (.int c3)] (.int (0 : Int32)) := f242_A_b7.keep p247_0 (ninS ne_b7_b30 nin0)
    have f247_E_b30 : Exa Z T247.heap b30 sN0 := f242_E_b30.keep p247_0
    have z247 : n0 ≤ T247.heap.size := Nat.le_trans z242 p247_0.1
    have K247 : Keep h0 T247.heap [] := K242.trans p247_0 (allS (Or.inr sz_b30) all0)
    have R248 : ∀ t, Steps p.tables e below (T247.setTop (mkF m 126 #[iv p0, iv p1, iv p2, iv p3, iv p4, iv ii, iv (4 : Int32), rv b7, rv b30, .unset, .unset, .unset, .unset, .unset] [])) t → Steps p.tables e below (s₁.setTop f0) t := fun t k => R246 t (st247.trans k)
    obtain ⟨s2, es2⟩ : ∃ z : Nat, z = (own_nx s1 c2 ii) := ⟨_, rfl⟩
    obtain ⟨d2, ed2⟩ : ∃ z : Int32, z = (own_dr s1 c2 d1) := ⟨_, rfl⟩
    have fd2_ : Fld Z T247.heap b30 sN0 "digitRead" "Z" (.int d2) := by rw [ed2]; exact p247_4
    have fp2_ : Fld Z T247.heap b30 sN0 "part" sN2 (.ref (own_ad sS sI sF sB s2)) := by rw [es2]; exact p247_2
    have hs2_ : s2 < 4 := by rw [es2]; exact own_nx4 _ _ _
    have R249 : ∀ t, Steps p.tables e below (T247.setTop (mkF m 137 #[iv p0, iv p1, iv p2, iv p3, iv p4, iv ii, iv (4 : Int32), rv b7, rv b30, .unset, .unset, .unset, .unset, .unset] [(.int (3 : Int32)), (.ref b7), (.ref b30)])) t → Steps p.tables e below (s₁.setTop f0) t := fun t k => R248 t (by
      show Steps p.tables e below (T247.setTop (mkF m 126 #[iv p0, iv p1, iv p2, iv p3, iv p4, iv ii, iv (4 : Int32), rv b7, rv b30, .unset, .unset, .unset, .unset, .unset] [])) _
      refine XS.iload X247.here hx rfl (hb hby at_126) rfl  ?_
      refine XS.iconst X247.here hx rfl (hb hby at_128) ?_
      show Steps p.tables e below (T247.setTop (mkF m 129 #[iv p0, iv p1, iv p2, iv p3, iv p4, iv ii, iv (4 : Int32), rv b7, rv b30, .unset, .unset, .unset, .unset, .unset] [(.int (3 : Int32)), (.int (4 : Int32))])) _
      refine XS.icmpNo X247.here hx rfl (hb hby at_129) rfl (tlt (by decide : (3 : Int32) < (4 : Int32))).2.2.2 ?_
      refine XS.aload X247.here hx rfl (hb hby at_132) rfl rfl ?_
      show Steps p.tables e below (T247.setTop (mkF m 134 #[iv p0, iv p1, iv p2, iv p3, iv p4, iv ii, iv (4 : Int32), rv b7, rv b30, .unset, .unset, .unset, .unset, .unset] [(.ref b30)])) _
      refine XS.aload X247.here hx rfl (hb hby at_134) rfl rfl ?_
      refine XS.iconst X247.here hx rfl (hb hby at_136) ?_
      exact k)
    obtain ⟨cl250, Ar250, q250, S250, n250_, H250, G250⟩ := id f247_A_b7
    have hin250 : ¬ ((3 : Int32) < 0 ∨ cl250.slots.size ≤ ((3 : Int32)).toNatClampNeg) := inb_of S250 ⟨by decide, by decide⟩
    have hat250 : cl250.slots[((3 : Int32)).toNatClampNeg]? = some (.int c3) := Has.at H250 hin250 rfl
    have R251 : ∀ t, Steps p.tables e below (T247.setTop (mkF m 138 #[iv p0, iv p1, iv p2, iv p3, iv p4, iv ii, iv (4 : Int32), rv b7, rv b30, .unset, .unset, .unset, .unset, .unset] [(.int c3), (.ref b30)])) t → Steps p.tables e below (s₁.setTop f0) t := fun t k => R249 t (X247.caload hx (j := (3 : Int32)) (v := (.int c3)) Ar250.1 (State.isArrayOf_alike hZ.alike Ar250.2.1) Ar250.2.2 hin250 hat250 (g := (mkF m 137 #[iv p0, iv p1, iv p2, iv p3, iv p4, iv ii, iv (4 : Int32), rv b7, rv b30, .unset, .unset, .unset, .unset, .unset] [(.int (3 : Int32)), (.ref b7), (.ref b30)])) rfl rfl (hb hby at_137) _ k)
    obtain ⟨cq252, kq252, q252a, q252b, q252c⟩ := isOf hZ rfl f247_E_b30
    obtain ⟨_, _, ⟨T252, L252, k252, n252⟩, -, X252, ⟨Lc252, hQ252, l252, y252, z252⟩, st252⟩ := X247.virtualBack hx (y := (⟨sN0, "take", "(C)V"⟩ : MethodName)) (z := (⟨sN0, "take", "(C)V"⟩ : MethodName)) hown (mvT hZ (hw _ (List.mem_of_getElem? (i := 51) rfl))) (mvT hZ (hw _ (List.mem_of_getElem? (i := 52) rfl))) (notFace_of_selects (args := #[]) (mvT hZ (hw _ (List.mem_of_getElem? (i := 54) rfl)))) (mvT hZ (hw _ (List.mem_of_getElem? (i := 54) rfl))) (mvT hZ (hw _ (List.mem_of_getElem? (i := 53) rfl))) (by decide) (backOf (W := 0) (rmTake l Z a0 hw [] b30 c3 s2 ii ng2_247 d2 id2_247 fd2_247 pz2_247 us2_247 sS sI sF sB (3 : Int) T247.heap n0 z247 f247_E_b30 g_b30 f247_S_NumberText_Part_SIGN f247_S_NumberText_Part_INTEGER f247_S_NumberText_Part_FRACTION f247_S_NumberText_Part_BROKEN ne_sS_sI ne_sS_sF ne_sS_sB ne_sI_sF ne_sI_sB ne_sF_sB hs2_ (by decide) p247_9 p247_1 fp2_ p247_3 fd2_ p247_5 p247_6 p247_7 p247_8) hZ (hw _ (List.mem_of_getElem? (i := 55) rfl)) (hw _ (List.mem_of_getElem? (i := 7) rfl)) (by decide) (by decide)) q252a q252c (g := (mkF m 138 #[iv p0, iv p1, iv p2, iv p3, iv p4, iv ii, iv (4 : Int32), rv b7, rv b30, .unset, .unset, .unset, .unset, .unset] [(.int c3), (.ref b30)])) rfl (by rw [hml]; rfl) (Steps.refl _) (argsL := [(.int c3)]) (rest := []) (lenOf pd_10 rfl) rfl (by show 2 * 0 + _ ≤ _; exact Nat.le_of_eq rfl) (hb hby at_138) (fun _ _ => ⟨rfl, rfl, (by decide : 2 + 0 ≤ _), (by decide : 12 + 0 ≤ _)⟩)
    dsimp only [Pt.U, Pt.locs, Pt.cells, Pt.slots] at X252 l252 y252 z252 st252 hQ252
    subst l252 y252 z252
    obtain ⟨ng2_252, id2_252, fd2_252, pz2_252, us2_252, rfl, N252q, p252_0, p252_1, p252_2, p252_3, p252_4, p252_5, p252_6, p252_7, p252_8, p252_9⟩ := hQ252
    have N252 := Fr.app N247 N252q
    have f252_S_SimpleType_Form_INTEGER : Sta Z T252.heap sN4 "INTEGER" sN3 (.ref fI) := own_sta_keep f247_S_SimpleType_Form_INTEGER p252_0 (nsS f247_E_b30.nostat ns0)
    have f252_S_SimpleType_Form_DECIMAL : Sta Z T252.heap sN4 "DECIMAL" sN3 (.ref fD) := own_sta_keep f247_S_SimpleType_Form_DECIMAL p252_0 (nsS f247_E_b30.nostat ns0)
    have f252_S_NumberText_Part_SIGN : Sta Z T252.heap sN1 "SIGN" sN2 (.ref sS) := own_sta_keep f247_S_NumberText_Part_SIGN p252_0 (nsS f247_E_b30.nostat ns0)
    have f252_S_NumberText_Part_INTEGER : Sta Z T252.heap sN1 "INTEGER" sN2 (.ref sI) := own_sta_keep f247_S_NumberText_Part_INTEGER p252_0 (nsS f247_E_b30.nostat ns0)
    have f252_S_NumberText_Part_FRACTION : Sta Z T252.heap sN1 "FRACTION" sN2 (.ref sF) := own_sta_keep f247_S_NumberText_Part_FRACTION p252_0 (nsS f247_E_b30.nostat ns0)
    have f252_S_NumberText_Part_BROKEN : Sta Z T252.heap sN1 "BROKEN" sN2 (.ref sB) := own_sta_keep f247_S_NumberText_Part_BROKEN p252_0 (nsS f247_E_b30.nostat ns0)
    have f252_A_b7 : Arv Z T252.heap b7 k7 .char (4 : Int32) [(.int c0), (.int c1), (.int c2), (.int c3)] (.int (0 : Int32)) := f247_A_b7.keep p252_0 (ninS ne_b7_b30 nin0)
    have f252_E_b30 : Exa Z T252.heap b30 sN0 := f247_E_b30.keep p252_0
    have z252 : n0 ≤ T252.heap.size := Nat.le_trans z247 p252_0.1
    have K252 : Keep h0 T252.heap [] := K247.trans p252_0 (allS (Or.inr sz_b30) all0)
    have R253 : ∀ t, Steps p.tables e below (T252.setTop (mkF m 141 #[iv p0, iv p1, iv p2, iv p3, iv p4, iv ii, iv (4 : Int32), rv b7, rv b30, .unset, .unset, .unset, .unset, .unset] [])) t → Steps p.tables e below (s₁.setTop f0) t := fun t k => R251 t (st252.trans k)
    obtain ⟨s3, es3⟩ : ∃ z : Nat, z = (own_nx s2 c3 ii) := ⟨_, rfl⟩
    obtain ⟨d3, ed3⟩ : ∃ z : Int32, z = (own_dr s2 c3 d2) := ⟨_, rfl⟩
    have fd3_ : Fld Z T252.heap b30 sN0 "digitRead" "Z" (.int d3) := by rw [ed3]; exact p252_4
    have fp3_ : Fld Z T252.heap b30 sN0 "part" sN2 (.ref (own_ad sS sI sF sB s3)) := by rw [es3]; exact p252_2
    have hs3_ : s3 < 4 := by rw [es3]; exact own_nx4 _ _ _
    have R254 : ∀ t, Steps p.tables e below (T252.setTop (mkF m 143 #[iv p0, iv p1, iv p2, iv p3, iv p4, iv ii, iv (4 : Int32), rv b7, rv b30, .unset, .unset, .unset, .unset, .unset] [(.ref b30)])) t → Steps p.tables e below (s₁.setTop f0) t := fun t k => R253 t (by
      show Steps p.tables e below (T252.setTop (mkF m 141 #[iv p0, iv p1, iv p2, iv p3, iv p4, iv ii, iv (4 : Int32), rv b7, rv b30, .unset, .unset, .unset, .unset, .unset] [])) _
      refine XS.aload X252.here hx rfl (hb hby at_141) rfl rfl ?_
      exact k)
    obtain ⟨cq255, kq255, q255a, q255b, q255c⟩ := isOf hZ rfl f252_E_b30
    obtain ⟨_, _, ⟨T255, L255, k255, n255⟩, -, X255, ⟨Lc255, hQ255, l255, y255, z255⟩, st255⟩ := X252.virtualBack hx (y := (⟨sN0, "wellFormed", "()Z"⟩ : MethodName)) (z := (⟨sN0, "wellFormed", "()Z"⟩ : MethodName)) hown (mvT hZ (hw _ (List.mem_of_getElem? (i := 43) rfl))) (mvT hZ (hw _ (List.mem_of_getElem? (i := 44) rfl))) (notFace_of_selects (args := #[]) (mvT hZ (hw _ (List.mem_of_getElem? (i := 46) rfl)))) (mvT hZ (hw _ (List.mem_of_getElem? (i := 46) rfl))) (mvT hZ (hw _ (List.mem_of_getElem? (i := 45) rfl))) (by decide) (backOf (W := 0) (rmWf l Z a0 hw [] b30 s3 d3 sS sI sF sB T252.heap n0 z252 f252_S_NumberText_Part_BROKEN ne_sS_sB ne_sI_sB ne_sF_sB hs3_ fp3_ fd3_) hZ (hw _ (List.mem_of_getElem? (i := 47) rfl)) (hw _ (List.mem_of_getElem? (i := 7) rfl)) (by decide) (by decide)) q255a q255c (g := (mkF m 143 #[iv p0, iv p1, iv p2, iv p3, iv p4, iv ii, iv (4 : Int32), rv b7, rv b30, .unset, .unset, .unset, .unset, .unset] [(.ref b30)])) rfl (by rw [hml]; rfl) (Steps.refl _) (argsL := []) (rest := []) (lenOf pd_9 rfl) rfl (by show 2 * 0 + _ ≤ _; exact Nat.le_of_eq rfl) (hb hby at_143) (fun _ _ => ⟨rfl, rfl, (by decide : 2 + 0 ≤ _), (by decide : 12 + 0 ≤ _)⟩)
    dsimp only [Pt.U, Pt.locs, Pt.cells, Pt.slots] at X255 l255 y255 z255 st255 hQ255
    subst l255 y255 z255
    obtain ⟨rfl, N255q, p255_0⟩ := hQ255
    have N255 := Fr.app N252 N255q
    have R256 : ∀ t, Steps p.tables e below (T255.setTop (mkF m 146 #[iv p0, iv p1, iv p2, iv p3, iv p4, iv ii, iv (4 : Int32), rv b7, rv b30, .unset, .unset, .unset, .unset, .unset] [(.int (own_i (own_wf s3 d3)))])) t → Steps p.tables e below (s₁.setTop f0) t := fun t k => R254 t (st255.trans k)
    have R257 : ∀ t, Steps p.tables e below (T255.setTop (mkF m 170 #[iv p0, iv p1, iv p2, iv p3, iv p4, iv ii, iv (4 : Int32), rv b7, rv b30, iv (own_i (own_wf s3 d3)), iv (1 : Int32), iv (0 : Int32), iv (0 : Int32), .unset] [(.int (0 : Int32)), (.ref b7)])) t → Steps p.tables e below (s₁.setTop f0) t := fun t k => R256 t (by
      show Steps p.tables e below (T255.setTop (mkF m 146 #[iv p0, iv p1, iv p2, iv p3, iv p4, iv ii, iv (4 : Int32), rv b7, rv b30, .unset, .unset, .unset, .unset, .unset] [(.int (own_i (own_wf s3 d3)))])) _
      refine XS.istore X255.here hx rfl (hb hby at_146) rfl (l' := #[iv p0, iv p1, iv p2, iv p3, iv p4, iv ii, iv (4 : Int32), rv b7, rv b30, iv (own_i (own_wf s3 d3)), .unset, .unset, .unset, .unset]) rfl ?_
      refine XS.iconst X255.here hx rfl (hb hby at_148) ?_
      show Steps p.tables e below (T255.setTop (mkF m 149 #[iv p0, iv p1, iv p2, iv p3, iv p4, iv ii, iv (4 : Int32), rv b7, rv b30, iv (own_i (own_wf s3 d3)), .unset, .unset, .unset, .unset] [(.int (1 : Int32))])) _
      refine XS.istore X255.here hx rfl (hb hby at_149) rfl (l' := #[iv p0, iv p1, iv p2, iv p3, iv p4, iv ii, iv (4 : Int32), rv b7, rv b30, iv (own_i (own_wf s3 d3)), iv (1 : Int32), .unset, .unset, .unset]) rfl ?_
      refine XS.iconst X255.here hx rfl (hb hby at_151) ?_
      show Steps p.tables e below (T255.setTop (mkF m 152 #[iv p0, iv p1, iv p2, iv p3, iv p4, iv ii, iv (4 : Int32), rv b7, rv b30, iv (own_i (own_wf s3 d3)), iv (1 : Int32), .unset, .unset, .unset] [(.int (0 : Int32))])) _
      refine XS.istore X255.here hx rfl (hb hby at_152) rfl (l' := #[iv p0, iv p1, iv p2, iv p3, iv p4, iv ii, iv (4 : Int32), rv b7, rv b30, iv (own_i (own_wf s3 d3)), iv (1 : Int32), iv (0 : Int32), .unset, .unset]) rfl ?_
      refine XS.iconst X255.here hx rfl (hb hby at_154) ?_
      show Steps p.tables e below (T255.setTop (mkF m 155 #[iv p0, iv p1, iv p2, iv p3, iv p4, iv ii, iv (4 : Int32), rv b7, rv b30, iv (own_i (own_wf s3 d3)), iv (1 : Int32), iv (0 : Int32), .unset, .unset] [(.int (0 : Int32))])) _
      refine XS.istore X255.here hx rfl (hb hby at_155) rfl (l' := #[iv p0, iv p1, iv p2, iv p3, iv p4, iv ii, iv (4 : Int32), rv b7, rv b30, iv (own_i (own_wf s3 d3)), iv (1 : Int32), iv (0 : Int32), iv (0 : Int32), .unset]) rfl ?_
      refine XS.iload X255.here hx rfl (hb hby at_157) rfl  ?_
      show Steps p.tables e below (T255.setTop (mkF m 159 #[iv p0, iv p1, iv p2, iv p3, iv p4, iv ii, iv (4 : Int32), rv b7, rv b30, iv (own_i (own_wf s3 d3)), iv (1 : Int32), iv (0 : Int32), iv (0 : Int32), .unset] [(.int (4 : Int32))])) _
      refine XS.ifNo X255.here hx rfl (hb hby at_159) rfl ((if0 _ _).trans (tlt (by decide : (0 : Int32) < (4 : Int32))).2.2.2) ?_
      refine XS.iload X255.here hx rfl (hb hby at_162) rfl  ?_
      show Steps p.tables e below (T255.setTop (mkF m 164 #[iv p0, iv p1, iv p2, iv p3, iv p4, iv ii, iv (4 : Int32), rv b7, rv b30, iv (own_i (own_wf s3 d3)), iv (1 : Int32), iv (0 : Int32), iv (0 : Int32), .unset] [(.int (1 : Int32))])) _
      refine XS.ifNo X255.here hx rfl (hb hby at_164) rfl ((if0 _ _).trans (feq (by decide : ¬ ((1 : Int32) = (0 : Int32)))).1) ?_
      refine XS.aload X255.here hx rfl (hb hby at_167) rfl rfl ?_
      show Steps p.tables e below (T255.setTop (mkF m 169 #[iv p0, iv p1, iv p2, iv p3, iv p4, iv ii, iv (4 : Int32), rv b7, rv b30, iv (own_i (own_wf s3 d3)), iv (1 : Int32), iv (0 : Int32), iv (0 : Int32), .unset] [(.ref b7)])) _
      refine XS.iconst X255.here hx rfl (hb hby at_169) ?_
      exact k)
    obtain ⟨cl258, Ar258, q258, S258, n258_, H258, G258⟩ := id f252_A_b7
    have hin258 : ¬ ((0 : Int32) < 0 ∨ cl258.slots.size ≤ ((0 : Int32)).toNatClampNeg) := inb_of S258 ⟨by decide, by decide⟩
    have hat258 : cl258.slots[((0 : Int32)).toNatClampNeg]? = some (.int c0) := Has.at H258 hin258 rfl
    have R259 : ∀ t, Steps p.tables e below (T255.setTop (mkF m 171 #[iv p0, iv p1, iv p2, iv p3, iv p4, iv ii, iv (4 : Int32), rv b7, rv b30, iv (own_i (own_wf s3 d3)), iv (1 : Int32), iv (0 : Int32), iv (0 : Int32), .unset] [(.int c0)])) t → Steps p.tables e below (s₁.setTop f0) t := fun t k => R257 t (X255.caload hx (j := (0 : Int32)) (v := (.int c0)) (by rw [p255_0]; exact Ar258.1) (State.isArrayOf_alike hZ.alike Ar258.2.1) Ar258.2.2 hin258 hat258 (g := (mkF m 170 #[iv p0, iv p1, iv p2, iv p3, iv p4, iv ii, iv (4 : Int32), rv b7, rv b30, iv (own_i (own_wf s3 d3)), iv (1 : Int32), iv (0 : Int32), iv (0 : Int32), .unset] [(.int (0 : Int32)), (.ref b7)])) rfl rfl (hb hby at_170) _ k)
    have R260 : ∀ t, Steps p.tables e below (T255.setTop (mkF m 172 #[iv p0, iv p1, iv p2, iv p3, iv p4, iv ii, iv (4 : Int32), rv b7, rv b30, iv (own_i (own_wf s3 d3)), iv (1 : Int32), iv (0 : Int32), iv (0 : Int32), .unset] [(.int (0 : Int32)), (.int c0)])) t → Steps p.tables e below (s₁.setTop f0) t := fun t k => R259 t (by
      show Steps p.tables e below (T255.setTop (mkF m 171 #[iv p0, iv p1, iv p2, iv p3, iv p4, iv ii, iv (4 : Int32), rv b7, rv b30, iv (own_i (own_wf s3 d3)), iv (1 : Int32), iv (0 : Int32), iv (0 : Int32), .unset] [(.int c0)])) _
      refine XS.iconst X255.here hx rfl (hb hby at_171) ?_
      exact k)
    obtain ⟨_, _, ⟨T261, L261, k261, n261⟩, -, X261, ⟨Lc261, hQ261, l261, y261, z261⟩, st261⟩ := Jvm.LawKit.callS X255 hx (y := (⟨sN5, "allowed", "(CI)Z"⟩ : MethodName)) hown (mvT hZ (hw _ (List.mem_of_getElem? (i := 73) rfl))) (mvT hZ (hw _ (List.mem_of_getElem? (i := 74) rfl))) (mvT hZ (hw _ (List.mem_of_getElem? (i := 3) rfl))) (mvT hZ (hw _ (List.mem_of_getElem? (i := 75) rfl))) (by decide) (backOf (W := 0) (rmAll l Z a0 hw [] c0 (0 : Int32) T252.heap n0 z252) hZ (hw _ (List.mem_of_getElem? (i := 75) rfl)) (hw _ (List.mem_of_getElem? (i := 3) rfl)) (by decide) (by decide)) (g := (mkF m 172 #[iv p0, iv p1, iv p2, iv p3, iv p4, iv ii, iv (4 : Int32), rv b7, rv b30, iv (own_i (own_wf s3 d3)), iv (1 : Int32), iv (0 : Int32), iv (0 : Int32), .unset] [(.int (0 : Int32)), (.int c0)])) rfl (by rw [hml]; rfl) (argsL := [(.int c0), (.int (0 : Int32))]) (rest := []) (lenOf pd_11 rfl) rfl (by show 2 * 0 + _ ≤ _; exact Nat.le_of_eq rfl) (hb hby at_172) (fun _ _ => ⟨rfl, p255_0, (by decide : 2 + 0 ≤ _), (by decide : 12 + 0 ≤ _)⟩)
    dsimp only [Pt.U, Pt.locs, Pt.cells, Pt.slots] at X261 l261 y261 z261 st261 hQ261
    subst l261 y261 z261
    obtain ⟨rfl, N261q, p261_0⟩ := hQ261
    have N261 := Fr.app N255 N261q
    have R262 : ∀ t, Steps p.tables e below (T261.setTop (mkF m 175 #[iv p0, iv p1, iv p2, iv p3, iv p4, iv ii, iv (4 : Int32), rv b7, rv b30, iv (own_i (own_wf s3 d3)), iv (1 : Int32), iv (0 : Int32), iv (0 : Int32), .unset] [(.int (own_i (own_al c0 (0 : Int32))))])) t → Steps p.tables e below (s₁.setTop f0) t := fun t k => R260 t (st261 t k)
    have R263 : ∀ t, Steps p.tables e below (T261.setTop (mkF m 183 #[iv p0, iv p1, iv p2, iv p3, iv p4, iv ii, iv (4 : Int32), rv b7, rv b30, iv (own_i (own_wf s3 d3)), iv (1 : Int32), iv (0 : Int32), iv (0 : Int32), .unset] [(.int (own_i (own_al c0 (0 : Int32))))])) t → Steps p.tables e below (s₁.setTop f0) t := by
      intro t k
      refine R262 t ?_
      by_cases hm1 : (own_i (own_al c0 (0 : Int32))) = (0 : Int32)
      · skip
        show Steps p.tables e below (T261.setTop (mkF m 175 #[iv p0, iv p1, iv p2, iv p3, iv p4, iv ii, iv (4 : Int32), rv b7, rv b30, iv (own_i (own_wf s3 d3)), iv (1 : Int32), iv (0 : Int32), iv (0 : Int32), .unset] [(.int (own_i (own_al c0 (0 : Int32))))])) _
        refine XS.ifYes X261.here hx rfl (pc0 := 175) (pc' := 182) rfl (hb hby at_175) rfl ((if0 _ _).trans (teq hm1).1) (by decide) (by decide) ?_
        refine XS.iconst X261.here hx rfl (hb hby at_182) ?_
        have hv : (own_i (own_al c0 (0 : Int32))) = (0 : Int32) := by (try simp only [lw_gt, lw_lt, lw_eq, own_i_eq0, Bool.not_eq_false] at hm1); simp [own_i, hm1]
        rw [hv] at k
        exact k
      · skip
        show Steps p.tables e below (T261.setTop (mkF m 175 #[iv p0, iv p1, iv p2, iv p3, iv p4, iv ii, iv (4 : Int32), rv b7, rv b30, iv (own_i (own_wf s3 d3)), iv (1 : Int32), iv (0 : Int32), iv (0 : Int32), .unset] [(.int (own_i (own_al c0 (0 : Int32))))])) _
        refine XS.ifNo X261.here hx rfl (hb hby at_175) rfl ((if0 _ _).trans (feq hm1).1) ?_
        refine XS.iconst X261.here hx rfl (hb hby at_178) ?_
        show Steps p.tables e below (T261.setTop (mkF m 179 #[iv p0, iv p1, iv p2, iv p3, iv p4, iv ii, iv (4 : Int32), rv b7, rv b30, iv (own_i (own_wf s3 d3)), iv (1 : Int32), iv (0 : Int32), iv (0 : Int32), .unset] [(.int (1 : Int32))])) _
        refine XS.goto X261.here hx rfl (pc0 := 179) (pc' := 183) rfl (hb hby at_179) (by decide) (by decide) ?_
        have hv : (own_i (own_al c0 (0 : Int32))) = (1 : Int32) := by (try simp only [lw_gt, lw_lt, lw_eq, own_i_eq0, Bool.not_eq_false] at hm1); simp [own_i, hm1]
        rw [hv] at k
        exact k
    have R264 : ∀ t, Steps p.tables e below (T261.setTop (mkF m 190 #[iv p0, iv p1, iv p2, iv p3, iv p4, iv ii, iv (4 : Int32), rv b7, rv b30, iv (own_i (own_wf s3 d3)), iv (own_i (own_al c0 (0 : Int32))), iv (0 : Int32), iv (0 : Int32), .unset] [(.int (0 : Int32)), (.ref b7), (.int (0 : Int32))])) t → Steps p.tables e below (s₁.setTop f0) t := fun t k => R263 t (by
      show Steps p.tables e below (T261.setTop (mkF m 183 #[iv p0, iv p1, iv p2, iv p3, iv p4, iv ii, iv (4 : Int32), rv b7, rv b30, iv (own_i (own_wf s3 d3)), iv (1 : Int32), iv (0 : Int32), iv (0 : Int32), .unset] [(.int (own_i (own_al c0 (0 : Int32))))])) _
      refine XS.istore X261.here hx rfl (hb hby at_183) rfl (l' := #[iv p0, iv p1, iv p2, iv p3, iv p4, iv ii, iv (4 : Int32), rv b7, rv b30, iv (own_i (own_wf s3 d3)), iv (own_i (own_al c0 (0 : Int32))), iv (0 : Int32), iv (0 : Int32), .unset]) rfl ?_
      refine XS.iload X261.here hx rfl (hb hby at_185) rfl  ?_
      show Steps p.tables e below (T261.setTop (mkF m 187 #[iv p0, iv p1, iv p2, iv p3, iv p4, iv ii, iv (4 : Int32), rv b7, rv b30, iv (own_i (own_wf s3 d3)), iv (own_i (own_al c0 (0 : Int32))), iv (0 : Int32), iv (0 : Int32), .unset] [(.int (0 : Int32))])) _
      refine XS.aload X261.here hx rfl (hb hby at_187) rfl rfl ?_
      refine XS.iconst X261.here hx rfl (hb hby at_189) ?_
      exact k)
    obtain ⟨cl265, Ar265, q265, S265, n265_, H265, G265⟩ := id f252_A_b7
    have hin265 : ¬ ((0 : Int32) < 0 ∨ cl265.slots.size ≤ ((0 : Int32)).toNatClampNeg) := inb_of S265 ⟨by decide, by decide⟩
    have hat265 : cl265.slots[((0 : Int32)).toNatClampNeg]? = some (.int c0) := Has.at H265 hin265 rfl
    have R266 : ∀ t, Steps p.tables e below (T261.setTop (mkF m 191 #[iv p0, iv p1, iv p2, iv p3, iv p4, iv ii, iv (4 : Int32), rv b7, rv b30, iv (own_i (own_wf s3 d3)), iv (own_i (own_al c0 (0 : Int32))), iv (0 : Int32), iv (0 : Int32), .unset] [(.int c0), (.int (0 : Int32))])) t → Steps p.tables e below (s₁.setTop f0) t := fun t k => R264 t (X261.caload hx (j := (0 : Int32)) (v := (.int c0)) (by rw [p261_0]; exact Ar265.1) (State.isArrayOf_alike hZ.alike Ar265.2.1) Ar265.2.2 hin265 hat265 (g := (mkF m 190 #[iv p0, iv p1, iv p2, iv p3, iv p4, iv ii, iv (4 : Int32), rv b7, rv b30, iv (own_i (own_wf s3 d3)), iv (own_i (own_al c0 (0 : Int32))), iv (0 : Int32), iv (0 : Int32), .unset] [(.int (0 : Int32)), (.ref b7), (.int (0 : Int32))])) rfl rfl (hb hby at_190) _ k)
    obtain ⟨_, _, ⟨T267, L267, k267, n267⟩, -, X267, ⟨Lc267, hQ267, l267, y267, z267⟩, st267⟩ := Jvm.LawKit.callS X261 hx (y := (⟨sN5, "isDigit", "(C)Z"⟩ : MethodName)) hown (mvT hZ (hw _ (List.mem_of_getElem? (i := 76) rfl))) (mvT hZ (hw _ (List.mem_of_getElem? (i := 77) rfl))) (mvT hZ (hw _ (List.mem_of_getElem? (i := 3) rfl))) (mvT hZ (hw _ (List.mem_of_getElem? (i := 78) rfl))) (by decide) (backOf (W := 1) (rmIsd l Z a0 hw [] c0 T252.heap n0 z252) hZ (hw _ (List.mem_of_getElem? (i := 78) rfl)) (hw _ (List.mem_of_getElem? (i := 3) rfl)) (by decide) (by decide)) (g := (mkF m 191 #[iv p0, iv p1, iv p2, iv p3, iv p4, iv ii, iv (4 : Int32), rv b7, rv b30, iv (own_i (own_wf s3 d3)), iv (own_i (own_al c0 (0 : Int32))), iv (0 : Int32), iv (0 : Int32), .unset] [(.int c0), (.int (0 : Int32))])) rfl (by rw [hml]; rfl) (argsL := [(.int c0)]) (rest := [(.int (0 : Int32))]) (lenOf pd_5 rfl) rfl (by show 2 * 0 + _ ≤ _; exact Nat.le_of_eq rfl) (hb hby at_191) (fun _ _ => ⟨rfl, p261_0, (by decide : 2 + 0 ≤ _), (by decide : 12 + 0 ≤ _)⟩)
    dsimp only [Pt.U, Pt.locs, Pt.cells, Pt.slots] at X267 l267 y267 z267 st267 hQ267
    subst l267 y267 z267
    obtain ⟨rfl, N267q, p267_0⟩ := hQ267
    have N267 := Fr.app N261 N267q
    have R268 : ∀ t, Steps p.tables e below (T267.setTop (mkF m 194 #[iv p0, iv p1, iv p2, iv p3, iv p4, iv ii, iv (4 : Int32), rv b7, rv b30, iv (own_i (own_wf s3 d3)), iv (own_i (own_al c0 (0 : Int32))), iv (0 : Int32), iv (0 : Int32), .unset] [(.int (own_i (own_D c0))), (.int (0 : Int32))])) t → Steps p.tables e below (s₁.setTop f0) t := fun t k => R266 t (st267 t k)
    have R269 : ∀ t, Steps p.tables e below (T267.setTop (mkF m 202 #[iv p0, iv p1, iv p2, iv p3, iv p4, iv ii, iv (4 : Int32), rv b7, rv b30, iv (own_i (own_wf s3 d3)), iv (own_i (own_al c0 (0 : Int32))), iv (0 : Int32), iv (0 : Int32), .unset] [(.int (own_i (own_D c0))), (.int (0 : Int32))])) t → Steps p.tables e below (s₁.setTop f0) t := by
      intro t k
      refine R268 t ?_
      by_cases hm1 : (own_i (own_D c0)) = (0 : Int32)
      · skip
        show Steps p.tables e below (T267.setTop (mkF m 194 #[iv p0, iv p1, iv p2, iv p3, iv p4, iv ii, iv (4 : Int32), rv b7, rv b30, iv (own_i (own_wf s3 d3)), iv (own_i (own_al c0 (0 : Int32))), iv (0 : Int32), iv (0 : Int32), .unset] [(.int (own_i (own_D c0))), (.int (0 : Int32))])) _
        refine XS.ifYes X267.here hx rfl (pc0 := 194) (pc' := 201) rfl (hb hby at_194) rfl ((if0 _ _).trans (teq hm1).1) (by decide) (by decide) ?_
        refine XS.iconst X267.here hx rfl (hb hby at_201) ?_
        have hv : (own_i (own_D c0)) = (0 : Int32) := by (try simp only [lw_gt, lw_lt, lw_eq, own_i_eq0, Bool.not_eq_false] at hm1); simp [own_i, hm1]
        rw [hv] at k
        exact k
      · skip
        show Steps p.tables e below (T267.setTop (mkF m 194 #[iv p0, iv p1, iv p2, iv p3, iv p4, iv ii, iv (4 : Int32), rv b7, rv b30, iv (own_i (own_wf s3 d3)), iv (own_i (own_al c0 (0 : Int32))), iv (0 : Int32), iv (0 : Int32), .unset] [(.int (own_i (own_D c0))), (.int (0 : Int32))])) _
        refine XS.ifNo X267.here hx rfl (hb hby at_194) rfl ((if0 _ _).trans (feq hm1).1) ?_
        refine XS.iconst X267.here hx rfl (hb hby at_197) ?_
        show Steps p.tables e below (T267.setTop (mkF m 198 #[iv p0, iv p1, iv p2, iv p3, iv p4, iv ii, iv (4 : Int32), rv b7, rv b30, iv (own_i (own_wf s3 d3)), iv (own_i (own_al c0 (0 : Int32))), iv (0 : Int32), iv (0 : Int32), .unset] [(.int (1 : Int32)), (.int (0 : Int32))])) _
        refine XS.goto X267.here hx rfl (pc0 := 198) (pc' := 202) rfl (hb hby at_198) (by decide) (by decide) ?_
        have hv : (own_i (own_D c0)) = (1 : Int32) := by (try simp only [lw_gt, lw_lt, lw_eq, own_i_eq0, Bool.not_eq_false] at hm1); simp [own_i, hm1]
        rw [hv] at k
        exact k
    have R270 : ∀ t, Steps p.tables e below (T267.setTop (mkF m 210 #[iv p0, iv p1, iv p2, iv p3, iv p4, iv ii, iv (4 : Int32), rv b7, rv b30, iv (own_i (own_wf s3 d3)), iv (own_i (own_al c0 (0 : Int32))), iv ((0 : Int32) + (own_i (own_D c0))), iv (0 : Int32), .unset] [(.int (0 : Int32)), (.ref b7), (.int (0 : Int32))])) t → Steps p.tables e below (s₁.setTop f0) t := fun t k => R269 t (by
      show Steps p.tables e below (T267.setTop (mkF m 202 #[iv p0, iv p1, iv p2, iv p3, iv p4, iv ii, iv (4 : Int32), rv b7, rv b30, iv (own_i (own_wf s3 d3)), iv (own_i (own_al c0 (0 : Int32))), iv (0 : Int32), iv (0 : Int32), .unset] [(.int (own_i (own_D c0))), (.int (0 : Int32))])) _
      refine XS.iadd X267.here hx rfl (hb hby at_202) rfl ?_
      refine XS.istore X267.here hx rfl (hb hby at_203) rfl (l' := #[iv p0, iv p1, iv p2, iv p3, iv p4, iv ii, iv (4 : Int32), rv b7, rv b30, iv (own_i (own_wf s3 d3)), iv (own_i (own_al c0 (0 : Int32))), iv ((0 : Int32) + (own_i (own_D c0))), iv (0 : Int32), .unset]) rfl ?_
      show Steps p.tables e below (T267.setTop (mkF m 205 #[iv p0, iv p1, iv p2, iv p3, iv p4, iv ii, iv (4 : Int32), rv b7, rv b30, iv (own_i (own_wf s3 d3)), iv (own_i (own_al c0 (0 : Int32))), iv ((0 : Int32) + (own_i (own_D c0))), iv (0 : Int32), .unset] [])) _
      refine XS.iload X267.here hx rfl (hb hby at_205) rfl  ?_
      refine XS.aload X267.here hx rfl (hb hby at_207) rfl rfl ?_
      show Steps p.tables e below (T267.setTop (mkF m 209 #[iv p0, iv p1, iv p2, iv p3, iv p4, iv ii, iv (4 : Int32), rv b7, rv b30, iv (own_i (own_wf s3 d3)), iv (own_i (own_al c0 (0 : Int32))), iv ((0 : Int32) + (own_i (own_D c0))), iv (0 : Int32), .unset] [(.ref b7), (.int (0 : Int32))])) _
      refine XS.iconst X267.here hx rfl (hb hby at_209) ?_
      exact k)
    obtain ⟨cl271, Ar271, q271, S271, n271_, H271, G271⟩ := id f252_A_b7
    have hin271 : ¬ ((0 : Int32) < 0 ∨ cl271.slots.size ≤ ((0 : Int32)).toNatClampNeg) := inb_of S271 ⟨by decide, by decide⟩
    have hat271 : cl271.slots[((0 : Int32)).toNatClampNeg]? = some (.int c0) := Has.at H271 hin271 rfl
    have R272 : ∀ t, Steps p.tables e below (T267.setTop (mkF m 211 #[iv p0, iv p1, iv p2, iv p3, iv p4, iv ii, iv (4 : Int32), rv b7, rv b30, iv (own_i (own_wf s3 d3)), iv (own_i (own_al c0 (0 : Int32))), iv ((0 : Int32) + (own_i (own_D c0))), iv (0 : Int32), .unset] [(.int c0), (.int (0 : Int32))])) t → Steps p.tables e below (s₁.setTop f0) t := fun t k => R270 t (X267.caload hx (j := (0 : Int32)) (v := (.int c0)) (by rw [p267_0]; exact Ar271.1) (State.isArrayOf_alike hZ.alike Ar271.2.1) Ar271.2.2 hin271 hat271 (g := (mkF m 210 #[iv p0, iv p1, iv p2, iv p3, iv p4, iv ii, iv (4 : Int32), rv b7, rv b30, iv (own_i (own_wf s3 d3)), iv (own_i (own_al c0 (0 : Int32))), iv ((0 : Int32) + (own_i (own_D c0))), iv (0 : Int32), .unset] [(.int (0 : Int32)), (.ref b7), (.int (0 : Int32))])) rfl rfl (hb hby at_210) _ k)
    have R273 : ∀ t, Steps p.tables e below (T267.setTop (mkF m 213 #[iv p0, iv p1, iv p2, iv p3, iv p4, iv ii, iv (4 : Int32), rv b7, rv b30, iv (own_i (own_wf s3 d3)), iv (own_i (own_al c0 (0 : Int32))), iv ((0 : Int32) + (own_i (own_D c0))), iv (0 : Int32), .unset] [(.int (46 : Int32)), (.int c0), (.int (0 : Int32))])) t → Steps p.tables e below (s₁.setTop f0) t := fun t k => R272 t (by
      show Steps p.tables e below (T267.setTop (mkF m 211 #[iv p0, iv p1, iv p2, iv p3, iv p4, iv ii, iv (4 : Int32), rv b7, rv b30, iv (own_i (own_wf s3 d3)), iv (own_i (own_al c0 (0 : Int32))), iv ((0 : Int32) + (own_i (own_D c0))), iv (0 : Int32), .unset] [(.int c0), (.int (0 : Int32))])) _
      refine XS.bipush X267.here hx rfl (hb hby at_211) ?_
      exact k)
    have R274 : ∀ t, Steps p.tables e below (T267.setTop (mkF m 221 #[iv p0, iv p1, iv p2, iv p3, iv p4, iv ii, iv (4 : Int32), rv b7, rv b30, iv (own_i (own_wf s3 d3)), iv (own_i (own_al c0 (0 : Int32))), iv ((0 : Int32) + (own_i (own_D c0))), iv (0 : Int32), .unset] [(.int (own_i (own_P c0))), (.int (0 : Int32))])) t → Steps p.tables e below (s₁.setTop f0) t := by
      intro t k
      refine R273 t ?_
      by_cases hm1 : c0 = (46 : Int32)
      · skip
        show Steps p.tables e below (T267.setTop (mkF m 213 #[iv p0, iv p1, iv p2, iv p3, iv p4, iv ii, iv (4 : Int32), rv b7, rv b30, iv (own_i (own_wf s3 d3)), iv (own_i (own_al c0 (0 : Int32))), iv ((0 : Int32) + (own_i (own_D c0))), iv (0 : Int32), .unset] [(.int (46 : Int32)), (.int c0), (.int (0 : Int32))])) _
        refine XS.icmpNo X267.here hx rfl (hb hby at_213) rfl (teq hm1).2 ?_
        refine XS.iconst X267.here hx rfl (hb hby at_216) ?_
        show Steps p.tables e below (T267.setTop (mkF m 217 #[iv p0, iv p1, iv p2, iv p3, iv p4, iv ii, iv (4 : Int32), rv b7, rv b30, iv (own_i (own_wf s3 d3)), iv (own_i (own_al c0 (0 : Int32))), iv ((0 : Int32) + (own_i (own_D c0))), iv (0 : Int32), .unset] [(.int (1 : Int32)), (.int (0 : Int32))])) _
        refine XS.goto X267.here hx rfl (pc0 := 217) (pc' := 221) rfl (hb hby at_217) (by decide) (by decide) ?_
        have hv : (own_i (own_P c0)) = (1 : Int32) := by (try simp only [lw_gt, lw_lt, lw_eq, own_i_eq0, Bool.not_eq_false] at hm1); simp [own_i, own_P, hm1]
        rw [hv] at k
        exact k
      · skip
        show Steps p.tables e below (T267.setTop (mkF m 213 #[iv p0, iv p1, iv p2, iv p3, iv p4, iv ii, iv (4 : Int32), rv b7, rv b30, iv (own_i (own_wf s3 d3)), iv (own_i (own_al c0 (0 : Int32))), iv ((0 : Int32) + (own_i (own_D c0))), iv (0 : Int32), .unset] [(.int (46 : Int32)), (.int c0), (.int (0 : Int32))])) _
        refine XS.icmpYes X267.here hx rfl (pc0 := 213) (pc' := 220) rfl (hb hby at_213) rfl (feq hm1).2 (by decide) (by decide) ?_
        refine XS.iconst X267.here hx rfl (hb hby at_220) ?_
        have hv : (own_i (own_P c0)) = (0 : Int32) := by (try simp only [lw_gt, lw_lt, lw_eq, own_i_eq0, Bool.not_eq_false] at hm1); simp [own_i, own_P, hm1]
        rw [hv] at k
        exact k
    have R275 : ∀ t, Steps p.tables e below (T267.setTop (mkF m 232 #[iv p0, iv p1, iv p2, iv p3, iv p4, iv ii, iv (4 : Int32), rv b7, rv b30, iv (own_i (own_wf s3 d3)), iv (own_i (own_al c0 (0 : Int32))), iv ((0 : Int32) + (own_i (own_D c0))), iv ((0 : Int32) + (own_i (own_P c0))), .unset] [(.int (own_i (own_al c0 (0 : Int32))))])) t → Steps p.tables e below (s₁.setTop f0) t := fun t k => R274 t (by
      show Steps p.tables e below (T267.setTop (mkF m 221 #[iv p0, iv p1, iv p2, iv p3, iv p4, iv ii, iv (4 : Int32), rv b7, rv b30, iv (own_i (own_wf s3 d3)), iv (own_i (own_al c0 (0 : Int32))), iv ((0 : Int32) + (own_i (own_D c0))), iv (0 : Int32), .unset] [(.int (own_i (own_P c0))), (.int (0 : Int32))])) _
      refine XS.iadd X267.here hx rfl (hb hby at_221) rfl ?_
      refine XS.istore X267.here hx rfl (hb hby at_222) rfl (l' := #[iv p0, iv p1, iv p2, iv p3, iv p4, iv ii, iv (4 : Int32), rv b7, rv b30, iv (own_i (own_wf s3 d3)), iv (own_i (own_al c0 (0 : Int32))), iv ((0 : Int32) + (own_i (own_D c0))), iv ((0 : Int32) + (own_i (own_P c0))), .unset]) rfl ?_
      show Steps p.tables e below (T267.setTop (mkF m 224 #[iv p0, iv p1, iv p2, iv p3, iv p4, iv ii, iv (4 : Int32), rv b7, rv b30, iv (own_i (own_wf s3 d3)), iv (own_i (own_al c0 (0 : Int32))), iv ((0 : Int32) + (own_i (own_D c0))), iv ((0 : Int32) + (own_i (own_P c0))), .unset] [])) _
      refine XS.iload X267.here hx rfl (hb hby at_224) rfl  ?_
      refine XS.iconst X267.here hx rfl (hb hby at_226) ?_
      show Steps p.tables e below (T267.setTop (mkF m 227 #[iv p0, iv p1, iv p2, iv p3, iv p4, iv ii, iv (4 : Int32), rv b7, rv b30, iv (own_i (own_wf s3 d3)), iv (own_i (own_al c0 (0 : Int32))), iv ((0 : Int32) + (own_i (own_D c0))), iv ((0 : Int32) + (own_i (own_P c0))), .unset] [(.int (1 : Int32)), (.int (4 : Int32))])) _
      refine XS.icmpNo X267.here hx rfl (hb hby at_227) rfl (tlt (by decide : (1 : Int32) < (4 : Int32))).2.2.2 ?_
      refine XS.iload X267.here hx rfl (hb hby at_230) rfl  ?_
      exact k)
    obtain ⟨T285, L285, X285, N285, e285, R285⟩ : ∃ (T' : State) (L' : List Loc), Stand p l e room_1 s m #[(.int p0), (.int p1), (.int p2), (.int p3), (.int p4)] below meth c T' L' 2 12 ∧ Fr n0 L' ∧ T'.heap = T252.heap ∧ ∀ t, Steps p.tables e below (T'.setTop (mkF m 251 #[iv p0, iv p1, iv p2, iv p3, iv p4, iv ii, iv (4 : Int32), rv b7, rv b30, iv (own_i (own_wf s3 d3)), iv (own_i (own_al c0 (0 : Int32))), iv ((0 : Int32) + (own_i (own_D c0))), iv ((0 : Int32) + (own_i (own_P c0))), .unset] [(.int (own_i ((own_al c0 (0 : Int32)) && own_al c1 (1 : Int32))))])) t → Steps p.tables e below (s₁.setTop f0) t := by
      by_cases hg8 : (own_i (own_al c0 (0 : Int32))) = (0 : Int32)
      · skip
        have R276 : ∀ t, Steps p.tables e below (T267.setTop (mkF m 251 #[iv p0, iv p1, iv p2, iv p3, iv p4, iv ii, iv (4 : Int32), rv b7, rv b30, iv (own_i (own_wf s3 d3)), iv (own_i (own_al c0 (0 : Int32))), iv ((0 : Int32) + (own_i (own_D c0))), iv ((0 : Int32) + (own_i (own_P c0))), .unset] [(.int (0 : Int32))])) t → Steps p.tables e below (s₁.setTop f0) t := fun t k => R275 t (by
          show Steps p.tables e below (T267.setTop (mkF m 232 #[iv p0, iv p1, iv p2, iv p3, iv p4, iv ii, iv (4 : Int32), rv b7, rv b30, iv (own_i (own_wf s3 d3)), iv (own_i (own_al c0 (0 : Int32))), iv ((0 : Int32) + (own_i (own_D c0))), iv ((0 : Int32) + (own_i (own_P c0))), .unset] [(.int (own_i (own_al c0 (0 : Int32))))])) _
          refine XS.ifYes X267.here hx rfl (pc0 := 232) (pc' := 250) rfl (hb hby at_232) rfl ((if0 _ _).trans (teq hg8).1) (by decide) (by decide) ?_
          refine XS.iconst X267.here hx rfl (hb hby at_250) ?_
          exact k)
        have hv0 : (own_i ((own_al c0 (0 : Int32)) && own_al c1 (1 : Int32))) = (0 : Int32) := by (try simp only [lw_gt, lw_lt, lw_eq, own_i_eq0, Bool.not_eq_false] at hg8); simp [own_i, hg8]
        rw [hv0]
        exact ⟨T267, _, X267, N267, p267_0, R276⟩
      · skip
        have R277 : ∀ t, Steps p.tables e below (T267.setTop (mkF m 238 #[iv p0, iv p1, iv p2, iv p3, iv p4, iv ii, iv (4 : Int32), rv b7, rv b30, iv (own_i (own_wf s3 d3)), iv (own_i (own_al c0 (0 : Int32))), iv ((0 : Int32) + (own_i (own_D c0))), iv ((0 : Int32) + (own_i (own_P c0))), .unset] [(.int (1 : Int32)), (.ref b7)])) t → Steps p.tables e below (s₁.setTop f0) t := fun t k => R275 t (by
          show Steps p.tables e below (T267.setTop (mkF m 232 #[iv p0, iv p1, iv p2, iv p3, iv p4, iv ii, iv (4 : Int32), rv b7, rv b30, iv (own_i (own_wf s3 d3)), iv (own_i (own_al c0 (0 : Int32))), iv ((0 : Int32) + (own_i (own_D c0))), iv ((0 : Int32) + (own_i (own_P c0))), .unset] [(.int (own_i (own_al c0 (0 : Int32))))])) _
          refine XS.ifNo X267.here hx rfl (hb hby at_232) rfl ((if0 _ _).trans (feq hg8).1) ?_
          refine XS.aload X267.here hx rfl (hb hby at_235) rfl rfl ?_
          show Steps p.tables e below (T267.setTop (mkF m 237 #[iv p0, iv p1, iv p2, iv p3, iv p4, iv ii, iv (4 : Int32), rv b7, rv b30, iv (own_i (own_wf s3 d3)), iv (own_i (own_al c0 (0 : Int32))), iv ((0 : Int32) + (own_i (own_D c0))), iv ((0 : Int32) + (own_i (own_P c0))), .unset] [(.ref b7)])) _
          refine XS.iconst X267.here hx rfl (hb hby at_237) ?_
          exact k)
        obtain ⟨cl278, Ar278, q278, S278, n278_, H278, G278⟩ := id f252_A_b7
        have hin278 : ¬ ((1 : Int32) < 0 ∨ cl278.slots.size ≤ ((1 : Int32)).toNatClampNeg) := inb_of S278 ⟨by decide, by decide⟩
        have hat278 : cl278.slots[((1 : Int32)).toNatClampNeg]? = some (.int c1) := Has.at H278 hin278 rfl
        have R279 : ∀ t, Steps p.tables e below (T267.setTop (mkF m 239 #[iv p0, iv p1, iv p2, iv p3, iv p4, iv ii, iv (4 : Int32), rv b7, rv b30, iv (own_i (own_wf s3 d3)), iv (own_i (own_al c0 (0 : Int32))), iv ((0 : Int32) + (own_i (own_D c0))), iv ((0 : Int32) + (own_i (own_P c0))), .unset] [(.int c1)])) t → Steps p.tables e below (s₁.setTop f0) t := fun t k => R277 t (X267.caload hx (j := (1 : Int32)) (v := (.int c1)) (by rw [p267_0]; exact Ar278.1) (State.isArrayOf_alike hZ.alike Ar278.2.1) Ar278.2.2 hin278 hat278 (g := (mkF m 238 #[iv p0, iv p1, iv p2, iv p3, iv p4, iv ii, iv (4 : Int32), rv b7, rv b30, iv (own_i (own_wf s3 d3)), iv (own_i (own_al c0 (0 : Int32))), iv ((0 : Int32) + (own_i (own_D c0))), iv ((0 : Int32) + (own_i (own_P c0))), .unset] [(.int (1 : Int32)), (.ref b7)])) rfl rfl (hb hby at_238) _ k)
        have R280 : ∀ t, Steps p.tables e below (T267.setTop (mkF m 240 #[iv p0, iv p1, iv p2, iv p3, iv p4, iv ii, iv (4 : Int32), rv b7, rv b30, iv (own_i (own_wf s3 d3)), iv (own_i (own_al c0 (0 : Int32))), iv ((0 : Int32) + (own_i (own_D c0))), iv ((0 : Int32) + (own_i (own_P c0))), .unset] [(.int (1 : Int32)), (.int c1)])) t → Steps p.tables e below (s₁.setTop f0) t := fun t k => R279 t (by
          show Steps p.tables e below (T267.setTop (mkF m 239 #[iv p0, iv p1, iv p2, iv p3, iv p4, iv ii, iv (4 : Int32), rv b7, rv b30, iv (own_i (own_wf s3 d3)), iv (own_i (own_al c0 (0 : Int32))), iv ((0 : Int32) + (own_i (own_D c0))), iv ((0 : Int32) + (own_i (own_P c0))), .unset] [(.int c1)])) _
          refine XS.iconst X267.here hx rfl (hb hby at_239) ?_
          exact k)
        obtain ⟨_, _, ⟨T281, L281, k281, n281⟩, -, X281, ⟨Lc281, hQ281, l281, y281, z281⟩, st281⟩ := Jvm.LawKit.callS X267 hx (y := (⟨sN5, "allowed", "(CI)Z"⟩ : MethodName)) hown (mvT hZ (hw _ (List.mem_of_getElem? (i := 73) rfl))) (mvT hZ (hw _ (List.mem_of_getElem? (i := 74) rfl))) (mvT hZ (hw _ (List.mem_of_getElem? (i := 3) rfl))) (mvT hZ (hw _ (List.mem_of_getElem? (i := 75) rfl))) (by decide) (backOf (W := 0) (rmAll l Z a0 hw [] c1 (1 : Int32) T252.heap n0 z252) hZ (hw _ (List.mem_of_getElem? (i := 75) rfl)) (hw _ (List.mem_of_getElem? (i := 3) rfl)) (by decide) (by decide)) (g := (mkF m 240 #[iv p0, iv p1, iv p2, iv p3, iv p4, iv ii, iv (4 : Int32), rv b7, rv b30, iv (own_i (own_wf s3 d3)), iv (own_i (own_al c0 (0 : Int32))), iv ((0 : Int32) + (own_i (own_D c0))), iv ((0 : Int32) + (own_i (own_P c0))), .unset] [(.int (1 : Int32)), (.int c1)])) rfl (by rw [hml]; rfl) (argsL := [(.int c1), (.int (1 : Int32))]) (rest := []) (lenOf pd_11 rfl) rfl (by show 2 * 0 + _ ≤ _; exact Nat.le_of_eq rfl) (hb hby at_240) (fun _ _ => ⟨rfl, p267_0, (by decide : 2 + 0 ≤ _), (by decide : 12 + 0 ≤ _)⟩)
        dsimp only [Pt.U, Pt.locs, Pt.cells, Pt.slots] at X281 l281 y281 z281 st281 hQ281
        subst l281 y281 z281
        obtain ⟨rfl, N281q, p281_0⟩ := hQ281
        have N281 := Fr.app N267 N281q
        have R282 : ∀ t, Steps p.tables e below (T281.setTop (mkF m 243 #[iv p0, iv p1, iv p2, iv p3, iv p4, iv ii, iv (4 : Int32), rv b7, rv b30, iv (own_i (own_wf s3 d3)), iv (own_i (own_al c0 (0 : Int32))), iv ((0 : Int32) + (own_i (own_D c0))), iv ((0 : Int32) + (own_i (own_P c0))), .unset] [(.int (own_i (own_al c1 (1 : Int32))))])) t → Steps p.tables e below (s₁.setTop f0) t := fun t k => R280 t (st281 t k)
        by_cases hg9 : (own_i (own_al c1 (1 : Int32))) = (0 : Int32)
        · skip
          have R283 : ∀ t, Steps p.tables e below (T281.setTop (mkF m 251 #[iv p0, iv p1, iv p2, iv p3, iv p4, iv ii, iv (4 : Int32), rv b7, rv b30, iv (own_i (own_wf s3 d3)), iv (own_i (own_al c0 (0 : Int32))), iv ((0 : Int32) + (own_i (own_D c0))), iv ((0 : Int32) + (own_i (own_P c0))), .unset] [(.int (0 : Int32))])) t → Steps p.tables e below (s₁.setTop f0) t := fun t k => R282 t (by
            show Steps p.tables e below (T281.setTop (mkF m 243 #[iv p0, iv p1, iv p2, iv p3, iv p4, iv ii, iv (4 : Int32), rv b7, rv b30, iv (own_i (own_wf s3 d3)), iv (own_i (own_al c0 (0 : Int32))), iv ((0 : Int32) + (own_i (own_D c0))), iv ((0 : Int32) + (own_i (own_P c0))), .unset] [(.int (own_i (own_al c1 (1 : Int32))))])) _
            refine XS.ifYes X281.here hx rfl (pc0 := 243) (pc' := 250) rfl (hb hby at_243) rfl ((if0 _ _).trans (teq hg9).1) (by decide) (by decide) ?_
            refine XS.iconst X281.here hx rfl (hb hby at_250) ?_
            exact k)
          have hv0 : (own_i ((own_al c0 (0 : Int32)) && own_al c1 (1 : Int32))) = (0 : Int32) := by (try simp only [lw_gt, lw_lt, lw_eq, own_i_eq0, Bool.not_eq_false] at hg8); (try simp only [lw_gt, lw_lt, lw_eq, own_i_eq0, Bool.not_eq_false] at hg9); simp [own_i, hg8, hg9]
          rw [hv0]
          exact ⟨T281, _, X281, N281, p281_0, R283⟩
        · skip
          have R284 : ∀ t, Steps p.tables e below (T281.setTop (mkF m 251 #[iv p0, iv p1, iv p2, iv p3, iv p4, iv ii, iv (4 : Int32), rv b7, rv b30, iv (own_i (own_wf s3 d3)), iv (own_i (own_al c0 (0 : Int32))), iv ((0 : Int32) + (own_i (own_D c0))), iv ((0 : Int32) + (own_i (own_P c0))), .unset] [(.int (1 : Int32))])) t → Steps p.tables e below (s₁.setTop f0) t := fun t k => R282 t (by
            show Steps p.tables e below (T281.setTop (mkF m 243 #[iv p0, iv p1, iv p2, iv p3, iv p4, iv ii, iv (4 : Int32), rv b7, rv b30, iv (own_i (own_wf s3 d3)), iv (own_i (own_al c0 (0 : Int32))), iv ((0 : Int32) + (own_i (own_D c0))), iv ((0 : Int32) + (own_i (own_P c0))), .unset] [(.int (own_i (own_al c1 (1 : Int32))))])) _
            refine XS.ifNo X281.here hx rfl (hb hby at_243) rfl ((if0 _ _).trans (feq hg9).1) ?_
            refine XS.iconst X281.here hx rfl (hb hby at_246) ?_
            show Steps p.tables e below (T281.setTop (mkF m 247 #[iv p0, iv p1, iv p2, iv p3, iv p4, iv ii, iv (4 : Int32), rv b7, rv b30, iv (own_i (own_wf s3 d3)), iv (own_i (own_al c0 (0 : Int32))), iv ((0 : Int32) + (own_i (own_D c0))), iv ((0 : Int32) + (own_i (own_P c0))), .unset] [(.int (1 : Int32))])) _
            refine XS.goto X281.here hx rfl (pc0 := 247) (pc' := 251) rfl (hb hby at_247) (by decide) (by decide) ?_
            exact k)
          have hv0 : (own_i ((own_al c0 (0 : Int32)) && own_al c1 (1 : Int32))) = (1 : Int32) := by (try simp only [lw_gt, lw_lt, lw_eq, own_i_eq0, Bool.not_eq_false] at hg8); (try simp only [lw_gt, lw_lt, lw_eq, own_i_eq0, Bool.not_eq_false] at hg9); simp [own_i, hg8, hg9]
          rw [hv0]
          exact ⟨T281, _, X281, N281, p281_0, R284⟩
    have R286 : ∀ t, Steps p.tables e below (T285.setTop (mkF m 258 #[iv p0, iv p1, iv p2, iv p3, iv p4, iv ii, iv (4 : Int32), rv b7, rv b30, iv (own_i (own_wf s3 d3)), iv (own_i ((own_al c0 (0 : Int32)) && own_al c1 (1 : Int32))), iv ((0 : Int32) + (own_i (own_D c0))), iv ((0 : Int32) + (own_i (own_P c0))), .unset] [(.int (1 : Int32)), (.ref b7), (.int ((0 : Int32) + (own_i (own_D c0))))])) t → Steps p.tables e below (s₁.setTop f0) t := fun t k => R285 t (by
      show Steps p.tables e below (T285.setTop (mkF m 251 #[iv p0, iv p1, iv p2, iv p3, iv p4, iv ii, iv (4 : Int32), rv b7, rv b30, iv (own_i (own_wf s3 d3)), iv (own_i (own_al c0 (0 : Int32))), iv ((0 : Int32) + (own_i (own_D c0))), iv ((0 : Int32) + (own_i (own_P c0))), .unset] [(.int (own_i ((own_al c0 (0 : Int32)) && own_al c1 (1 : Int32))))])) _
      refine XS.istore X285.here hx rfl (hb hby at_251) rfl (l' := #[iv p0, iv p1, iv p2, iv p3, iv p4, iv ii, iv (4 : Int32), rv b7, rv b30, iv (own_i (own_wf s3 d3)), iv (own_i ((own_al c0 (0 : Int32)) && own_al c1 (1 : Int32))), iv ((0 : Int32) + (own_i (own_D c0))), iv ((0 : Int32) + (own_i (own_P c0))), .unset]) rfl ?_
      refine XS.iload X285.here hx rfl (hb hby at_253) rfl  ?_
      show Steps p.tables e below (T285.setTop (mkF m 255 #[iv p0, iv p1, iv p2, iv p3, iv p4, iv ii, iv (4 : Int32), rv b7, rv b30, iv (own_i (own_wf s3 d3)), iv (own_i ((own_al c0 (0 : Int32)) && own_al c1 (1 : Int32))), iv ((0 : Int32) + (own_i (own_D c0))), iv ((0 : Int32) + (own_i (own_P c0))), .unset] [(.int ((0 : Int32) + (own_i (own_D c0))))])) _
      refine XS.aload X285.here hx rfl (hb hby at_255) rfl rfl ?_
      refine XS.iconst X285.here hx rfl (hb hby at_257) ?_
      exact k)
    obtain ⟨cl287, Ar287, q287, S287, n287_, H287, G287⟩ := id f252_A_b7
    have hin287 : ¬ ((1 : Int32) < 0 ∨ cl287.slots.size ≤ ((1 : Int32)).toNatClampNeg) := inb_of S287 ⟨by decide, by decide⟩
    have hat287 : cl287.slots[((1 : Int32)).toNatClampNeg]? = some (.int c1) := Has.at H287 hin287 rfl
    have R288 : ∀ t, Steps p.tables e below (T285.setTop (mkF m 259 #[iv p0, iv p1, iv p2, iv p3, iv p4, iv ii, iv (4 : Int32), rv b7, rv b30, iv (own_i (own_wf s3 d3)), iv (own_i ((own_al c0 (0 : Int32)) && own_al c1 (1 : Int32))), iv ((0 : Int32) + (own_i (own_D c0))), iv ((0 : Int32) + (own_i (own_P c0))), .unset] [(.int c1), (.int ((0 : Int32) + (own_i (own_D c0))))])) t → Steps p.tables e below (s₁.setTop f0) t := fun t k => R286 t (X285.caload hx (j := (1 : Int32)) (v := (.int c1)) (by rw [e285]; exact Ar287.1) (State.isArrayOf_alike hZ.alike Ar287.2.1) Ar287.2.2 hin287 hat287 (g := (mkF m 258 #[iv p0, iv p1, iv p2, iv p3, iv p4, iv ii, iv (4 : Int32), rv b7, rv b30, iv (own_i (own_wf s3 d3)), iv (own_i ((own_al c0 (0 : Int32)) && own_al c1 (1 : Int32))), iv ((0 : Int32) + (own_i (own_D c0))), iv ((0 : Int32) + (own_i (own_P c0))), .unset] [(.int (1 : Int32)), (.ref b7), (.int ((0 : Int32) + (own_i (own_D c0))))])) rfl rfl (hb hby at_258) _ k)
    obtain ⟨_, _, ⟨T289, L289, k289, n289⟩, -, X289, ⟨Lc289, hQ289, l289, y289, z289⟩, st289⟩ := Jvm.LawKit.callS X285 hx (y := (⟨sN5, "isDigit", "(C)Z"⟩ : MethodName)) hown (mvT hZ (hw _ (List.mem_of_getElem? (i := 76) rfl))) (mvT hZ (hw _ (List.mem_of_getElem? (i := 77) rfl))) (mvT hZ (hw _ (List.mem_of_getElem? (i := 3) rfl))) (mvT hZ (hw _ (List.mem_of_getElem? (i := 78) rfl))) (by decide) (backOf (W := 1) (rmIsd l Z a0 hw [] c1 T252.heap n0 z252) hZ (hw _ (List.mem_of_getElem? (i := 78) rfl)) (hw _ (List.mem_of_getElem? (i := 3) rfl)) (by decide) (by decide)) (g := (mkF m 259 #[iv p0, iv p1, iv p2, iv p3, iv p4, iv ii, iv (4 : Int32), rv b7, rv b30, iv (own_i (own_wf s3 d3)), iv (own_i ((own_al c0 (0 : Int32)) && own_al c1 (1 : Int32))), iv ((0 : Int32) + (own_i (own_D c0))), iv ((0 : Int32) + (own_i (own_P c0))), .unset] [(.int c1), (.int ((0 : Int32) + (own_i (own_D c0))))])) rfl (by rw [hml]; rfl) (argsL := [(.int c1)]) (rest := [(.int ((0 : Int32) + (own_i (own_D c0))))]) (lenOf pd_5 rfl) rfl (by show 2 * 0 + _ ≤ _; exact Nat.le_of_eq rfl) (hb hby at_259) (fun _ _ => ⟨rfl, e285, (by decide : 2 + 0 ≤ _), (by decide : 12 + 0 ≤ _)⟩)
    dsimp only [Pt.U, Pt.locs, Pt.cells, Pt.slots] at X289 l289 y289 z289 st289 hQ289
    subst l289 y289 z289
    obtain ⟨rfl, N289q, p289_0⟩ := hQ289
    have N289 := Fr.app N285 N289q
    have R290 : ∀ t, Steps p.tables e below (T289.setTop (mkF m 262 #[iv p0, iv p1, iv p2, iv p3, iv p4, iv ii, iv (4 : Int32), rv b7, rv b30, iv (own_i (own_wf s3 d3)), iv (own_i ((own_al c0 (0 : Int32)) && own_al c1 (1 : Int32))), iv ((0 : Int32) + (own_i (own_D c0))), iv ((0 : Int32) + (own_i (own_P c0))), .unset] [(.int (own_i (own_D c1))), (.int ((0 : Int32) + (own_i (own_D c0))))])) t → Steps p.tables e below (s₁.setTop f0) t := fun t k => R288 t (st289 t k)
    have R291 : ∀ t, Steps p.tables e below (T289.setTop (mkF m 270 #[iv p0, iv p1, iv p2, iv p3, iv p4, iv ii, iv (4 : Int32), rv b7, rv b30, iv (own_i (own_wf s3 d3)), iv (own_i ((own_al c0 (0 : Int32)) && own_al c1 (1 : Int32))), iv ((0 : Int32) + (own_i (own_D c0))), iv ((0 : Int32) + (own_i (own_P c0))), .unset] [(.int (own_i (own_D c1))), (.int ((0 : Int32) + (own_i (own_D c0))))])) t → Steps p.tables e below (s₁.setTop f0) t := by
      intro t k
      refine R290 t ?_
      by_cases hm1 : (own_i (own_D c1)) = (0 : Int32)
      · skip
        show Steps p.tables e below (T289.setTop (mkF m 262 #[iv p0, iv p1, iv p2, iv p3, iv p4, iv ii, iv (4 : Int32), rv b7, rv b30, iv (own_i (own_wf s3 d3)), iv (own_i ((own_al c0 (0 : Int32)) && own_al c1 (1 : Int32))), iv ((0 : Int32) + (own_i (own_D c0))), iv ((0 : Int32) + (own_i (own_P c0))), .unset] [(.int (own_i (own_D c1))), (.int ((0 : Int32) + (own_i (own_D c0))))])) _
        refine XS.ifYes X289.here hx rfl (pc0 := 262) (pc' := 269) rfl (hb hby at_262) rfl ((if0 _ _).trans (teq hm1).1) (by decide) (by decide) ?_
        refine XS.iconst X289.here hx rfl (hb hby at_269) ?_
        have hv : (own_i (own_D c1)) = (0 : Int32) := by (try simp only [lw_gt, lw_lt, lw_eq, own_i_eq0, Bool.not_eq_false] at hm1); simp [own_i, hm1]
        rw [hv] at k
        exact k
      · skip
        show Steps p.tables e below (T289.setTop (mkF m 262 #[iv p0, iv p1, iv p2, iv p3, iv p4, iv ii, iv (4 : Int32), rv b7, rv b30, iv (own_i (own_wf s3 d3)), iv (own_i ((own_al c0 (0 : Int32)) && own_al c1 (1 : Int32))), iv ((0 : Int32) + (own_i (own_D c0))), iv ((0 : Int32) + (own_i (own_P c0))), .unset] [(.int (own_i (own_D c1))), (.int ((0 : Int32) + (own_i (own_D c0))))])) _
        refine XS.ifNo X289.here hx rfl (hb hby at_262) rfl ((if0 _ _).trans (feq hm1).1) ?_
        refine XS.iconst X289.here hx rfl (hb hby at_265) ?_
        show Steps p.tables e below (T289.setTop (mkF m 266 #[iv p0, iv p1, iv p2, iv p3, iv p4, iv ii, iv (4 : Int32), rv b7, rv b30, iv (own_i (own_wf s3 d3)), iv (own_i ((own_al c0 (0 : Int32)) && own_al c1 (1 : Int32))), iv ((0 : Int32) + (own_i (own_D c0))), iv ((0 : Int32) + (own_i (own_P c0))), .unset] [(.int (1 : Int32)), (.int ((0 : Int32) + (own_i (own_D c0))))])) _
        refine XS.goto X289.here hx rfl (pc0 := 266) (pc' := 270) rfl (hb hby at_266) (by decide) (by decide) ?_
        have hv : (own_i (own_D c1)) = (1 : Int32) := by (try simp only [lw_gt, lw_lt, lw_eq, own_i_eq0, Bool.not_eq_false] at hm1); simp [own_i, hm1]
        rw [hv] at k
        exact k
    have R292 : ∀ t, Steps p.tables e below (T289.setTop (mkF m 278 #[iv p0, iv p1, iv p2, iv p3, iv p4, iv ii, iv (4 : Int32), rv b7, rv b30, iv (own_i (own_wf s3 d3)), iv (own_i ((own_al c0 (0 : Int32)) && own_al c1 (1 : Int32))), iv (((0 : Int32) + (own_i (own_D c0))) + (own_i (own_D c1))), iv ((0 : Int32) + (own_i (own_P c0))), .unset] [(.int (1 : Int32)), (.ref b7), (.int ((0 : Int32) + (own_i (own_P c0))))])) t → Steps p.tables e below (s₁.setTop f0) t := fun t k => R291 t (by
      show Steps p.tables e below (T289.setTop (mkF m 270 #[iv p0, iv p1, iv p2, iv p3, iv p4, iv ii, iv (4 : Int32), rv b7, rv b30, iv (own_i (own_wf s3 d3)), iv (own_i ((own_al c0 (0 : Int32)) && own_al c1 (1 : Int32))), iv ((0 : Int32) + (own_i (own_D c0))), iv ((0 : Int32) + (own_i (own_P c0))), .unset] [(.int (own_i (own_D c1))), (.int ((0 : Int32) + (own_i (own_D c0))))])) _
      refine XS.iadd X289.here hx rfl (hb hby at_270) rfl ?_
      refine XS.istore X289.here hx rfl (hb hby at_271) rfl (l' := #[iv p0, iv p1, iv p2, iv p3, iv p4, iv ii, iv (4 : Int32), rv b7, rv b30, iv (own_i (own_wf s3 d3)), iv (own_i ((own_al c0 (0 : Int32)) && own_al c1 (1 : Int32))), iv (((0 : Int32) + (own_i (own_D c0))) + (own_i (own_D c1))), iv ((0 : Int32) + (own_i (own_P c0))), .unset]) rfl ?_
      show Steps p.tables e below (T289.setTop (mkF m 273 #[iv p0, iv p1, iv p2, iv p3, iv p4, iv ii, iv (4 : Int32), rv b7, rv b30, iv (own_i (own_wf s3 d3)), iv (own_i ((own_al c0 (0 : Int32)) && own_al c1 (1 : Int32))), iv (((0 : Int32) + (own_i (own_D c0))) + (own_i (own_D c1))), iv ((0 : Int32) + (own_i (own_P c0))), .unset] [])) _
      refine XS.iload X289.here hx rfl (hb hby at_273) rfl  ?_
      refine XS.aload X289.here hx rfl (hb hby at_275) rfl rfl ?_
      show Steps p.tables e below (T289.setTop (mkF m 277 #[iv p0, iv p1, iv p2, iv p3, iv p4, iv ii, iv (4 : Int32), rv b7, rv b30, iv (own_i (own_wf s3 d3)), iv (own_i ((own_al c0 (0 : Int32)) && own_al c1 (1 : Int32))), iv (((0 : Int32) + (own_i (own_D c0))) + (own_i (own_D c1))), iv ((0 : Int32) + (own_i (own_P c0))), .unset] [(.ref b7), (.int ((0 : Int32) + (own_i (own_P c0))))])) _
      refine XS.iconst X289.here hx rfl (hb hby at_277) ?_
      exact k)
    obtain ⟨cl293, Ar293, q293, S293, n293_, H293, G293⟩ := id f252_A_b7
    have hin293 : ¬ ((1 : Int32) < 0 ∨ cl293.slots.size ≤ ((1 : Int32)).toNatClampNeg) := inb_of S293 ⟨by decide, by decide⟩
    have hat293 : cl293.slots[((1 : Int32)).toNatClampNeg]? = some (.int c1) := Has.at H293 hin293 rfl
    have R294 : ∀ t, Steps p.tables e below (T289.setTop (mkF m 279 #[iv p0, iv p1, iv p2, iv p3, iv p4, iv ii, iv (4 : Int32), rv b7, rv b30, iv (own_i (own_wf s3 d3)), iv (own_i ((own_al c0 (0 : Int32)) && own_al c1 (1 : Int32))), iv (((0 : Int32) + (own_i (own_D c0))) + (own_i (own_D c1))), iv ((0 : Int32) + (own_i (own_P c0))), .unset] [(.int c1), (.int ((0 : Int32) + (own_i (own_P c0))))])) t → Steps p.tables e below (s₁.setTop f0) t := fun t k => R292 t (X289.caload hx (j := (1 : Int32)) (v := (.int c1)) (by rw [p289_0]; exact Ar293.1) (State.isArrayOf_alike hZ.alike Ar293.2.1) Ar293.2.2 hin293 hat293 (g := (mkF m 278 #[iv p0, iv p1, iv p2, iv p3, iv p4, iv ii, iv (4 : Int32), rv b7, rv b30, iv (own_i (own_wf s3 d3)), iv (own_i ((own_al c0 (0 : Int32)) && own_al c1 (1 : Int32))), iv (((0 : Int32) + (own_i (own_D c0))) + (own_i (own_D c1))), iv ((0 : Int32) + (own_i (own_P c0))), .unset] [(.int (1 : Int32)), (.ref b7), (.int ((0 : Int32) + (own_i (own_P c0))))])) rfl rfl (hb hby at_278) _ k)
    have R295 : ∀ t, Steps p.tables e below (T289.setTop (mkF m 281 #[iv p0, iv p1, iv p2, iv p3, iv p4, iv ii, iv (4 : Int32), rv b7, rv b30, iv (own_i (own_wf s3 d3)), iv (own_i ((own_al c0 (0 : Int32)) && own_al c1 (1 : Int32))), iv (((0 : Int32) + (own_i (own_D c0))) + (own_i (own_D c1))), iv ((0 : Int32) + (own_i (own_P c0))), .unset] [(.int (46 : Int32)), (.int c1), (.int ((0 : Int32) + (own_i (own_P c0))))])) t → Steps p.tables e below (s₁.setTop f0) t := fun t k => R294 t (by
      show Steps p.tables e below (T289.setTop (mkF m 279 #[iv p0, iv p1, iv p2, iv p3, iv p4, iv ii, iv (4 : Int32), rv b7, rv b30, iv (own_i (own_wf s3 d3)), iv (own_i ((own_al c0 (0 : Int32)) && own_al c1 (1 : Int32))), iv (((0 : Int32) + (own_i (own_D c0))) + (own_i (own_D c1))), iv ((0 : Int32) + (own_i (own_P c0))), .unset] [(.int c1), (.int ((0 : Int32) + (own_i (own_P c0))))])) _
      refine XS.bipush X289.here hx rfl (hb hby at_279) ?_
      exact k)
    have R296 : ∀ t, Steps p.tables e below (T289.setTop (mkF m 289 #[iv p0, iv p1, iv p2, iv p3, iv p4, iv ii, iv (4 : Int32), rv b7, rv b30, iv (own_i (own_wf s3 d3)), iv (own_i ((own_al c0 (0 : Int32)) && own_al c1 (1 : Int32))), iv (((0 : Int32) + (own_i (own_D c0))) + (own_i (own_D c1))), iv ((0 : Int32) + (own_i (own_P c0))), .unset] [(.int (own_i (own_P c1))), (.int ((0 : Int32) + (own_i (own_P c0))))])) t → Steps p.tables e below (s₁.setTop f0) t := by
      intro t k
      refine R295 t ?_
      by_cases hm1 : c1 = (46 : Int32)
      · skip
        show Steps p.tables e below (T289.setTop (mkF m 281 #[iv p0, iv p1, iv p2, iv p3, iv p4, iv ii, iv (4 : Int32), rv b7, rv b30, iv (own_i (own_wf s3 d3)), iv (own_i ((own_al c0 (0 : Int32)) && own_al c1 (1 : Int32))), iv (((0 : Int32) + (own_i (own_D c0))) + (own_i (own_D c1))), iv ((0 : Int32) + (own_i (own_P c0))), .unset] [(.int (46 : Int32)), (.int c1), (.int ((0 : Int32) + (own_i (own_P c0))))])) _
        refine XS.icmpNo X289.here hx rfl (hb hby at_281) rfl (teq hm1).2 ?_
        refine XS.iconst X289.here hx rfl (hb hby at_284) ?_
        show Steps p.tables e below (T289.setTop (mkF m 285 #[iv p0, iv p1, iv p2, iv p3, iv p4, iv ii, iv (4 : Int32), rv b7, rv b30, iv (own_i (own_wf s3 d3)), iv (own_i ((own_al c0 (0 : Int32)) && own_al c1 (1 : Int32))), iv (((0 : Int32) + (own_i (own_D c0))) + (own_i (own_D c1))), iv ((0 : Int32) + (own_i (own_P c0))), .unset] [(.int (1 : Int32)), (.int ((0 : Int32) + (own_i (own_P c0))))])) _
        refine XS.goto X289.here hx rfl (pc0 := 285) (pc' := 289) rfl (hb hby at_285) (by decide) (by decide) ?_
        have hv : (own_i (own_P c1)) = (1 : Int32) := by (try simp only [lw_gt, lw_lt, lw_eq, own_i_eq0, Bool.not_eq_false] at hm1); simp [own_i, own_P, hm1]
        rw [hv] at k
        exact k
      · skip
        show Steps p.tables e below (T289.setTop (mkF m 281 #[iv p0, iv p1, iv p2, iv p3, iv p4, iv ii, iv (4 : Int32), rv b7, rv b30, iv (own_i (own_wf s3 d3)), iv (own_i ((own_al c0 (0 : Int32)) && own_al c1 (1 : Int32))), iv (((0 : Int32) + (own_i (own_D c0))) + (own_i (own_D c1))), iv ((0 : Int32) + (own_i (own_P c0))), .unset] [(.int (46 : Int32)), (.int c1), (.int ((0 : Int32) + (own_i (own_P c0))))])) _
        refine XS.icmpYes X289.here hx rfl (pc0 := 281) (pc' := 288) rfl (hb hby at_281) rfl (feq hm1).2 (by decide) (by decide) ?_
        refine XS.iconst X289.here hx rfl (hb hby at_288) ?_
        have hv : (own_i (own_P c1)) = (0 : Int32) := by (try simp only [lw_gt, lw_lt, lw_eq, own_i_eq0, Bool.not_eq_false] at hm1); simp [own_i, own_P, hm1]
        rw [hv] at k
        exact k
    have R297 : ∀ t, Steps p.tables e below (T289.setTop (mkF m 300 #[iv p0, iv p1, iv p2, iv p3, iv p4, iv ii, iv (4 : Int32), rv b7, rv b30, iv (own_i (own_wf s3 d3)), iv (own_i ((own_al c0 (0 : Int32)) && own_al c1 (1 : Int32))), iv (((0 : Int32) + (own_i (own_D c0))) + (own_i (own_D c1))), iv (((0 : Int32) + (own_i (own_P c0))) + (own_i (own_P c1))), .unset] [(.int (own_i ((own_al c0 (0 : Int32)) && own_al c1 (1 : Int32))))])) t → Steps p.tables e below (s₁.setTop f0) t := fun t k => R296 t (by
      show Steps p.tables e below (T289.setTop (mkF m 289 #[iv p0, iv p1, iv p2, iv p3, iv p4, iv ii, iv (4 : Int32), rv b7, rv b30, iv (own_i (own_wf s3 d3)), iv (own_i ((own_al c0 (0 : Int32)) && own_al c1 (1 : Int32))), iv (((0 : Int32) + (own_i (own_D c0))) + (own_i (own_D c1))), iv ((0 : Int32) + (own_i (own_P c0))), .unset] [(.int (own_i (own_P c1))), (.int ((0 : Int32) + (own_i (own_P c0))))])) _
      refine XS.iadd X289.here hx rfl (hb hby at_289) rfl ?_
      refine XS.istore X289.here hx rfl (hb hby at_290) rfl (l' := #[iv p0, iv p1, iv p2, iv p3, iv p4, iv ii, iv (4 : Int32), rv b7, rv b30, iv (own_i (own_wf s3 d3)), iv (own_i ((own_al c0 (0 : Int32)) && own_al c1 (1 : Int32))), iv (((0 : Int32) + (own_i (own_D c0))) + (own_i (own_D c1))), iv (((0 : Int32) + (own_i (own_P c0))) + (own_i (own_P c1))), .unset]) rfl ?_
      show Steps p.tables e below (T289.setTop (mkF m 292 #[iv p0, iv p1, iv p2, iv p3, iv p4, iv ii, iv (4 : Int32), rv b7, rv b30, iv (own_i (own_wf s3 d3)), iv (own_i ((own_al c0 (0 : Int32)) && own_al c1 (1 : Int32))), iv (((0 : Int32) + (own_i (own_D c0))) + (own_i (own_D c1))), iv (((0 : Int32) + (own_i (own_P c0))) + (own_i (own_P c1))), .unset] [])) _
      refine XS.iload X289.here hx rfl (hb hby at_292) rfl  ?_
      refine XS.iconst X289.here hx rfl (hb hby at_294) ?_
      show Steps p.tables e below (T289.setTop (mkF m 295 #[iv p0, iv p1, iv p2, iv p3, iv p4, iv ii, iv (4 : Int32), rv b7, rv b30, iv (own_i (own_wf s3 d3)), iv (own_i ((own_al c0 (0 : Int32)) && own_al c1 (1 : Int32))), iv (((0 : Int32) + (own_i (own_D c0))) + (own_i (own_D c1))), iv (((0 : Int32) + (own_i (own_P c0))) + (own_i (own_P c1))), .unset] [(.int (2 : Int32)), (.int (4 : Int32))])) _
      refine XS.icmpNo X289.here hx rfl (hb hby at_295) rfl (tlt (by decide : (2 : Int32) < (4 : Int32))).2.2.2 ?_
      refine XS.iload X289.here hx rfl (hb hby at_298) rfl  ?_
      exact k)
    obtain ⟨T307, L307, X307, N307, e307, R307⟩ : ∃ (T' : State) (L' : List Loc), Stand p l e room_1 s m #[(.int p0), (.int p1), (.int p2), (.int p3), (.int p4)] below meth c T' L' 2 12 ∧ Fr n0 L' ∧ T'.heap = T252.heap ∧ ∀ t, Steps p.tables e below (T'.setTop (mkF m 319 #[iv p0, iv p1, iv p2, iv p3, iv p4, iv ii, iv (4 : Int32), rv b7, rv b30, iv (own_i (own_wf s3 d3)), iv (own_i ((own_al c0 (0 : Int32)) && own_al c1 (1 : Int32))), iv (((0 : Int32) + (own_i (own_D c0))) + (own_i (own_D c1))), iv (((0 : Int32) + (own_i (own_P c0))) + (own_i (own_P c1))), .unset] [(.int (own_i (((own_al c0 (0 : Int32)) && own_al c1 (1 : Int32)) && own_al c2 (2 : Int32))))])) t → Steps p.tables e below (s₁.setTop f0) t := by
      by_cases hg10 : (own_i ((own_al c0 (0 : Int32)) && own_al c1 (1 : Int32))) = (0 : Int32)
      · skip
        have R298 : ∀ t, Steps p.tables e below (T289.setTop (mkF m 319 #[iv p0, iv p1, iv p2, iv p3, iv p4, iv ii, iv (4 : Int32), rv b7, rv b30, iv (own_i (own_wf s3 d3)), iv (own_i ((own_al c0 (0 : Int32)) && own_al c1 (1 : Int32))), iv (((0 : Int32) + (own_i (own_D c0))) + (own_i (own_D c1))), iv (((0 : Int32) + (own_i (own_P c0))) + (own_i (own_P c1))), .unset] [(.int (0 : Int32))])) t → Steps p.tables e below (s₁.setTop f0) t := fun t k => R297 t (by
          show Steps p.tables e below (T289.setTop (mkF m 300 #[iv p0, iv p1, iv p2, iv p3, iv p4, iv ii, iv (4 : Int32), rv b7, rv b30, iv (own_i (own_wf s3 d3)), iv (own_i ((own_al c0 (0 : Int32)) && own_al c1 (1 : Int32))), iv (((0 : Int32) + (own_i (own_D c0))) + (own_i (own_D c1))), iv (((0 : Int32) + (own_i (own_P c0))) + (own_i (own_P c1))), .unset] [(.int (own_i ((own_al c0 (0 : Int32)) && own_al c1 (1 : Int32))))])) _
          refine XS.ifYes X289.here hx rfl (pc0 := 300) (pc' := 318) rfl (hb hby at_300) rfl ((if0 _ _).trans (teq hg10).1) (by decide) (by decide) ?_
          refine XS.iconst X289.here hx rfl (hb hby at_318) ?_
          exact k)
        have hv0 : (own_i (((own_al c0 (0 : Int32)) && own_al c1 (1 : Int32)) && own_al c2 (2 : Int32))) = (0 : Int32) := by (try simp only [lw_gt, lw_lt, lw_eq, own_i_eq0, Bool.not_eq_false] at hg10); simp [own_i, hg10]
        rw [hv0]
        exact ⟨T289, _, X289, N289, p289_0, R298⟩
      · skip
        have R299 : ∀ t, Steps p.tables e below (T289.setTop (mkF m 306 #[iv p0, iv p1, iv p2, iv p3, iv p4, iv ii, iv (4 : Int32), rv b7, rv b30, iv (own_i (own_wf s3 d3)), iv (own_i ((own_al c0 (0 : Int32)) && own_al c1 (1 : Int32))), iv (((0 : Int32) + (own_i (own_D c0))) + (own_i (own_D c1))), iv (((0 : Int32) + (own_i (own_P c0))) + (own_i (own_P c1))), .unset] [(.int (2 : Int32)), (.ref b7)])) t → Steps p.tables e below (s₁.setTop f0) t := fun t k => R297 t (by
          show Steps p.tables e below (T289.setTop (mkF m 300 #[iv p0, iv p1, iv p2, iv p3, iv p4, iv ii, iv (4 : Int32), rv b7, rv b30, iv (own_i (own_wf s3 d3)), iv (own_i ((own_al c0 (0 : Int32)) && own_al c1 (1 : Int32))), iv (((0 : Int32) + (own_i (own_D c0))) + (own_i (own_D c1))), iv (((0 : Int32) + (own_i (own_P c0))) + (own_i (own_P c1))), .unset] [(.int (own_i ((own_al c0 (0 : Int32)) && own_al c1 (1 : Int32))))])) _
          refine XS.ifNo X289.here hx rfl (hb hby at_300) rfl ((if0 _ _).trans (feq hg10).1) ?_
          refine XS.aload X289.here hx rfl (hb hby at_303) rfl rfl ?_
          show Steps p.tables e below (T289.setTop (mkF m 305 #[iv p0, iv p1, iv p2, iv p3, iv p4, iv ii, iv (4 : Int32), rv b7, rv b30, iv (own_i (own_wf s3 d3)), iv (own_i ((own_al c0 (0 : Int32)) && own_al c1 (1 : Int32))), iv (((0 : Int32) + (own_i (own_D c0))) + (own_i (own_D c1))), iv (((0 : Int32) + (own_i (own_P c0))) + (own_i (own_P c1))), .unset] [(.ref b7)])) _
          refine XS.iconst X289.here hx rfl (hb hby at_305) ?_
          exact k)
        obtain ⟨cl300, Ar300, q300, S300, n300_, H300, G300⟩ := id f252_A_b7
        have hin300 : ¬ ((2 : Int32) < 0 ∨ cl300.slots.size ≤ ((2 : Int32)).toNatClampNeg) := inb_of S300 ⟨by decide, by decide⟩
        have hat300 : cl300.slots[((2 : Int32)).toNatClampNeg]? = some (.int c2) := Has.at H300 hin300 rfl
        have R301 : ∀ t, Steps p.tables e below (T289.setTop (mkF m 307 #[iv p0, iv p1, iv p2, iv p3, iv p4, iv ii, iv (4 : Int32), rv b7, rv b30, iv (own_i (own_wf s3 d3)), iv (own_i ((own_al c0 (0 : Int32)) && own_al c1 (1 : Int32))), iv (((0 : Int32) + (own_i (own_D c0))) + (own_i (own_D c1))), iv (((0 : Int32) + (own_i (own_P c0))) + (own_i (own_P c1))), .unset] [(.int c2)])) t → Steps p.tables e below (s₁.setTop f0) t := fun t k => R299 t (X289.caload hx (j := (2 : Int32)) (v := (.int c2)) (by rw [p289_0]; exact Ar300.1) (State.isArrayOf_alike hZ.alike Ar300.2.1) Ar300.2.2 hin300 hat300 (g := (mkF m 306 #[iv p0, iv p1, iv p2, iv p3, iv p4, iv ii, iv (4 : Int32), rv b7, rv b30, iv (own_i (own_wf s3 d3)), iv (own_i ((own_al c0 (0 : Int32)) && own_al c1 (1 : Int32))), iv (((0 : Int32) + (own_i (own_D c0))) + (own_i (own_D c1))), iv (((0 : Int32) + (own_i (own_P c0))) + (own_i (own_P c1))), .unset] [(.int (2 : Int32)), (.ref b7)])) rfl rfl (hb hby at_306) _ k)
        have R302 : ∀ t, Steps p.tables e below (T289.setTop (mkF m 308 #[iv p0, iv p1, iv p2, iv p3, iv p4, iv ii, iv (4 : Int32), rv b7, rv b30, iv (own_i (own_wf s3 d3)), iv (own_i ((own_al c0 (0 : Int32)) && own_al c1 (1 : Int32))), iv (((0 : Int32) + (own_i (own_D c0))) + (own_i (own_D c1))), iv (((0 : Int32) + (own_i (own_P c0))) + (own_i (own_P c1))), .unset] [(.int (2 : Int32)), (.int c2)])) t → Steps p.tables e below (s₁.setTop f0) t := fun t k => R301 t (by
          show Steps p.tables e below (T289.setTop (mkF m 307 #[iv p0, iv p1, iv p2, iv p3, iv p4, iv ii, iv (4 : Int32), rv b7, rv b30, iv (own_i (own_wf s3 d3)), iv (own_i ((own_al c0 (0 : Int32)) && own_al c1 (1 : Int32))), iv (((0 : Int32) + (own_i (own_D c0))) + (own_i (own_D c1))), iv (((0 : Int32) + (own_i (own_P c0))) + (own_i (own_P c1))), .unset] [(.int c2)])) _
          refine XS.iconst X289.here hx rfl (hb hby at_307) ?_
          exact k)
        obtain ⟨_, _, ⟨T303, L303, k303, n303⟩, -, X303, ⟨Lc303, hQ303, l303, y303, z303⟩, st303⟩ := Jvm.LawKit.callS X289 hx (y := (⟨sN5, "allowed", "(CI)Z"⟩ : MethodName)) hown (mvT hZ (hw _ (List.mem_of_getElem? (i := 73) rfl))) (mvT hZ (hw _ (List.mem_of_getElem? (i := 74) rfl))) (mvT hZ (hw _ (List.mem_of_getElem? (i := 3) rfl))) (mvT hZ (hw _ (List.mem_of_getElem? (i := 75) rfl))) (by decide) (backOf (W := 0) (rmAll l Z a0 hw [] c2 (2 : Int32) T252.heap n0 z252) hZ (hw _ (List.mem_of_getElem? (i := 75) rfl)) (hw _ (List.mem_of_getElem? (i := 3) rfl)) (by decide) (by decide)) (g := (mkF m 308 #[iv p0, iv p1, iv p2, iv p3, iv p4, iv ii, iv (4 : Int32), rv b7, rv b30, iv (own_i (own_wf s3 d3)), iv (own_i ((own_al c0 (0 : Int32)) && own_al c1 (1 : Int32))), iv (((0 : Int32) + (own_i (own_D c0))) + (own_i (own_D c1))), iv (((0 : Int32) + (own_i (own_P c0))) + (own_i (own_P c1))), .unset] [(.int (2 : Int32)), (.int c2)])) rfl (by rw [hml]; rfl) (argsL := [(.int c2), (.int (2 : Int32))]) (rest := []) (lenOf pd_11 rfl) rfl (by show 2 * 0 + _ ≤ _; exact Nat.le_of_eq rfl) (hb hby at_308) (fun _ _ => ⟨rfl, p289_0, (by decide : 2 + 0 ≤ _), (by decide : 12 + 0 ≤ _)⟩)
        dsimp only [Pt.U, Pt.locs, Pt.cells, Pt.slots] at X303 l303 y303 z303 st303 hQ303
        subst l303 y303 z303
        obtain ⟨rfl, N303q, p303_0⟩ := hQ303
        have N303 := Fr.app N289 N303q
        have R304 : ∀ t, Steps p.tables e below (T303.setTop (mkF m 311 #[iv p0, iv p1, iv p2, iv p3, iv p4, iv ii, iv (4 : Int32), rv b7, rv b30, iv (own_i (own_wf s3 d3)), iv (own_i ((own_al c0 (0 : Int32)) && own_al c1 (1 : Int32))), iv (((0 : Int32) + (own_i (own_D c0))) + (own_i (own_D c1))), iv (((0 : Int32) + (own_i (own_P c0))) + (own_i (own_P c1))), .unset] [(.int (own_i (own_al c2 (2 : Int32))))])) t → Steps p.tables e below (s₁.setTop f0) t := fun t k => R302 t (st303 t k)
        by_cases hg11 : (own_i (own_al c2 (2 : Int32))) = (0 : Int32)
        · skip
          have R305 : ∀ t, Steps p.tables e below (T303.setTop (mkF m 319 #[iv p0, iv p1, iv p2, iv p3, iv p4, iv ii, iv (4 : Int32), rv b7, rv b30, iv (own_i (own_wf s3 d3)), iv (own_i ((own_al c0 (0 : Int32)) && own_al c1 (1 : Int32))), iv (((0 : Int32) + (own_i (own_D c0))) + (own_i (own_D c1))), iv (((0 : Int32) + (own_i (own_P c0))) + (own_i (own_P c1))), .unset] [(.int (0 : Int32))])) t → Steps p.tables e below (s₁.setTop f0) t := fun t k => R304 t (by
            show Steps p.tables e below (T303.setTop (mkF m 311 #[iv p0, iv p1, iv p2, iv p3, iv p4, iv ii, iv (4 : Int32), rv b7, rv b30, iv (own_i (own_wf s3 d3)), iv (own_i ((own_al c0 (0 : Int32)) && own_al c1 (1 : Int32))), iv (((0 : Int32) + (own_i (own_D c0))) + (own_i (own_D c1))), iv (((0 : Int32) + (own_i (own_P c0))) + (own_i (own_P c1))), .unset] [(.int (own_i (own_al c2 (2 : Int32))))])) _
            refine XS.ifYes X303.here hx rfl (pc0 := 311) (pc' := 318) rfl (hb hby at_311) rfl ((if0 _ _).trans (teq hg11).1) (by decide) (by decide) ?_
            refine XS.iconst X303.here hx rfl (hb hby at_318) ?_
            exact k)
          have hv0 : (own_i (((own_al c0 (0 : Int32)) && own_al c1 (1 : Int32)) && own_al c2 (2 : Int32))) = (0 : Int32) := by (try simp only [lw_gt, lw_lt, lw_eq, own_i_eq0, Bool.not_eq_false] at hg10); (try simp only [lw_gt, lw_lt, lw_eq, own_i_eq0, Bool.not_eq_false] at hg11); simp [own_i, hg10, hg11]
          rw [hv0]
          exact ⟨T303, _, X303, N303, p303_0, R305⟩
        · skip
          have R306 : ∀ t, Steps p.tables e below (T303.setTop (mkF m 319 #[iv p0, iv p1, iv p2, iv p3, iv p4, iv ii, iv (4 : Int32), rv b7, rv b30, iv (own_i (own_wf s3 d3)), iv (own_i ((own_al c0 (0 : Int32)) && own_al c1 (1 : Int32))), iv (((0 : Int32) + (own_i (own_D c0))) + (own_i (own_D c1))), iv (((0 : Int32) + (own_i (own_P c0))) + (own_i (own_P c1))), .unset] [(.int (1 : Int32))])) t → Steps p.tables e below (s₁.setTop f0) t := fun t k => R304 t (by
            show Steps p.tables e below (T303.setTop (mkF m 311 #[iv p0, iv p1, iv p2, iv p3, iv p4, iv ii, iv (4 : Int32), rv b7, rv b30, iv (own_i (own_wf s3 d3)), iv (own_i ((own_al c0 (0 : Int32)) && own_al c1 (1 : Int32))), iv (((0 : Int32) + (own_i (own_D c0))) + (own_i (own_D c1))), iv (((0 : Int32) + (own_i (own_P c0))) + (own_i (own_P c1))), .unset] [(.int (own_i (own_al c2 (2 : Int32))))])) _
            refine XS.ifNo X303.here hx rfl (hb hby at_311) rfl ((if0 _ _).trans (feq hg11).1) ?_
            refine XS.iconst X303.here hx rfl (hb hby at_314) ?_
            show Steps p.tables e below (T303.setTop (mkF m 315 #[iv p0, iv p1, iv p2, iv p3, iv p4, iv ii, iv (4 : Int32), rv b7, rv b30, iv (own_i (own_wf s3 d3)), iv (own_i ((own_al c0 (0 : Int32)) && own_al c1 (1 : Int32))), iv (((0 : Int32) + (own_i (own_D c0))) + (own_i (own_D c1))), iv (((0 : Int32) + (own_i (own_P c0))) + (own_i (own_P c1))), .unset] [(.int (1 : Int32))])) _
            refine XS.goto X303.here hx rfl (pc0 := 315) (pc' := 319) rfl (hb hby at_315) (by decide) (by decide) ?_
            exact k)
          have hv0 : (own_i (((own_al c0 (0 : Int32)) && own_al c1 (1 : Int32)) && own_al c2 (2 : Int32))) = (1 : Int32) := by (try simp only [lw_gt, lw_lt, lw_eq, own_i_eq0, Bool.not_eq_false] at hg10); (try simp only [lw_gt, lw_lt, lw_eq, own_i_eq0, Bool.not_eq_false] at hg11); simp [own_i, hg10, hg11]
          rw [hv0]
          exact ⟨T303, _, X303, N303, p303_0, R306⟩
    have R308 : ∀ t, Steps p.tables e below (T307.setTop (mkF m 326 #[iv p0, iv p1, iv p2, iv p3, iv p4, iv ii, iv (4 : Int32), rv b7, rv b30, iv (own_i (own_wf s3 d3)), iv (own_i (((own_al c0 (0 : Int32)) && own_al c1 (1 : Int32)) && own_al c2 (2 : Int32))), iv (((0 : Int32) + (own_i (own_D c0))) + (own_i (own_D c1))), iv (((0 : Int32) + (own_i (own_P c0))) + (own_i (own_P c1))), .unset] [(.int (2 : Int32)), (.ref b7), (.int (((0 : Int32) + (own_i (own_D c0))) + (own_i (own_D c1))))])) t → Steps p.tables e below (s₁.setTop f0) t := fun t k => R307 t (by
      show Steps p.tables e below (T307.setTop (mkF m 319 #[iv p0, iv p1, iv p2, iv p3, iv p4, iv ii, iv (4 : Int32), rv b7, rv b30, iv (own_i (own_wf s3 d3)), iv (own_i ((own_al c0 (0 : Int32)) && own_al c1 (1 : Int32))), iv (((0 : Int32) + (own_i (own_D c0))) + (own_i (own_D c1))), iv (((0 : Int32) + (own_i (own_P c0))) + (own_i (own_P c1))), .unset] [(.int (own_i (((own_al c0 (0 : Int32)) && own_al c1 (1 : Int32)) && own_al c2 (2 : Int32))))])) _
      refine XS.istore X307.here hx rfl (hb hby at_319) rfl (l' := #[iv p0, iv p1, iv p2, iv p3, iv p4, iv ii, iv (4 : Int32), rv b7, rv b30, iv (own_i (own_wf s3 d3)), iv (own_i (((own_al c0 (0 : Int32)) && own_al c1 (1 : Int32)) && own_al c2 (2 : Int32))), iv (((0 : Int32) + (own_i (own_D c0))) + (own_i (own_D c1))), iv (((0 : Int32) + (own_i (own_P c0))) + (own_i (own_P c1))), .unset]) rfl ?_
      refine XS.iload X307.here hx rfl (hb hby at_321) rfl  ?_
      show Steps p.tables e below (T307.setTop (mkF m 323 #[iv p0, iv p1, iv p2, iv p3, iv p4, iv ii, iv (4 : Int32), rv b7, rv b30, iv (own_i (own_wf s3 d3)), iv (own_i (((own_al c0 (0 : Int32)) && own_al c1 (1 : Int32)) && own_al c2 (2 : Int32))), iv (((0 : Int32) + (own_i (own_D c0))) + (own_i (own_D c1))), iv (((0 : Int32) + (own_i (own_P c0))) + (own_i (own_P c1))), .unset] [(.int (((0 : Int32) + (own_i (own_D c0))) + (own_i (own_D c1))))])) _
      refine XS.aload X307.here hx rfl (hb hby at_323) rfl rfl ?_
      refine XS.iconst X307.here hx rfl (hb hby at_325) ?_
      exact k)
    obtain ⟨cl309, Ar309, q309, S309, n309_, H309, G309⟩ := id f252_A_b7
    have hin309 : ¬ ((2 : Int32) < 0 ∨ cl309.slots.size ≤ ((2 : Int32)).toNatClampNeg) := inb_of S309 ⟨by decide, by decide⟩
    have hat309 : cl309.slots[((2 : Int32)).toNatClampNeg]? = some (.int c2) := Has.at H309 hin309 rfl
    have R310 : ∀ t, Steps p.tables e below (T307.setTop (mkF m 327 #[iv p0, iv p1, iv p2, iv p3, iv p4, iv ii, iv (4 : Int32), rv b7, rv b30, iv (own_i (own_wf s3 d3)), iv (own_i (((own_al c0 (0 : Int32)) && own_al c1 (1 : Int32)) && own_al c2 (2 : Int32))), iv (((0 : Int32) + (own_i (own_D c0))) + (own_i (own_D c1))), iv (((0 : Int32) + (own_i (own_P c0))) + (own_i (own_P c1))), .unset] [(.int c2), (.int (((0 : Int32) + (own_i (own_D c0))) + (own_i (own_D c1))))])) t → Steps p.tables e below (s₁.setTop f0) t := fun t k => R308 t (X307.caload hx (j := (2 : Int32)) (v := (.int c2)) (by rw [e307]; exact Ar309.1) (State.isArrayOf_alike hZ.alike Ar309.2.1) Ar309.2.2 hin309 hat309 (g := (mkF m 326 #[iv p0, iv p1, iv p2, iv p3, iv p4, iv ii, iv (4 : Int32), rv b7, rv b30, iv (own_i (own_wf s3 d3)), iv (own_i (((own_al c0 (0 : Int32)) && own_al c1 (1 : Int32)) && own_al c2 (2 : Int32))), iv (((0 : Int32) + (own_i (own_D c0))) + (own_i (own_D c1))), iv (((0 : Int32) + (own_i (own_P c0))) + (own_i (own_P c1))), .unset] [(.int (2 : Int32)), (.ref b7), (.int (((0 : Int32) + (own_i (own_D c0))) + (own_i (own_D c1))))])) rfl rfl (hb hby at_326) _ k)
    obtain ⟨_, _, ⟨T311, L311, k311, n311⟩, -, X311, ⟨Lc311, hQ311, l311, y311, z311⟩, st311⟩ := Jvm.LawKit.callS X307 hx (y := (⟨sN5, "isDigit", "(C)Z"⟩ : MethodName)) hown (mvT hZ (hw _ (List.mem_of_getElem? (i := 76) rfl))) (mvT hZ (hw _ (List.mem_of_getElem? (i := 77) rfl))) (mvT hZ (hw _ (List.mem_of_getElem? (i := 3) rfl))) (mvT hZ (hw _ (List.mem_of_getElem? (i := 78) rfl))) (by decide) (backOf (W := 1) (rmIsd l Z a0 hw [] c2 T252.heap n0 z252) hZ (hw _ (List.mem_of_getElem? (i := 78) rfl)) (hw _ (List.mem_of_getElem? (i := 3) rfl)) (by decide) (by decide)) (g := (mkF m 327 #[iv p0, iv p1, iv p2, iv p3, iv p4, iv ii, iv (4 : Int32), rv b7, rv b30, iv (own_i (own_wf s3 d3)), iv (own_i (((own_al c0 (0 : Int32)) && own_al c1 (1 : Int32)) && own_al c2 (2 : Int32))), iv (((0 : Int32) + (own_i (own_D c0))) + (own_i (own_D c1))), iv (((0 : Int32) + (own_i (own_P c0))) + (own_i (own_P c1))), .unset] [(.int c2), (.int (((0 : Int32) + (own_i (own_D c0))) + (own_i (own_D c1))))])) rfl (by rw [hml]; rfl) (argsL := [(.int c2)]) (rest := [(.int (((0 : Int32) + (own_i (own_D c0))) + (own_i (own_D c1))))]) (lenOf pd_5 rfl) rfl (by show 2 * 0 + _ ≤ _; exact Nat.le_of_eq rfl) (hb hby at_327) (fun _ _ => ⟨rfl, e307, (by decide : 2 + 0 ≤ _), (by decide : 12 + 0 ≤ _)⟩)
    dsimp only [Pt.U, Pt.locs, Pt.cells, Pt.slots] at X311 l311 y311 z311 st311 hQ311
    subst l311 y311 z311
    obtain ⟨rfl, N311q, p311_0⟩ := hQ311
    have N311 := Fr.app N307 N311q
    have R312 : ∀ t, Steps p.tables e below (T311.setTop (mkF m 330 #[iv p0, iv p1, iv p2, iv p3, iv p4, iv ii, iv (4 : Int32), rv b7, rv b30, iv (own_i (own_wf s3 d3)), iv (own_i (((own_al c0 (0 : Int32)) && own_al c1 (1 : Int32)) && own_al c2 (2 : Int32))), iv (((0 : Int32) + (own_i (own_D c0))) + (own_i (own_D c1))), iv (((0 : Int32) + (own_i (own_P c0))) + (own_i (own_P c1))), .unset] [(.int (own_i (own_D c2))), (.int (((0 : Int32) + (own_i (own_D c0))) + (own_i (own_D c1))))])) t → Steps p.tables e below (s₁.setTop f0) t := fun t k => R310 t (st311 t k)
    have R313 : ∀ t, Steps p.tables e below (T311.setTop (mkF m 338 #[iv p0, iv p1, iv p2, iv p3, iv p4, iv ii, iv (4 : Int32), rv b7, rv b30, iv (own_i (own_wf s3 d3)), iv (own_i (((own_al c0 (0 : Int32)) && own_al c1 (1 : Int32)) && own_al c2 (2 : Int32))), iv (((0 : Int32) + (own_i (own_D c0))) + (own_i (own_D c1))), iv (((0 : Int32) + (own_i (own_P c0))) + (own_i (own_P c1))), .unset] [(.int (own_i (own_D c2))), (.int (((0 : Int32) + (own_i (own_D c0))) + (own_i (own_D c1))))])) t → Steps p.tables e below (s₁.setTop f0) t := by
      intro t k
      refine R312 t ?_
      by_cases hm1 : (own_i (own_D c2)) = (0 : Int32)
      · skip
        show Steps p.tables e below (T311.setTop (mkF m 330 #[iv p0, iv p1, iv p2, iv p3, iv p4, iv ii, iv (4 : Int32), rv b7, rv b30, iv (own_i (own_wf s3 d3)), iv (own_i (((own_al c0 (0 : Int32)) && own_al c1 (1 : Int32)) && own_al c2 (2 : Int32))), iv (((0 : Int32) + (own_i (own_D c0))) + (own_i (own_D c1))), iv (((0 : Int32) + (own_i (own_P c0))) + (own_i (own_P c1))), .unset] [(.int (own_i (own_D c2))), (.int (((0 : Int32) + (own_i (own_D c0))) + (own_i (own_D c1))))])) _
        refine XS.ifYes X311.here hx rfl (pc0 := 330) (pc' := 337) rfl (hb hby at_330) rfl ((if0 _ _).trans (teq hm1).1) (by decide) (by decide) ?_
        refine XS.iconst X311.here hx rfl (hb hby at_337) ?_
        have hv : (own_i (own_D c2)) = (0 : Int32) := by (try simp only [lw_gt, lw_lt, lw_eq, own_i_eq0, Bool.not_eq_false] at hm1); simp [own_i, hm1]
        rw [hv] at k
        exact k
      · skip
        show Steps p.tables e below (T311.setTop (mkF m 330 #[iv p0, iv p1, iv p2, iv p3, iv p4, iv ii, iv (4 : Int32), rv b7, rv b30, iv (own_i (own_wf s3 d3)), iv (own_i (((own_al c0 (0 : Int32)) && own_al c1 (1 : Int32)) && own_al c2 (2 : Int32))), iv (((0 : Int32) + (own_i (own_D c0))) + (own_i (own_D c1))), iv (((0 : Int32) + (own_i (own_P c0))) + (own_i (own_P c1))), .unset] [(.int (own_i (own_D c2))), (.int (((0 : Int32) + (own_i (own_D c0))) + (own_i (own_D c1))))])) _
        refine XS.ifNo X311.here hx rfl (hb hby at_330) rfl ((if0 _ _).trans (feq hm1).1) ?_
        refine XS.iconst X311.here hx rfl (hb hby at_333) ?_
        show Steps p.tables e below (T311.setTop (mkF m 334 #[iv p0, iv p1, iv p2, iv p3, iv p4, iv ii, iv (4 : Int32), rv b7, rv b30, iv (own_i (own_wf s3 d3)), iv (own_i (((own_al c0 (0 : Int32)) && own_al c1 (1 : Int32)) && own_al c2 (2 : Int32))), iv (((0 : Int32) + (own_i (own_D c0))) + (own_i (own_D c1))), iv (((0 : Int32) + (own_i (own_P c0))) + (own_i (own_P c1))), .unset] [(.int (1 : Int32)), (.int (((0 : Int32) + (own_i (own_D c0))) + (own_i (own_D c1))))])) _
        refine XS.goto X311.here hx rfl (pc0 := 334) (pc' := 338) rfl (hb hby at_334) (by decide) (by decide) ?_
        have hv : (own_i (own_D c2)) = (1 : Int32) := by (try simp only [lw_gt, lw_lt, lw_eq, own_i_eq0, Bool.not_eq_false] at hm1); simp [own_i, hm1]
        rw [hv] at k
        exact k
    have R314 : ∀ t, Steps p.tables e below (T311.setTop (mkF m 346 #[iv p0, iv p1, iv p2, iv p3, iv p4, iv ii, iv (4 : Int32), rv b7, rv b30, iv (own_i (own_wf s3 d3)), iv (own_i (((own_al c0 (0 : Int32)) && own_al c1 (1 : Int32)) && own_al c2 (2 : Int32))), iv ((((0 : Int32) + (own_i (own_D c0))) + (own_i (own_D c1))) + (own_i (own_D c2))), iv (((0 : Int32) + (own_i (own_P c0))) + (own_i (own_P c1))), .unset] [(.int (2 : Int32)), (.ref b7), (.int (((0 : Int32) + (own_i (own_P c0))) + (own_i (own_P c1))))])) t → Steps p.tables e below (s₁.setTop f0) t := fun t k => R313 t (by
      show Steps p.tables e below (T311.setTop (mkF m 338 #[iv p0, iv p1, iv p2, iv p3, iv p4, iv ii, iv (4 : Int32), rv b7, rv b30, iv (own_i (own_wf s3 d3)), iv (own_i (((own_al c0 (0 : Int32)) && own_al c1 (1 : Int32)) && own_al c2 (2 : Int32))), iv (((0 : Int32) + (own_i (own_D c0))) + (own_i (own_D c1))), iv (((0 : Int32) + (own_i (own_P c0))) + (own_i (own_P c1))), .unset] [(.int (own_i (own_D c2))), (.int (((0 : Int32) + (own_i (own_D c0))) + (own_i (own_D c1))))])) _
      refine XS.iadd X311.here hx rfl (hb hby at_338) rfl ?_
      refine XS.istore X311.here hx rfl (hb hby at_339) rfl (l' := #[iv p0, iv p1, iv p2, iv p3, iv p4, iv ii, iv (4 : Int32), rv b7, rv b30, iv (own_i (own_wf s3 d3)), iv (own_i (((own_al c0 (0 : Int32)) && own_al c1 (1 : Int32)) && own_al c2 (2 : Int32))), iv ((((0 : Int32) + (own_i (own_D c0))) + (own_i (own_D c1))) + (own_i (own_D c2))), iv (((0 : Int32) + (own_i (own_P c0))) + (own_i (own_P c1))), .unset]) rfl ?_
      show Steps p.tables e below (T311.setTop (mkF m 341 #[iv p0, iv p1, iv p2, iv p3, iv p4, iv ii, iv (4 : Int32), rv b7, rv b30, iv (own_i (own_wf s3 d3)), iv (own_i (((own_al c0 (0 : Int32)) && own_al c1 (1 : Int32)) && own_al c2 (2 : Int32))), iv ((((0 : Int32) + (own_i (own_D c0))) + (own_i (own_D c1))) + (own_i (own_D c2))), iv (((0 : Int32) + (own_i (own_P c0))) + (own_i (own_P c1))), .unset] [])) _
      refine XS.iload X311.here hx rfl (hb hby at_341) rfl  ?_
      refine XS.aload X311.here hx rfl (hb hby at_343) rfl rfl ?_
      show Steps p.tables e below (T311.setTop (mkF m 345 #[iv p0, iv p1, iv p2, iv p3, iv p4, iv ii, iv (4 : Int32), rv b7, rv b30, iv (own_i (own_wf s3 d3)), iv (own_i (((own_al c0 (0 : Int32)) && own_al c1 (1 : Int32)) && own_al c2 (2 : Int32))), iv ((((0 : Int32) + (own_i (own_D c0))) + (own_i (own_D c1))) + (own_i (own_D c2))), iv (((0 : Int32) + (own_i (own_P c0))) + (own_i (own_P c1))), .unset] [(.ref b7), (.int (((0 : Int32) + (own_i (own_P c0))) + (own_i (own_P c1))))])) _
      refine XS.iconst X311.here hx rfl (hb hby at_345) ?_
      exact k)
    obtain ⟨cl315, Ar315, q315, S315, n315_, H315, G315⟩ := id f252_A_b7
    have hin315 : ¬ ((2 : Int32) < 0 ∨ cl315.slots.size ≤ ((2 : Int32)).toNatClampNeg) := inb_of S315 ⟨by decide, by decide⟩
    have hat315 : cl315.slots[((2 : Int32)).toNatClampNeg]? = some (.int c2) := Has.at H315 hin315 rfl
    have R316 : ∀ t, Steps p.tables e below (T311.setTop (mkF m 347 #[iv p0, iv p1, iv p2, iv p3, iv p4, iv ii, iv (4 : Int32), rv b7, rv b30, iv (own_i (own_wf s3 d3)), iv (own_i (((own_al c0 (0 : Int32)) && own_al c1 (1 : Int32)) && own_al c2 (2 : Int32))), iv ((((0 : Int32) + (own_i (own_D c0))) + (own_i (own_D c1))) + (own_i (own_D c2))), iv (((0 : Int32) + (own_i (own_P c0))) + (own_i (own_P c1))), .unset] [(.int c2), (.int (((0 : Int32) + (own_i (own_P c0))) + (own_i (own_P c1))))])) t → Steps p.tables e below (s₁.setTop f0) t := fun t k => R314 t (X311.caload hx (j := (2 : Int32)) (v := (.int c2)) (by rw [p311_0]; exact Ar315.1) (State.isArrayOf_alike hZ.alike Ar315.2.1) Ar315.2.2 hin315 hat315 (g := (mkF m 346 #[iv p0, iv p1, iv p2, iv p3, iv p4, iv ii, iv (4 : Int32), rv b7, rv b30, iv (own_i (own_wf s3 d3)), iv (own_i (((own_al c0 (0 : Int32)) && own_al c1 (1 : Int32)) && own_al c2 (2 : Int32))), iv ((((0 : Int32) + (own_i (own_D c0))) + (own_i (own_D c1))) + (own_i (own_D c2))), iv (((0 : Int32) + (own_i (own_P c0))) + (own_i (own_P c1))), .unset] [(.int (2 : Int32)), (.ref b7), (.int (((0 : Int32) + (own_i (own_P c0))) + (own_i (own_P c1))))])) rfl rfl (hb hby at_346) _ k)
    have R317 : ∀ t, Steps p.tables e below (T311.setTop (mkF m 349 #[iv p0, iv p1, iv p2, iv p3, iv p4, iv ii, iv (4 : Int32), rv b7, rv b30, iv (own_i (own_wf s3 d3)), iv (own_i (((own_al c0 (0 : Int32)) && own_al c1 (1 : Int32)) && own_al c2 (2 : Int32))), iv ((((0 : Int32) + (own_i (own_D c0))) + (own_i (own_D c1))) + (own_i (own_D c2))), iv (((0 : Int32) + (own_i (own_P c0))) + (own_i (own_P c1))), .unset] [(.int (46 : Int32)), (.int c2), (.int (((0 : Int32) + (own_i (own_P c0))) + (own_i (own_P c1))))])) t → Steps p.tables e below (s₁.setTop f0) t := fun t k => R316 t (by
      show Steps p.tables e below (T311.setTop (mkF m 347 #[iv p0, iv p1, iv p2, iv p3, iv p4, iv ii, iv (4 : Int32), rv b7, rv b30, iv (own_i (own_wf s3 d3)), iv (own_i (((own_al c0 (0 : Int32)) && own_al c1 (1 : Int32)) && own_al c2 (2 : Int32))), iv ((((0 : Int32) + (own_i (own_D c0))) + (own_i (own_D c1))) + (own_i (own_D c2))), iv (((0 : Int32) + (own_i (own_P c0))) + (own_i (own_P c1))), .unset] [(.int c2), (.int (((0 : Int32) + (own_i (own_P c0))) + (own_i (own_P c1))))])) _
      refine XS.bipush X311.here hx rfl (hb hby at_347) ?_
      exact k)
    have R318 : ∀ t, Steps p.tables e below (T311.setTop (mkF m 357 #[iv p0, iv p1, iv p2, iv p3, iv p4, iv ii, iv (4 : Int32), rv b7, rv b30, iv (own_i (own_wf s3 d3)), iv (own_i (((own_al c0 (0 : Int32)) && own_al c1 (1 : Int32)) && own_al c2 (2 : Int32))), iv ((((0 : Int32) + (own_i (own_D c0))) + (own_i (own_D c1))) + (own_i (own_D c2))), iv (((0 : Int32) + (own_i (own_P c0))) + (own_i (own_P c1))), .unset] [(.int (own_i (own_P c2))), (.int (((0 : Int32) + (own_i (own_P c0))) + (own_i (own_P c1))))])) t → Steps p.tables e below (s₁.setTop f0) t := by
      intro t k
      refine R317 t ?_
      by_cases hm1 : c2 = (46 : Int32)
      · skip
        show Steps p.tables e below (T311.setTop (mkF m 349 #[iv p0, iv p1, iv p2, iv p3, iv p4, iv ii, iv (4 : Int32), rv b7, rv b30, iv (own_i (own_wf s3 d3)), iv (own_i (((own_al c0 (0 : Int32)) && own_al c1 (1 : Int32)) && own_al c2 (2 : Int32))), iv ((((0 : Int32) + (own_i (own_D c0))) + (own_i (own_D c1))) + (own_i (own_D c2))), iv (((0 : Int32) + (own_i (own_P c0))) + (own_i (own_P c1))), .unset] [(.int (46 : Int32)), (.int c2), (.int (((0 : Int32) + (own_i (own_P c0))) + (own_i (own_P c1))))])) _
        refine XS.icmpNo X311.here hx rfl (hb hby at_349) rfl (teq hm1).2 ?_
        refine XS.iconst X311.here hx rfl (hb hby at_352) ?_
        show Steps p.tables e below (T311.setTop (mkF m 353 #[iv p0, iv p1, iv p2, iv p3, iv p4, iv ii, iv (4 : Int32), rv b7, rv b30, iv (own_i (own_wf s3 d3)), iv (own_i (((own_al c0 (0 : Int32)) && own_al c1 (1 : Int32)) && own_al c2 (2 : Int32))), iv ((((0 : Int32) + (own_i (own_D c0))) + (own_i (own_D c1))) + (own_i (own_D c2))), iv (((0 : Int32) + (own_i (own_P c0))) + (own_i (own_P c1))), .unset] [(.int (1 : Int32)), (.int (((0 : Int32) + (own_i (own_P c0))) + (own_i (own_P c1))))])) _
        refine XS.goto X311.here hx rfl (pc0 := 353) (pc' := 357) rfl (hb hby at_353) (by decide) (by decide) ?_
        have hv : (own_i (own_P c2)) = (1 : Int32) := by (try simp only [lw_gt, lw_lt, lw_eq, own_i_eq0, Bool.not_eq_false] at hm1); simp [own_i, own_P, hm1]
        rw [hv] at k
        exact k
      · skip
        show Steps p.tables e below (T311.setTop (mkF m 349 #[iv p0, iv p1, iv p2, iv p3, iv p4, iv ii, iv (4 : Int32), rv b7, rv b30, iv (own_i (own_wf s3 d3)), iv (own_i (((own_al c0 (0 : Int32)) && own_al c1 (1 : Int32)) && own_al c2 (2 : Int32))), iv ((((0 : Int32) + (own_i (own_D c0))) + (own_i (own_D c1))) + (own_i (own_D c2))), iv (((0 : Int32) + (own_i (own_P c0))) + (own_i (own_P c1))), .unset] [(.int (46 : Int32)), (.int c2), (.int (((0 : Int32) + (own_i (own_P c0))) + (own_i (own_P c1))))])) _
        refine XS.icmpYes X311.here hx rfl (pc0 := 349) (pc' := 356) rfl (hb hby at_349) rfl (feq hm1).2 (by decide) (by decide) ?_
        refine XS.iconst X311.here hx rfl (hb hby at_356) ?_
        have hv : (own_i (own_P c2)) = (0 : Int32) := by (try simp only [lw_gt, lw_lt, lw_eq, own_i_eq0, Bool.not_eq_false] at hm1); simp [own_i, own_P, hm1]
        rw [hv] at k
        exact k
    have R319 : ∀ t, Steps p.tables e below (T311.setTop (mkF m 368 #[iv p0, iv p1, iv p2, iv p3, iv p4, iv ii, iv (4 : Int32), rv b7, rv b30, iv (own_i (own_wf s3 d3)), iv (own_i (((own_al c0 (0 : Int32)) && own_al c1 (1 : Int32)) && own_al c2 (2 : Int32))), iv ((((0 : Int32) + (own_i (own_D c0))) + (own_i (own_D c1))) + (own_i (own_D c2))), iv ((((0 : Int32) + (own_i (own_P c0))) + (own_i (own_P c1))) + (own_i (own_P c2))), .unset] [(.int (own_i (((own_al c0 (0 : Int32)) && own_al c1 (1 : Int32)) && own_al c2 (2 : Int32))))])) t → Steps p.tables e below (s₁.setTop f0) t := fun t k => R318 t (by
      show Steps p.tables e below (T311.setTop (mkF m 357 #[iv p0, iv p1, iv p2, iv p3, iv p4, iv ii, iv (4 : Int32), rv b7, rv b30, iv (own_i (own_wf s3 d3)), iv (own_i (((own_al c0 (0 : Int32)) && own_al c1 (1 : Int32)) && own_al c2 (2 : Int32))), iv ((((0 : Int32) + (own_i (own_D c0))) + (own_i (own_D c1))) + (own_i (own_D c2))), iv (((0 : Int32) + (own_i (own_P c0))) + (own_i (own_P c1))), .unset] [(.int (own_i (own_P c2))), (.int (((0 : Int32) + (own_i (own_P c0))) + (own_i (own_P c1))))])) _
      refine XS.iadd X311.here hx rfl (hb hby at_357) rfl ?_
      refine XS.istore X311.here hx rfl (hb hby at_358) rfl (l' := #[iv p0, iv p1, iv p2, iv p3, iv p4, iv ii, iv (4 : Int32), rv b7, rv b30, iv (own_i (own_wf s3 d3)), iv (own_i (((own_al c0 (0 : Int32)) && own_al c1 (1 : Int32)) && own_al c2 (2 : Int32))), iv ((((0 : Int32) + (own_i (own_D c0))) + (own_i (own_D c1))) + (own_i (own_D c2))), iv ((((0 : Int32) + (own_i (own_P c0))) + (own_i (own_P c1))) + (own_i (own_P c2))), .unset]) rfl ?_
      show Steps p.tables e below (T311.setTop (mkF m 360 #[iv p0, iv p1, iv p2, iv p3, iv p4, iv ii, iv (4 : Int32), rv b7, rv b30, iv (own_i (own_wf s3 d3)), iv (own_i (((own_al c0 (0 : Int32)) && own_al c1 (1 : Int32)) && own_al c2 (2 : Int32))), iv ((((0 : Int32) + (own_i (own_D c0))) + (own_i (own_D c1))) + (own_i (own_D c2))), iv ((((0 : Int32) + (own_i (own_P c0))) + (own_i (own_P c1))) + (own_i (own_P c2))), .unset] [])) _
      refine XS.iload X311.here hx rfl (hb hby at_360) rfl  ?_
      refine XS.iconst X311.here hx rfl (hb hby at_362) ?_
      show Steps p.tables e below (T311.setTop (mkF m 363 #[iv p0, iv p1, iv p2, iv p3, iv p4, iv ii, iv (4 : Int32), rv b7, rv b30, iv (own_i (own_wf s3 d3)), iv (own_i (((own_al c0 (0 : Int32)) && own_al c1 (1 : Int32)) && own_al c2 (2 : Int32))), iv ((((0 : Int32) + (own_i (own_D c0))) + (own_i (own_D c1))) + (own_i (own_D c2))), iv ((((0 : Int32) + (own_i (own_P c0))) + (own_i (own_P c1))) + (own_i (own_P c2))), .unset] [(.int (3 : Int32)), (.int (4 : Int32))])) _
      refine XS.icmpNo X311.here hx rfl (hb hby at_363) rfl (tlt (by decide : (3 : Int32) < (4 : Int32))).2.2.2 ?_
      refine XS.iload X311.here hx rfl (hb hby at_366) rfl  ?_
      exact k)
    obtain ⟨T329, L329, X329, N329, e329, R329⟩ : ∃ (T' : State) (L' : List Loc), Stand p l e room_1 s m #[(.int p0), (.int p1), (.int p2), (.int p3), (.int p4)] below meth c T' L' 2 12 ∧ Fr n0 L' ∧ T'.heap = T252.heap ∧ ∀ t, Steps p.tables e below (T'.setTop (mkF m 387 #[iv p0, iv p1, iv p2, iv p3, iv p4, iv ii, iv (4 : Int32), rv b7, rv b30, iv (own_i (own_wf s3 d3)), iv (own_i (((own_al c0 (0 : Int32)) && own_al c1 (1 : Int32)) && own_al c2 (2 : Int32))), iv ((((0 : Int32) + (own_i (own_D c0))) + (own_i (own_D c1))) + (own_i (own_D c2))), iv ((((0 : Int32) + (own_i (own_P c0))) + (own_i (own_P c1))) + (own_i (own_P c2))), .unset] [(.int (own_i ((((own_al c0 (0 : Int32)) && own_al c1 (1 : Int32)) && own_al c2 (2 : Int32)) && own_al c3 (3 : Int32))))])) t → Steps p.tables e below (s₁.setTop f0) t := by
      by_cases hg12 : (own_i (((own_al c0 (0 : Int32)) && own_al c1 (1 : Int32)) && own_al c2 (2 : Int32))) = (0 : Int32)
      · skip
        have R320 : ∀ t, Steps p.tables e below (T311.setTop (mkF m 387 #[iv p0, iv p1, iv p2, iv p3, iv p4, iv ii, iv (4 : Int32), rv b7, rv b30, iv (own_i (own_wf s3 d3)), iv (own_i (((own_al c0 (0 : Int32)) && own_al c1 (1 : Int32)) && own_al c2 (2 : Int32))), iv ((((0 : Int32) + (own_i (own_D c0))) + (own_i (own_D c1))) + (own_i (own_D c2))), iv ((((0 : Int32) + (own_i (own_P c0))) + (own_i (own_P c1))) + (own_i (own_P c2))), .unset] [(.int (0 : Int32))])) t → Steps p.tables e below (s₁.setTop f0) t := fun t k => R319 t (by
          show Steps p.tables e below (T311.setTop (mkF m 368 #[iv p0, iv p1, iv p2, iv p3, iv p4, iv ii, iv (4 : Int32), rv b7, rv b30, iv (own_i (own_wf s3 d3)), iv (own_i (((own_al c0 (0 : Int32)) && own_al c1 (1 : Int32)) && own_al c2 (2 : Int32))), iv ((((0 : Int32) + (own_i (own_D c0))) + (own_i (own_D c1))) + (own_i (own_D c2))), iv ((((0 : Int32) + (own_i (own_P c0))) + (own_i (own_P c1))) + (own_i (own_P c2))), .unset] [(.int (own_i (((own_al c0 (0 : Int32)) && own_al c1 (1 : Int32)) && own_al c2 (2 : Int32))))])) _
          refine XS.ifYes X311.here hx rfl (pc0 := 368) (pc' := 386) rfl (hb hby at_368) rfl ((if0 _ _).trans (teq hg12).1) (by decide) (by decide) ?_
          refine XS.iconst X311.here hx rfl (hb hby at_386) ?_
          exact k)
        have hv0 : (own_i ((((own_al c0 (0 : Int32)) && own_al c1 (1 : Int32)) && own_al c2 (2 : Int32)) && own_al c3 (3 : Int32))) = (0 : Int32) := by (try simp only [lw_gt, lw_lt, lw_eq, own_i_eq0, Bool.not_eq_false] at hg12); simp [own_i, hg12]
        rw [hv0]
        exact ⟨T311, _, X311, N311, p311_0, R320⟩
      · skip
        have R321 : ∀ t, Steps p.tables e below (T311.setTop (mkF m 374 #[iv p0, iv p1, iv p2, iv p3, iv p4, iv ii, iv (4 : Int32), rv b7, rv b30, iv (own_i (own_wf s3 d3)), iv (own_i (((own_al c0 (0 : Int32)) && own_al c1 (1 : Int32)) && own_al c2 (2 : Int32))), iv ((((0 : Int32) + (own_i (own_D c0))) + (own_i (own_D c1))) + (own_i (own_D c2))), iv ((((0 : Int32) + (own_i (own_P c0))) + (own_i (own_P c1))) + (own_i (own_P c2))), .unset] [(.int (3 : Int32)), (.ref b7)])) t → Steps p.tables e below (s₁.setTop f0) t := fun t k => R319 t (by
          show Steps p.tables e below (T311.setTop (mkF m 368 #[iv p0, iv p1, iv p2, iv p3, iv p4, iv ii, iv (4 : Int32), rv b7, rv b30, iv (own_i (own_wf s3 d3)), iv (own_i (((own_al c0 (0 : Int32)) && own_al c1 (1 : Int32)) && own_al c2 (2 : Int32))), iv ((((0 : Int32) + (own_i (own_D c0))) + (own_i (own_D c1))) + (own_i (own_D c2))), iv ((((0 : Int32) + (own_i (own_P c0))) + (own_i (own_P c1))) + (own_i (own_P c2))), .unset] [(.int (own_i (((own_al c0 (0 : Int32)) && own_al c1 (1 : Int32)) && own_al c2 (2 : Int32))))])) _
          refine XS.ifNo X311.here hx rfl (hb hby at_368) rfl ((if0 _ _).trans (feq hg12).1) ?_
          refine XS.aload X311.here hx rfl (hb hby at_371) rfl rfl ?_
          show Steps p.tables e below (T311.setTop (mkF m 373 #[iv p0, iv p1, iv p2, iv p3, iv p4, iv ii, iv (4 : Int32), rv b7, rv b30, iv (own_i (own_wf s3 d3)), iv (own_i (((own_al c0 (0 : Int32)) && own_al c1 (1 : Int32)) && own_al c2 (2 : Int32))), iv ((((0 : Int32) + (own_i (own_D c0))) + (own_i (own_D c1))) + (own_i (own_D c2))), iv ((((0 : Int32) + (own_i (own_P c0))) + (own_i (own_P c1))) + (own_i (own_P c2))), .unset] [(.ref b7)])) _
          refine XS.iconst X311.here hx rfl (hb hby at_373) ?_
          exact k)
        obtain ⟨cl322, Ar322, q322, S322, n322_, H322, G322⟩ := id f252_A_b7
        have hin322 : ¬ ((3 : Int32) < 0 ∨ cl322.slots.size ≤ ((3 : Int32)).toNatClampNeg) := inb_of S322 ⟨by decide, by decide⟩
        have hat322 : cl322.slots[((3 : Int32)).toNatClampNeg]? = some (.int c3) := Has.at H322 hin322 rfl
        have R323 : ∀ t, Steps p.tables e below (T311.setTop (mkF m 375 #[iv p0, iv p1, iv p2, iv p3, iv p4, iv ii, iv (4 : Int32), rv b7, rv b30, iv (own_i (own_wf s3 d3)), iv (own_i (((own_al c0 (0 : Int32)) && own_al c1 (1 : Int32)) && own_al c2 (2 : Int32))), iv ((((0 : Int32) + (own_i (own_D c0))) + (own_i (own_D c1))) + (own_i (own_D c2))), iv ((((0 : Int32) + (own_i (own_P c0))) + (own_i (own_P c1))) + (own_i (own_P c2))), .unset] [(.int c3)])) t → Steps p.tables e below (s₁.setTop f0) t := fun t k => R321 t (X311.caload hx (j := (3 : Int32)) (v := (.int c3)) (by rw [p311_0]; exact Ar322.1) (State.isArrayOf_alike hZ.alike Ar322.2.1) Ar322.2.2 hin322 hat322 (g := (mkF m 374 #[iv p0, iv p1, iv p2, iv p3, iv p4, iv ii, iv (4 : Int32), rv b7, rv b30, iv (own_i (own_wf s3 d3)), iv (own_i (((own_al c0 (0 : Int32)) && own_al c1 (1 : Int32)) && own_al c2 (2 : Int32))), iv ((((0 : Int32) + (own_i (own_D c0))) + (own_i (own_D c1))) + (own_i (own_D c2))), iv ((((0 : Int32) + (own_i (own_P c0))) + (own_i (own_P c1))) + (own_i (own_P c2))), .unset] [(.int (3 : Int32)), (.ref b7)])) rfl rfl (hb hby at_374) _ k)
        have R324 : ∀ t, Steps p.tables e below (T311.setTop (mkF m 376 #[iv p0, iv p1, iv p2, iv p3, iv p4, iv ii, iv (4 : Int32), rv b7, rv b30, iv (own_i (own_wf s3 d3)), iv (own_i (((own_al c0 (0 : Int32)) && own_al c1 (1 : Int32)) && own_al c2 (2 : Int32))), iv ((((0 : Int32) + (own_i (own_D c0))) + (own_i (own_D c1))) + (own_i (own_D c2))), iv ((((0 : Int32) + (own_i (own_P c0))) + (own_i (own_P c1))) + (own_i (own_P c2))), .unset] [(.int (3 : Int32)), (.int c3)])) t → Steps p.tables e below (s₁.setTop f0) t := fun t k => R323 t (by
          show Steps p.tables e below (T311.setTop (mkF m 375 #[iv p0, iv p1, iv p2, iv p3, iv p4, iv ii, iv (4 : Int32), rv b7, rv b30, iv (own_i (own_wf s3 d3)), iv (own_i (((own_al c0 (0 : Int32)) && own_al c1 (1 : Int32)) && own_al c2 (2 : Int32))), iv ((((0 : Int32) + (own_i (own_D c0))) + (own_i (own_D c1))) + (own_i (own_D c2))), iv ((((0 : Int32) + (own_i (own_P c0))) + (own_i (own_P c1))) + (own_i (own_P c2))), .unset] [(.int c3)])) _
          refine XS.iconst X311.here hx rfl (hb hby at_375) ?_
          exact k)
        obtain ⟨_, _, ⟨T325, L325, k325, n325⟩, -, X325, ⟨Lc325, hQ325, l325, y325, z325⟩, st325⟩ := Jvm.LawKit.callS X311 hx (y := (⟨sN5, "allowed", "(CI)Z"⟩ : MethodName)) hown (mvT hZ (hw _ (List.mem_of_getElem? (i := 73) rfl))) (mvT hZ (hw _ (List.mem_of_getElem? (i := 74) rfl))) (mvT hZ (hw _ (List.mem_of_getElem? (i := 3) rfl))) (mvT hZ (hw _ (List.mem_of_getElem? (i := 75) rfl))) (by decide) (backOf (W := 0) (rmAll l Z a0 hw [] c3 (3 : Int32) T252.heap n0 z252) hZ (hw _ (List.mem_of_getElem? (i := 75) rfl)) (hw _ (List.mem_of_getElem? (i := 3) rfl)) (by decide) (by decide)) (g := (mkF m 376 #[iv p0, iv p1, iv p2, iv p3, iv p4, iv ii, iv (4 : Int32), rv b7, rv b30, iv (own_i (own_wf s3 d3)), iv (own_i (((own_al c0 (0 : Int32)) && own_al c1 (1 : Int32)) && own_al c2 (2 : Int32))), iv ((((0 : Int32) + (own_i (own_D c0))) + (own_i (own_D c1))) + (own_i (own_D c2))), iv ((((0 : Int32) + (own_i (own_P c0))) + (own_i (own_P c1))) + (own_i (own_P c2))), .unset] [(.int (3 : Int32)), (.int c3)])) rfl (by rw [hml]; rfl) (argsL := [(.int c3), (.int (3 : Int32))]) (rest := []) (lenOf pd_11 rfl) rfl (by show 2 * 0 + _ ≤ _; exact Nat.le_of_eq rfl) (hb hby at_376) (fun _ _ => ⟨rfl, p311_0, (by decide : 2 + 0 ≤ _), (by decide : 12 + 0 ≤ _)⟩)
        dsimp only [Pt.U, Pt.locs, Pt.cells, Pt.slots] at X325 l325 y325 z325 st325 hQ325
        subst l325 y325 z325
        obtain ⟨rfl, N325q, p325_0⟩ := hQ325
        have N325 := Fr.app N311 N325q
        have R326 : ∀ t, Steps p.tables e below (T325.setTop (mkF m 379 #[iv p0, iv p1, iv p2, iv p3, iv p4, iv ii, iv (4 : Int32), rv b7, rv b30, iv (own_i (own_wf s3 d3)), iv (own_i (((own_al c0 (0 : Int32)) && own_al c1 (1 : Int32)) && own_al c2 (2 : Int32))), iv ((((0 : Int32) + (own_i (own_D c0))) + (own_i (own_D c1))) + (own_i (own_D c2))), iv ((((0 : Int32) + (own_i (own_P c0))) + (own_i (own_P c1))) + (own_i (own_P c2))), .unset] [(.int (own_i (own_al c3 (3 : Int32))))])) t → Steps p.tables e below (s₁.setTop f0) t := fun t k => R324 t (st325 t k)
        by_cases hg13 : (own_i (own_al c3 (3 : Int32))) = (0 : Int32)
        · skip
          have R327 : ∀ t, Steps p.tables e below (T325.setTop (mkF m 387 #[iv p0, iv p1, iv p2, iv p3, iv p4, iv ii, iv (4 : Int32), rv b7, rv b30, iv (own_i (own_wf s3 d3)), iv (own_i (((own_al c0 (0 : Int32)) && own_al c1 (1 : Int32)) && own_al c2 (2 : Int32))), iv ((((0 : Int32) + (own_i (own_D c0))) + (own_i (own_D c1))) + (own_i (own_D c2))), iv ((((0 : Int32) + (own_i (own_P c0))) + (own_i (own_P c1))) + (own_i (own_P c2))), .unset] [(.int (0 : Int32))])) t → Steps p.tables e below (s₁.setTop f0) t := fun t k => R326 t (by
            show Steps p.tables e below (T325.setTop (mkF m 379 #[iv p0, iv p1, iv p2, iv p3, iv p4, iv ii, iv (4 : Int32), rv b7, rv b30, iv (own_i (own_wf s3 d3)), iv (own_i (((own_al c0 (0 : Int32)) && own_al c1 (1 : Int32)) && own_al c2 (2 : Int32))), iv ((((0 : Int32) + (own_i (own_D c0))) + (own_i (own_D c1))) + (own_i (own_D c2))), iv ((((0 : Int32) + (own_i (own_P c0))) + (own_i (own_P c1))) + (own_i (own_P c2))), .unset] [(.int (own_i (own_al c3 (3 : Int32))))])) _
            refine XS.ifYes X325.here hx rfl (pc0 := 379) (pc' := 386) rfl (hb hby at_379) rfl ((if0 _ _).trans (teq hg13).1) (by decide) (by decide) ?_
            refine XS.iconst X325.here hx rfl (hb hby at_386) ?_
            exact k)
          have hv0 : (own_i ((((own_al c0 (0 : Int32)) && own_al c1 (1 : Int32)) && own_al c2 (2 : Int32)) && own_al c3 (3 : Int32))) = (0 : Int32) := by (try simp only [lw_gt, lw_lt, lw_eq, own_i_eq0, Bool.not_eq_false] at hg12); (try simp only [lw_gt, lw_lt, lw_eq, own_i_eq0, Bool.not_eq_false] at hg13); simp [own_i, hg12, hg13]
          rw [hv0]
          exact ⟨T325, _, X325, N325, p325_0, R327⟩
        · skip
          have R328 : ∀ t, Steps p.tables e below (T325.setTop (mkF m 387 #[iv p0, iv p1, iv p2, iv p3, iv p4, iv ii, iv (4 : Int32), rv b7, rv b30, iv (own_i (own_wf s3 d3)), iv (own_i (((own_al c0 (0 : Int32)) && own_al c1 (1 : Int32)) && own_al c2 (2 : Int32))), iv ((((0 : Int32) + (own_i (own_D c0))) + (own_i (own_D c1))) + (own_i (own_D c2))), iv ((((0 : Int32) + (own_i (own_P c0))) + (own_i (own_P c1))) + (own_i (own_P c2))), .unset] [(.int (1 : Int32))])) t → Steps p.tables e below (s₁.setTop f0) t := fun t k => R326 t (by
            show Steps p.tables e below (T325.setTop (mkF m 379 #[iv p0, iv p1, iv p2, iv p3, iv p4, iv ii, iv (4 : Int32), rv b7, rv b30, iv (own_i (own_wf s3 d3)), iv (own_i (((own_al c0 (0 : Int32)) && own_al c1 (1 : Int32)) && own_al c2 (2 : Int32))), iv ((((0 : Int32) + (own_i (own_D c0))) + (own_i (own_D c1))) + (own_i (own_D c2))), iv ((((0 : Int32) + (own_i (own_P c0))) + (own_i (own_P c1))) + (own_i (own_P c2))), .unset] [(.int (own_i (own_al c3 (3 : Int32))))])) _
            refine XS.ifNo X325.here hx rfl (hb hby at_379) rfl ((if0 _ _).trans (feq hg13).1) ?_
            refine XS.iconst X325.here hx rfl (hb hby at_382) ?_
            show Steps p.tables e below (T325.setTop (mkF m 383 #[iv p0, iv p1, iv p2, iv p3, iv p4, iv ii, iv (4 : Int32), rv b7, rv b30, iv (own_i (own_wf s3 d3)), iv (own_i (((own_al c0 (0 : Int32)) && own_al c1 (1 : Int32)) && own_al c2 (2 : Int32))), iv ((((0 : Int32) + (own_i (own_D c0))) + (own_i (own_D c1))) + (own_i (own_D c2))), iv ((((0 : Int32) + (own_i (own_P c0))) + (own_i (own_P c1))) + (own_i (own_P c2))), .unset] [(.int (1 : Int32))])) _
            refine XS.goto X325.here hx rfl (pc0 := 383) (pc' := 387) rfl (hb hby at_383) (by decide) (by decide) ?_
            exact k)
          have hv0 : (own_i ((((own_al c0 (0 : Int32)) && own_al c1 (1 : Int32)) && own_al c2 (2 : Int32)) && own_al c3 (3 : Int32))) = (1 : Int32) := by (try simp only [lw_gt, lw_lt, lw_eq, own_i_eq0, Bool.not_eq_false] at hg12); (try simp only [lw_gt, lw_lt, lw_eq, own_i_eq0, Bool.not_eq_false] at hg13); simp [own_i, hg12, hg13]
          rw [hv0]
          exact ⟨T325, _, X325, N325, p325_0, R328⟩
    have R330 : ∀ t, Steps p.tables e below (T329.setTop (mkF m 394 #[iv p0, iv p1, iv p2, iv p3, iv p4, iv ii, iv (4 : Int32), rv b7, rv b30, iv (own_i (own_wf s3 d3)), iv (own_i ((((own_al c0 (0 : Int32)) && own_al c1 (1 : Int32)) && own_al c2 (2 : Int32)) && own_al c3 (3 : Int32))), iv ((((0 : Int32) + (own_i (own_D c0))) + (own_i (own_D c1))) + (own_i (own_D c2))), iv ((((0 : Int32) + (own_i (own_P c0))) + (own_i (own_P c1))) + (own_i (own_P c2))), .unset] [(.int (3 : Int32)), (.ref b7), (.int ((((0 : Int32) + (own_i (own_D c0))) + (own_i (own_D c1))) + (own_i (own_D c2))))])) t → Steps p.tables e below (s₁.setTop f0) t := fun t k => R329 t (by
      show Steps p.tables e below (T329.setTop (mkF m 387 #[iv p0, iv p1, iv p2, iv p3, iv p4, iv ii, iv (4 : Int32), rv b7, rv b30, iv (own_i (own_wf s3 d3)), iv (own_i (((own_al c0 (0 : Int32)) && own_al c1 (1 : Int32)) && own_al c2 (2 : Int32))), iv ((((0 : Int32) + (own_i (own_D c0))) + (own_i (own_D c1))) + (own_i (own_D c2))), iv ((((0 : Int32) + (own_i (own_P c0))) + (own_i (own_P c1))) + (own_i (own_P c2))), .unset] [(.int (own_i ((((own_al c0 (0 : Int32)) && own_al c1 (1 : Int32)) && own_al c2 (2 : Int32)) && own_al c3 (3 : Int32))))])) _
      refine XS.istore X329.here hx rfl (hb hby at_387) rfl (l' := #[iv p0, iv p1, iv p2, iv p3, iv p4, iv ii, iv (4 : Int32), rv b7, rv b30, iv (own_i (own_wf s3 d3)), iv (own_i ((((own_al c0 (0 : Int32)) && own_al c1 (1 : Int32)) && own_al c2 (2 : Int32)) && own_al c3 (3 : Int32))), iv ((((0 : Int32) + (own_i (own_D c0))) + (own_i (own_D c1))) + (own_i (own_D c2))), iv ((((0 : Int32) + (own_i (own_P c0))) + (own_i (own_P c1))) + (own_i (own_P c2))), .unset]) rfl ?_
      refine XS.iload X329.here hx rfl (hb hby at_389) rfl  ?_
      show Steps p.tables e below (T329.setTop (mkF m 391 #[iv p0, iv p1, iv p2, iv p3, iv p4, iv ii, iv (4 : Int32), rv b7, rv b30, iv (own_i (own_wf s3 d3)), iv (own_i ((((own_al c0 (0 : Int32)) && own_al c1 (1 : Int32)) && own_al c2 (2 : Int32)) && own_al c3 (3 : Int32))), iv ((((0 : Int32) + (own_i (own_D c0))) + (own_i (own_D c1))) + (own_i (own_D c2))), iv ((((0 : Int32) + (own_i (own_P c0))) + (own_i (own_P c1))) + (own_i (own_P c2))), .unset] [(.int ((((0 : Int32) + (own_i (own_D c0))) + (own_i (own_D c1))) + (own_i (own_D c2))))])) _
      refine XS.aload X329.here hx rfl (hb hby at_391) rfl rfl ?_
      refine XS.iconst X329.here hx rfl (hb hby at_393) ?_
      exact k)
    obtain ⟨cl331, Ar331, q331, S331, n331_, H331, G331⟩ := id f252_A_b7
    have hin331 : ¬ ((3 : Int32) < 0 ∨ cl331.slots.size ≤ ((3 : Int32)).toNatClampNeg) := inb_of S331 ⟨by decide, by decide⟩
    have hat331 : cl331.slots[((3 : Int32)).toNatClampNeg]? = some (.int c3) := Has.at H331 hin331 rfl
    have R332 : ∀ t, Steps p.tables e below (T329.setTop (mkF m 395 #[iv p0, iv p1, iv p2, iv p3, iv p4, iv ii, iv (4 : Int32), rv b7, rv b30, iv (own_i (own_wf s3 d3)), iv (own_i ((((own_al c0 (0 : Int32)) && own_al c1 (1 : Int32)) && own_al c2 (2 : Int32)) && own_al c3 (3 : Int32))), iv ((((0 : Int32) + (own_i (own_D c0))) + (own_i (own_D c1))) + (own_i (own_D c2))), iv ((((0 : Int32) + (own_i (own_P c0))) + (own_i (own_P c1))) + (own_i (own_P c2))), .unset] [(.int c3), (.int ((((0 : Int32) + (own_i (own_D c0))) + (own_i (own_D c1))) + (own_i (own_D c2))))])) t → Steps p.tables e below (s₁.setTop f0) t := fun t k => R330 t (X329.caload hx (j := (3 : Int32)) (v := (.int c3)) (by rw [e329]; exact Ar331.1) (State.isArrayOf_alike hZ.alike Ar331.2.1) Ar331.2.2 hin331 hat331 (g := (mkF m 394 #[iv p0, iv p1, iv p2, iv p3, iv p4, iv ii, iv (4 : Int32), rv b7, rv b30, iv (own_i (own_wf s3 d3)), iv (own_i ((((own_al c0 (0 : Int32)) && own_al c1 (1 : Int32)) && own_al c2 (2 : Int32)) && own_al c3 (3 : Int32))), iv ((((0 : Int32) + (own_i (own_D c0))) + (own_i (own_D c1))) + (own_i (own_D c2))), iv ((((0 : Int32) + (own_i (own_P c0))) + (own_i (own_P c1))) + (own_i (own_P c2))), .unset] [(.int (3 : Int32)), (.ref b7), (.int ((((0 : Int32) + (own_i (own_D c0))) + (own_i (own_D c1))) + (own_i (own_D c2))))])) rfl rfl (hb hby at_394) _ k)
    obtain ⟨_, _, ⟨T333, L333, k333, n333⟩, -, X333, ⟨Lc333, hQ333, l333, y333, z333⟩, st333⟩ := Jvm.LawKit.callS X329 hx (y := (⟨sN5, "isDigit", "(C)Z"⟩ : MethodName)) hown (mvT hZ (hw _ (List.mem_of_getElem? (i := 76) rfl))) (mvT hZ (hw _ (List.mem_of_getElem? (i := 77) rfl))) (mvT hZ (hw _ (List.mem_of_getElem? (i := 3) rfl))) (mvT hZ (hw _ (List.mem_of_getElem? (i := 78) rfl))) (by decide) (backOf (W := 1) (rmIsd l Z a0 hw [] c3 T252.heap n0 z252) hZ (hw _ (List.mem_of_getElem? (i := 78) rfl)) (hw _ (List.mem_of_getElem? (i := 3) rfl)) (by decide) (by decide)) (g := (mkF m 395 #[iv p0, iv p1, iv p2, iv p3, iv p4, iv ii, iv (4 : Int32), rv b7, rv b30, iv (own_i (own_wf s3 d3)), iv (own_i ((((own_al c0 (0 : Int32)) && own_al c1 (1 : Int32)) && own_al c2 (2 : Int32)) && own_al c3 (3 : Int32))), iv ((((0 : Int32) + (own_i (own_D c0))) + (own_i (own_D c1))) + (own_i (own_D c2))), iv ((((0 : Int32) + (own_i (own_P c0))) + (own_i (own_P c1))) + (own_i (own_P c2))), .unset] [(.int c3), (.int ((((0 : Int32) + (own_i (own_D c0))) + (own_i (own_D c1))) + (own_i (own_D c2))))])) rfl (by rw [hml]; rfl) (argsL := [(.int c3)]) (rest := [(.int ((((0 : Int32) + (own_i (own_D c0))) + (own_i (own_D c1))) + (own_i (own_D c2))))]) (lenOf pd_5 rfl) rfl (by show 2 * 0 + _ ≤ _; exact Nat.le_of_eq rfl) (hb hby at_395) (fun _ _ => ⟨rfl, e329, (by decide : 2 + 0 ≤ _), (by decide : 12 + 0 ≤ _)⟩)
    dsimp only [Pt.U, Pt.locs, Pt.cells, Pt.slots] at X333 l333 y333 z333 st333 hQ333
    subst l333 y333 z333
    obtain ⟨rfl, N333q, p333_0⟩ := hQ333
    have N333 := Fr.app N329 N333q
    have R334 : ∀ t, Steps p.tables e below (T333.setTop (mkF m 398 #[iv p0, iv p1, iv p2, iv p3, iv p4, iv ii, iv (4 : Int32), rv b7, rv b30, iv (own_i (own_wf s3 d3)), iv (own_i ((((own_al c0 (0 : Int32)) && own_al c1 (1 : Int32)) && own_al c2 (2 : Int32)) && own_al c3 (3 : Int32))), iv ((((0 : Int32) + (own_i (own_D c0))) + (own_i (own_D c1))) + (own_i (own_D c2))), iv ((((0 : Int32) + (own_i (own_P c0))) + (own_i (own_P c1))) + (own_i (own_P c2))), .unset] [(.int (own_i (own_D c3))), (.int ((((0 : Int32) + (own_i (own_D c0))) + (own_i (own_D c1))) + (own_i (own_D c2))))])) t → Steps p.tables e below (s₁.setTop f0) t := fun t k => R332 t (st333 t k)
    have R335 : ∀ t, Steps p.tables e below (T333.setTop (mkF m 406 #[iv p0, iv p1, iv p2, iv p3, iv p4, iv ii, iv (4 : Int32), rv b7, rv b30, iv (own_i (own_wf s3 d3)), iv (own_i ((((own_al c0 (0 : Int32)) && own_al c1 (1 : Int32)) && own_al c2 (2 : Int32)) && own_al c3 (3 : Int32))), iv ((((0 : Int32) + (own_i (own_D c0))) + (own_i (own_D c1))) + (own_i (own_D c2))), iv ((((0 : Int32) + (own_i (own_P c0))) + (own_i (own_P c1))) + (own_i (own_P c2))), .unset] [(.int (own_i (own_D c3))), (.int ((((0 : Int32) + (own_i (own_D c0))) + (own_i (own_D c1))) + (own_i (own_D c2))))])) t → Steps p.tables e below (s₁.setTop f0) t := by
      intro t k
      refine R334 t ?_
      by_cases hm1 : (own_i (own_D c3)) = (0 : Int32)
      · skip
        show Steps p.tables e below (T333.setTop (mkF m 398 #[iv p0, iv p1, iv p2, iv p3, iv p4, iv ii, iv (4 : Int32), rv b7, rv b30, iv (own_i (own_wf s3 d3)), iv (own_i ((((own_al c0 (0 : Int32)) && own_al c1 (1 : Int32)) && own_al c2 (2 : Int32)) && own_al c3 (3 : Int32))), iv ((((0 : Int32) + (own_i (own_D c0))) + (own_i (own_D c1))) + (own_i (own_D c2))), iv ((((0 : Int32) + (own_i (own_P c0))) + (own_i (own_P c1))) + (own_i (own_P c2))), .unset] [(.int (own_i (own_D c3))), (.int ((((0 : Int32) + (own_i (own_D c0))) + (own_i (own_D c1))) + (own_i (own_D c2))))])) _
        refine XS.ifYes X333.here hx rfl (pc0 := 398) (pc' := 405) rfl (hb hby at_398) rfl ((if0 _ _).trans (teq hm1).1) (by decide) (by decide) ?_
        refine XS.iconst X333.here hx rfl (hb hby at_405) ?_
        have hv : (own_i (own_D c3)) = (0 : Int32) := by (try simp only [lw_gt, lw_lt, lw_eq, own_i_eq0, Bool.not_eq_false] at hm1); simp [own_i, hm1]
        rw [hv] at k
        exact k
      · skip
        show Steps p.tables e below (T333.setTop (mkF m 398 #[iv p0, iv p1, iv p2, iv p3, iv p4, iv ii, iv (4 : Int32), rv b7, rv b30, iv (own_i (own_wf s3 d3)), iv (own_i ((((own_al c0 (0 : Int32)) && own_al c1 (1 : Int32)) && own_al c2 (2 : Int32)) && own_al c3 (3 : Int32))), iv ((((0 : Int32) + (own_i (own_D c0))) + (own_i (own_D c1))) + (own_i (own_D c2))), iv ((((0 : Int32) + (own_i (own_P c0))) + (own_i (own_P c1))) + (own_i (own_P c2))), .unset] [(.int (own_i (own_D c3))), (.int ((((0 : Int32) + (own_i (own_D c0))) + (own_i (own_D c1))) + (own_i (own_D c2))))])) _
        refine XS.ifNo X333.here hx rfl (hb hby at_398) rfl ((if0 _ _).trans (feq hm1).1) ?_
        refine XS.iconst X333.here hx rfl (hb hby at_401) ?_
        show Steps p.tables e below (T333.setTop (mkF m 402 #[iv p0, iv p1, iv p2, iv p3, iv p4, iv ii, iv (4 : Int32), rv b7, rv b30, iv (own_i (own_wf s3 d3)), iv (own_i ((((own_al c0 (0 : Int32)) && own_al c1 (1 : Int32)) && own_al c2 (2 : Int32)) && own_al c3 (3 : Int32))), iv ((((0 : Int32) + (own_i (own_D c0))) + (own_i (own_D c1))) + (own_i (own_D c2))), iv ((((0 : Int32) + (own_i (own_P c0))) + (own_i (own_P c1))) + (own_i (own_P c2))), .unset] [(.int (1 : Int32)), (.int ((((0 : Int32) + (own_i (own_D c0))) + (own_i (own_D c1))) + (own_i (own_D c2))))])) _
        refine XS.goto X333.here hx rfl (pc0 := 402) (pc' := 406) rfl (hb hby at_402) (by decide) (by decide) ?_
        have hv : (own_i (own_D c3)) = (1 : Int32) := by (try simp only [lw_gt, lw_lt, lw_eq, own_i_eq0, Bool.not_eq_false] at hm1); simp [own_i, hm1]
        rw [hv] at k
        exact k
    have R336 : ∀ t, Steps p.tables e below (T333.setTop (mkF m 414 #[iv p0, iv p1, iv p2, iv p3, iv p4, iv ii, iv (4 : Int32), rv b7, rv b30, iv (own_i (own_wf s3 d3)), iv (own_i ((((own_al c0 (0 : Int32)) && own_al c1 (1 : Int32)) && own_al c2 (2 : Int32)) && own_al c3 (3 : Int32))), iv (((((0 : Int32) + (own_i (own_D c0))) + (own_i (own_D c1))) + (own_i (own_D c2))) + (own_i (own_D c3))), iv ((((0 : Int32) + (own_i (own_P c0))) + (own_i (own_P c1))) + (own_i (own_P c2))), .unset] [(.int (3 : Int32)), (.ref b7), (.int ((((0 : Int32) + (own_i (own_P c0))) + (own_i (own_P c1))) + (own_i (own_P c2))))])) t → Steps p.tables e below (s₁.setTop f0) t := fun t k => R335 t (by
      show Steps p.tables e below (T333.setTop (mkF m 406 #[iv p0, iv p1, iv p2, iv p3, iv p4, iv ii, iv (4 : Int32), rv b7, rv b30, iv (own_i (own_wf s3 d3)), iv (own_i ((((own_al c0 (0 : Int32)) && own_al c1 (1 : Int32)) && own_al c2 (2 : Int32)) && own_al c3 (3 : Int32))), iv ((((0 : Int32) + (own_i (own_D c0))) + (own_i (own_D c1))) + (own_i (own_D c2))), iv ((((0 : Int32) + (own_i (own_P c0))) + (own_i (own_P c1))) + (own_i (own_P c2))), .unset] [(.int (own_i (own_D c3))), (.int ((((0 : Int32) + (own_i (own_D c0))) + (own_i (own_D c1))) + (own_i (own_D c2))))])) _
      refine XS.iadd X333.here hx rfl (hb hby at_406) rfl ?_
      refine XS.istore X333.here hx rfl (hb hby at_407) rfl (l' := #[iv p0, iv p1, iv p2, iv p3, iv p4, iv ii, iv (4 : Int32), rv b7, rv b30, iv (own_i (own_wf s3 d3)), iv (own_i ((((own_al c0 (0 : Int32)) && own_al c1 (1 : Int32)) && own_al c2 (2 : Int32)) && own_al c3 (3 : Int32))), iv (((((0 : Int32) + (own_i (own_D c0))) + (own_i (own_D c1))) + (own_i (own_D c2))) + (own_i (own_D c3))), iv ((((0 : Int32) + (own_i (own_P c0))) + (own_i (own_P c1))) + (own_i (own_P c2))), .unset]) rfl ?_
      show Steps p.tables e below (T333.setTop (mkF m 409 #[iv p0, iv p1, iv p2, iv p3, iv p4, iv ii, iv (4 : Int32), rv b7, rv b30, iv (own_i (own_wf s3 d3)), iv (own_i ((((own_al c0 (0 : Int32)) && own_al c1 (1 : Int32)) && own_al c2 (2 : Int32)) && own_al c3 (3 : Int32))), iv (((((0 : Int32) + (own_i (own_D c0))) + (own_i (own_D c1))) + (own_i (own_D c2))) + (own_i (own_D c3))), iv ((((0 : Int32) + (own_i (own_P c0))) + (own_i (own_P c1))) + (own_i (own_P c2))), .unset] [])) _
      refine XS.iload X333.here hx rfl (hb hby at_409) rfl  ?_
      refine XS.aload X333.here hx rfl (hb hby at_411) rfl rfl ?_
      show Steps p.tables e below (T333.setTop (mkF m 413 #[iv p0, iv p1, iv p2, iv p3, iv p4, iv ii, iv (4 : Int32), rv b7, rv b30, iv (own_i (own_wf s3 d3)), iv (own_i ((((own_al c0 (0 : Int32)) && own_al c1 (1 : Int32)) && own_al c2 (2 : Int32)) && own_al c3 (3 : Int32))), iv (((((0 : Int32) + (own_i (own_D c0))) + (own_i (own_D c1))) + (own_i (own_D c2))) + (own_i (own_D c3))), iv ((((0 : Int32) + (own_i (own_P c0))) + (own_i (own_P c1))) + (own_i (own_P c2))), .unset] [(.ref b7), (.int ((((0 : Int32) + (own_i (own_P c0))) + (own_i (own_P c1))) + (own_i (own_P c2))))])) _
      refine XS.iconst X333.here hx rfl (hb hby at_413) ?_
      exact k)
    obtain ⟨cl337, Ar337, q337, S337, n337_, H337, G337⟩ := id f252_A_b7
    have hin337 : ¬ ((3 : Int32) < 0 ∨ cl337.slots.size ≤ ((3 : Int32)).toNatClampNeg) := inb_of S337 ⟨by decide, by decide⟩
    have hat337 : cl337.slots[((3 : Int32)).toNatClampNeg]? = some (.int c3) := Has.at H337 hin337 rfl
    have R338 : ∀ t, Steps p.tables e below (T333.setTop (mkF m 415 #[iv p0, iv p1, iv p2, iv p3, iv p4, iv ii, iv (4 : Int32), rv b7, rv b30, iv (own_i (own_wf s3 d3)), iv (own_i ((((own_al c0 (0 : Int32)) && own_al c1 (1 : Int32)) && own_al c2 (2 : Int32)) && own_al c3 (3 : Int32))), iv (((((0 : Int32) + (own_i (own_D c0))) + (own_i (own_D c1))) + (own_i (own_D c2))) + (own_i (own_D c3))), iv ((((0 : Int32) + (own_i (own_P c0))) + (own_i (own_P c1))) + (own_i (own_P c2))), .unset] [(.int c3), (.int ((((0 : Int32) + (own_i (own_P c0))) + (own_i (own_P c1))) + (own_i (own_P c2))))])) t → Steps p.tables e below (s₁.setTop f0) t := fun t k => R336 t (X333.caload hx (j := (3 : Int32)) (v := (.int c3)) (by rw [p333_0]; exact Ar337.1) (State.isArrayOf_alike hZ.alike Ar337.2.1) Ar337.2.2 hin337 hat337 (g := (mkF m 414 #[iv p0, iv p1, iv p2, iv p3, iv p4, iv ii, iv (4 : Int32), rv b7, rv b30, iv (own_i (own_wf s3 d3)), iv (own_i ((((own_al c0 (0 : Int32)) && own_al c1 (1 : Int32)) && own_al c2 (2 : Int32)) && own_al c3 (3 : Int32))), iv (((((0 : Int32) + (own_i (own_D c0))) + (own_i (own_D c1))) + (own_i (own_D c2))) + (own_i (own_D c3))), iv ((((0 : Int32) + (own_i (own_P c0))) + (own_i (own_P c1))) + (own_i (own_P c2))), .unset] [(.int (3 : Int32)), (.ref b7), (.int ((((0 : Int32) + (own_i (own_P c0))) + (own_i (own_P c1))) + (own_i (own_P c2))))])) rfl rfl (hb hby at_414) _ k)
    have R339 : ∀ t, Steps p.tables e below (T333.setTop (mkF m 417 #[iv p0, iv p1, iv p2, iv p3, iv p4, iv ii, iv (4 : Int32), rv b7, rv b30, iv (own_i (own_wf s3 d3)), iv (own_i ((((own_al c0 (0 : Int32)) && own_al c1 (1 : Int32)) && own_al c2 (2 : Int32)) && own_al c3 (3 : Int32))), iv (((((0 : Int32) + (own_i (own_D c0))) + (own_i (own_D c1))) + (own_i (own_D c2))) + (own_i (own_D c3))), iv ((((0 : Int32) + (own_i (own_P c0))) + (own_i (own_P c1))) + (own_i (own_P c2))), .unset] [(.int (46 : Int32)), (.int c3), (.int ((((0 : Int32) + (own_i (own_P c0))) + (own_i (own_P c1))) + (own_i (own_P c2))))])) t → Steps p.tables e below (s₁.setTop f0) t := fun t k => R338 t (by
      show Steps p.tables e below (T333.setTop (mkF m 415 #[iv p0, iv p1, iv p2, iv p3, iv p4, iv ii, iv (4 : Int32), rv b7, rv b30, iv (own_i (own_wf s3 d3)), iv (own_i ((((own_al c0 (0 : Int32)) && own_al c1 (1 : Int32)) && own_al c2 (2 : Int32)) && own_al c3 (3 : Int32))), iv (((((0 : Int32) + (own_i (own_D c0))) + (own_i (own_D c1))) + (own_i (own_D c2))) + (own_i (own_D c3))), iv ((((0 : Int32) + (own_i (own_P c0))) + (own_i (own_P c1))) + (own_i (own_P c2))), .unset] [(.int c3), (.int ((((0 : Int32) + (own_i (own_P c0))) + (own_i (own_P c1))) + (own_i (own_P c2))))])) _
      refine XS.bipush X333.here hx rfl (hb hby at_415) ?_
      exact k)
    have R340 : ∀ t, Steps p.tables e below (T333.setTop (mkF m 425 #[iv p0, iv p1, iv p2, iv p3, iv p4, iv ii, iv (4 : Int32), rv b7, rv b30, iv (own_i (own_wf s3 d3)), iv (own_i ((((own_al c0 (0 : Int32)) && own_al c1 (1 : Int32)) && own_al c2 (2 : Int32)) && own_al c3 (3 : Int32))), iv (((((0 : Int32) + (own_i (own_D c0))) + (own_i (own_D c1))) + (own_i (own_D c2))) + (own_i (own_D c3))), iv ((((0 : Int32) + (own_i (own_P c0))) + (own_i (own_P c1))) + (own_i (own_P c2))), .unset] [(.int (own_i (own_P c3))), (.int ((((0 : Int32) + (own_i (own_P c0))) + (own_i (own_P c1))) + (own_i (own_P c2))))])) t → Steps p.tables e below (s₁.setTop f0) t := by
      intro t k
      refine R339 t ?_
      by_cases hm1 : c3 = (46 : Int32)
      · skip
        show Steps p.tables e below (T333.setTop (mkF m 417 #[iv p0, iv p1, iv p2, iv p3, iv p4, iv ii, iv (4 : Int32), rv b7, rv b30, iv (own_i (own_wf s3 d3)), iv (own_i ((((own_al c0 (0 : Int32)) && own_al c1 (1 : Int32)) && own_al c2 (2 : Int32)) && own_al c3 (3 : Int32))), iv (((((0 : Int32) + (own_i (own_D c0))) + (own_i (own_D c1))) + (own_i (own_D c2))) + (own_i (own_D c3))), iv ((((0 : Int32) + (own_i (own_P c0))) + (own_i (own_P c1))) + (own_i (own_P c2))), .unset] [(.int (46 : Int32)), (.int c3), (.int ((((0 : Int32) + (own_i (own_P c0))) + (own_i (own_P c1))) + (own_i (own_P c2))))])) _
        refine XS.icmpNo X333.here hx rfl (hb hby at_417) rfl (teq hm1).2 ?_
        refine XS.iconst X333.here hx rfl (hb hby at_420) ?_
        show Steps p.tables e below (T333.setTop (mkF m 421 #[iv p0, iv p1, iv p2, iv p3, iv p4, iv ii, iv (4 : Int32), rv b7, rv b30, iv (own_i (own_wf s3 d3)), iv (own_i ((((own_al c0 (0 : Int32)) && own_al c1 (1 : Int32)) && own_al c2 (2 : Int32)) && own_al c3 (3 : Int32))), iv (((((0 : Int32) + (own_i (own_D c0))) + (own_i (own_D c1))) + (own_i (own_D c2))) + (own_i (own_D c3))), iv ((((0 : Int32) + (own_i (own_P c0))) + (own_i (own_P c1))) + (own_i (own_P c2))), .unset] [(.int (1 : Int32)), (.int ((((0 : Int32) + (own_i (own_P c0))) + (own_i (own_P c1))) + (own_i (own_P c2))))])) _
        refine XS.goto X333.here hx rfl (pc0 := 421) (pc' := 425) rfl (hb hby at_421) (by decide) (by decide) ?_
        have hv : (own_i (own_P c3)) = (1 : Int32) := by (try simp only [lw_gt, lw_lt, lw_eq, own_i_eq0, Bool.not_eq_false] at hm1); simp [own_i, own_P, hm1]
        rw [hv] at k
        exact k
      · skip
        show Steps p.tables e below (T333.setTop (mkF m 417 #[iv p0, iv p1, iv p2, iv p3, iv p4, iv ii, iv (4 : Int32), rv b7, rv b30, iv (own_i (own_wf s3 d3)), iv (own_i ((((own_al c0 (0 : Int32)) && own_al c1 (1 : Int32)) && own_al c2 (2 : Int32)) && own_al c3 (3 : Int32))), iv (((((0 : Int32) + (own_i (own_D c0))) + (own_i (own_D c1))) + (own_i (own_D c2))) + (own_i (own_D c3))), iv ((((0 : Int32) + (own_i (own_P c0))) + (own_i (own_P c1))) + (own_i (own_P c2))), .unset] [(.int (46 : Int32)), (.int c3), (.int ((((0 : Int32) + (own_i (own_P c0))) + (own_i (own_P c1))) + (own_i (own_P c2))))])) _
        refine XS.icmpYes X333.here hx rfl (pc0 := 417) (pc' := 424) rfl (hb hby at_417) rfl (feq hm1).2 (by decide) (by decide) ?_
        refine XS.iconst X333.here hx rfl (hb hby at_424) ?_
        have hv : (own_i (own_P c3)) = (0 : Int32) := by (try simp only [lw_gt, lw_lt, lw_eq, own_i_eq0, Bool.not_eq_false] at hm1); simp [own_i, own_P, hm1]
        rw [hv] at k
        exact k
    have R341 : ∀ t, Steps p.tables e below (T333.setTop (mkF m 430 #[iv p0, iv p1, iv p2, iv p3, iv p4, iv ii, iv (4 : Int32), rv b7, rv b30, iv (own_i (own_wf s3 d3)), iv (own_i ((((own_al c0 (0 : Int32)) && own_al c1 (1 : Int32)) && own_al c2 (2 : Int32)) && own_al c3 (3 : Int32))), iv (((((0 : Int32) + (own_i (own_D c0))) + (own_i (own_D c1))) + (own_i (own_D c2))) + (own_i (own_D c3))), iv (((((0 : Int32) + (own_i (own_P c0))) + (own_i (own_P c1))) + (own_i (own_P c2))) + (own_i (own_P c3))), .unset] [(.int (own_i ((((own_al c0 (0 : Int32)) && own_al c1 (1 : Int32)) && own_al c2 (2 : Int32)) && own_al c3 (3 : Int32))))])) t → Steps p.tables e below (s₁.setTop f0) t := fun t k => R340 t (by
      show Steps p.tables e below (T333.setTop (mkF m 425 #[iv p0, iv p1, iv p2, iv p3, iv p4, iv ii, iv (4 : Int32), rv b7, rv b30, iv (own_i (own_wf s3 d3)), iv (own_i ((((own_al c0 (0 : Int32)) && own_al c1 (1 : Int32)) && own_al c2 (2 : Int32)) && own_al c3 (3 : Int32))), iv (((((0 : Int32) + (own_i (own_D c0))) + (own_i (own_D c1))) + (own_i (own_D c2))) + (own_i (own_D c3))), iv ((((0 : Int32) + (own_i (own_P c0))) + (own_i (own_P c1))) + (own_i (own_P c2))), .unset] [(.int (own_i (own_P c3))), (.int ((((0 : Int32) + (own_i (own_P c0))) + (own_i (own_P c1))) + (own_i (own_P c2))))])) _
      refine XS.iadd X333.here hx rfl (hb hby at_425) rfl ?_
      refine XS.istore X333.here hx rfl (hb hby at_426) rfl (l' := #[iv p0, iv p1, iv p2, iv p3, iv p4, iv ii, iv (4 : Int32), rv b7, rv b30, iv (own_i (own_wf s3 d3)), iv (own_i ((((own_al c0 (0 : Int32)) && own_al c1 (1 : Int32)) && own_al c2 (2 : Int32)) && own_al c3 (3 : Int32))), iv (((((0 : Int32) + (own_i (own_D c0))) + (own_i (own_D c1))) + (own_i (own_D c2))) + (own_i (own_D c3))), iv (((((0 : Int32) + (own_i (own_P c0))) + (own_i (own_P c1))) + (own_i (own_P c2))) + (own_i (own_P c3))), .unset]) rfl ?_
      show Steps p.tables e below (T333.setTop (mkF m 428 #[iv p0, iv p1, iv p2, iv p3, iv p4, iv ii, iv (4 : Int32), rv b7, rv b30, iv (own_i (own_wf s3 d3)), iv (own_i ((((own_al c0 (0 : Int32)) && own_al c1 (1 : Int32)) && own_al c2 (2 : Int32)) && own_al c3 (3 : Int32))), iv (((((0 : Int32) + (own_i (own_D c0))) + (own_i (own_D c1))) + (own_i (own_D c2))) + (own_i (own_D c3))), iv (((((0 : Int32) + (own_i (own_P c0))) + (own_i (own_P c1))) + (own_i (own_P c2))) + (own_i (own_P c3))), .unset] [])) _
      refine XS.iload X333.here hx rfl (hb hby at_428) rfl  ?_
      exact k)
    obtain ⟨dg, e_dg⟩ : ∃ z : Int32, z = (((((0 : Int32) + (own_i (own_D c0))) + (own_i (own_D c1))) + (own_i (own_D c2))) + (own_i (own_D c3))) := ⟨_, rfl⟩
    have R342 : ∀ t, Steps p.tables e below (T333.setTop (mkF m 430 #[iv p0, iv p1, iv p2, iv p3, iv p4, iv ii, iv (4 : Int32), rv b7, rv b30, iv (own_i (own_wf s3 d3)), iv (own_i ((((own_al c0 (0 : Int32)) && own_al c1 (1 : Int32)) && own_al c2 (2 : Int32)) && own_al c3 (3 : Int32))), iv dg, iv (((((0 : Int32) + (own_i (own_P c0))) + (own_i (own_P c1))) + (own_i (own_P c2))) + (own_i (own_P c3))), .unset] [(.int (own_i ((((own_al c0 (0 : Int32)) && own_al c1 (1 : Int32)) && own_al c2 (2 : Int32)) && own_al c3 (3 : Int32))))])) t → Steps p.tables e below (s₁.setTop f0) t := by have q := R341; rw [← e_dg] at q; exact q
    obtain ⟨dt, e_dt⟩ : ∃ z : Int32, z = (((((0 : Int32) + (own_i (own_P c0))) + (own_i (own_P c1))) + (own_i (own_P c2))) + (own_i (own_P c3))) := ⟨_, rfl⟩
    have R343 : ∀ t, Steps p.tables e below (T333.setTop (mkF m 430 #[iv p0, iv p1, iv p2, iv p3, iv p4, iv ii, iv (4 : Int32), rv b7, rv b30, iv (own_i (own_wf s3 d3)), iv (own_i ((((own_al c0 (0 : Int32)) && own_al c1 (1 : Int32)) && own_al c2 (2 : Int32)) && own_al c3 (3 : Int32))), iv dg, iv dt, .unset] [(.int (own_i ((((own_al c0 (0 : Int32)) && own_al c1 (1 : Int32)) && own_al c2 (2 : Int32)) && own_al c3 (3 : Int32))))])) t → Steps p.tables e below (s₁.setTop f0) t := by have q := R342; rw [← e_dt] at q; exact q
    have R344 : ∀ t, Steps p.tables e below (T333.setTop (mkF m 459 #[iv p0, iv p1, iv p2, iv p3, iv p4, iv ii, iv (4 : Int32), rv b7, rv b30, iv (own_i (own_wf s3 d3)), iv (own_i ((((own_al c0 (0 : Int32)) && own_al c1 (1 : Int32)) && own_al c2 (2 : Int32)) && own_al c3 (3 : Int32))), iv dg, iv dt, .unset] [(.int (own_i (((((own_al c0 (0 : Int32)) && own_al c1 (1 : Int32)) && own_al c2 (2 : Int32)) && own_al c3 (3 : Int32)) && ! decide (dg < (1 : Int32)) && ! decide ((own_lim ii) < dt))))])) t → Steps p.tables e below (s₁.setTop f0) t := by
      intro t k
      refine R343 t ?_
      by_cases hm1 : (own_i ((((own_al c0 (0 : Int32)) && own_al c1 (1 : Int32)) && own_al c2 (2 : Int32)) && own_al c3 (3 : Int32))) = (0 : Int32)
      · skip
        show Steps p.tables e below (T333.setTop (mkF m 430 #[iv p0, iv p1, iv p2, iv p3, iv p4, iv ii, iv (4 : Int32), rv b7, rv b30, iv (own_i (own_wf s3 d3)), iv (own_i ((((own_al c0 (0 : Int32)) && own_al c1 (1 : Int32)) && own_al c2 (2 : Int32)) && own_al c3 (3 : Int32))), iv dg, iv dt, .unset] [(.int (own_i ((((own_al c0 (0 : Int32)) && own_al c1 (1 : Int32)) && own_al c2 (2 : Int32)) && own_al c3 (3 : Int32))))])) _
        refine XS.ifYes X333.here hx rfl (pc0 := 430) (pc' := 458) rfl (hb hby at_430) rfl ((if0 _ _).trans (teq hm1).1) (by decide) (by decide) ?_
        refine XS.iconst X333.here hx rfl (hb hby at_458) ?_
        have hv : (own_i (((((own_al c0 (0 : Int32)) && own_al c1 (1 : Int32)) && own_al c2 (2 : Int32)) && own_al c3 (3 : Int32)) && ! decide (dg < (1 : Int32)) && ! decide ((own_lim ii) < dt))) = (0 : Int32) := by (try simp only [lw_gt, lw_lt, lw_eq, own_i_eq0, Bool.not_eq_false] at hm1); simp [own_i, own_lim, own_limB, hm1]
        rw [hv] at k
        exact k
      · skip
        show Steps p.tables e below (T333.setTop (mkF m 430 #[iv p0, iv p1, iv p2, iv p3, iv p4, iv ii, iv (4 : Int32), rv b7, rv b30, iv (own_i (own_wf s3 d3)), iv (own_i ((((own_al c0 (0 : Int32)) && own_al c1 (1 : Int32)) && own_al c2 (2 : Int32)) && own_al c3 (3 : Int32))), iv dg, iv dt, .unset] [(.int (own_i ((((own_al c0 (0 : Int32)) && own_al c1 (1 : Int32)) && own_al c2 (2 : Int32)) && own_al c3 (3 : Int32))))])) _
        refine XS.ifNo X333.here hx rfl (hb hby at_430) rfl ((if0 _ _).trans (feq hm1).1) ?_
        refine XS.iload X333.here hx rfl (hb hby at_433) rfl  ?_
        show Steps p.tables e below (T333.setTop (mkF m 435 #[iv p0, iv p1, iv p2, iv p3, iv p4, iv ii, iv (4 : Int32), rv b7, rv b30, iv (own_i (own_wf s3 d3)), iv (own_i ((((own_al c0 (0 : Int32)) && own_al c1 (1 : Int32)) && own_al c2 (2 : Int32)) && own_al c3 (3 : Int32))), iv dg, iv dt, .unset] [(.int dg)])) _
        refine XS.iconst X333.here hx rfl (hb hby at_435) ?_
        by_cases hm2 : dg < (1 : Int32)
        · skip
          show Steps p.tables e below (T333.setTop (mkF m 436 #[iv p0, iv p1, iv p2, iv p3, iv p4, iv ii, iv (4 : Int32), rv b7, rv b30, iv (own_i (own_wf s3 d3)), iv (own_i ((((own_al c0 (0 : Int32)) && own_al c1 (1 : Int32)) && own_al c2 (2 : Int32)) && own_al c3 (3 : Int32))), iv dg, iv dt, .unset] [(.int (1 : Int32)), (.int dg)])) _
          refine XS.icmpYes X333.here hx rfl (pc0 := 436) (pc' := 458) rfl (hb hby at_436) rfl (tlt hm2).1 (by decide) (by decide) ?_
          refine XS.iconst X333.here hx rfl (hb hby at_458) ?_
          have hv : (own_i (((((own_al c0 (0 : Int32)) && own_al c1 (1 : Int32)) && own_al c2 (2 : Int32)) && own_al c3 (3 : Int32)) && ! decide (dg < (1 : Int32)) && ! decide ((own_lim ii) < dt))) = (0 : Int32) := by (try simp only [lw_gt, lw_lt, lw_eq, own_i_eq0, Bool.not_eq_false] at hm1); (try simp only [lw_gt, lw_lt, lw_eq, own_i_eq0, Bool.not_eq_false] at hm2); simp [own_i, own_lim, own_limB, hm1, hm2]
          rw [hv] at k
          exact k
        · skip
          show Steps p.tables e below (T333.setTop (mkF m 436 #[iv p0, iv p1, iv p2, iv p3, iv p4, iv ii, iv (4 : Int32), rv b7, rv b30, iv (own_i (own_wf s3 d3)), iv (own_i ((((own_al c0 (0 : Int32)) && own_al c1 (1 : Int32)) && own_al c2 (2 : Int32)) && own_al c3 (3 : Int32))), iv dg, iv dt, .unset] [(.int (1 : Int32)), (.int dg)])) _
          refine XS.icmpNo X333.here hx rfl (hb hby at_436) rfl (flt hm2).1 ?_
          refine XS.iload X333.here hx rfl (hb hby at_439) rfl  ?_
          show Steps p.tables e below (T333.setTop (mkF m 441 #[iv p0, iv p1, iv p2, iv p3, iv p4, iv ii, iv (4 : Int32), rv b7, rv b30, iv (own_i (own_wf s3 d3)), iv (own_i ((((own_al c0 (0 : Int32)) && own_al c1 (1 : Int32)) && own_al c2 (2 : Int32)) && own_al c3 (3 : Int32))), iv dg, iv dt, .unset] [(.int dt)])) _
          refine XS.iload X333.here hx rfl (hb hby at_441) rfl  ?_
          by_cases hm3 : ii = (0 : Int32)
          · skip
            show Steps p.tables e below (T333.setTop (mkF m 443 #[iv p0, iv p1, iv p2, iv p3, iv p4, iv ii, iv (4 : Int32), rv b7, rv b30, iv (own_i (own_wf s3 d3)), iv (own_i ((((own_al c0 (0 : Int32)) && own_al c1 (1 : Int32)) && own_al c2 (2 : Int32)) && own_al c3 (3 : Int32))), iv dg, iv dt, .unset] [(.int ii), (.int dt)])) _
            refine XS.ifYes X333.here hx rfl (pc0 := 443) (pc' := 450) rfl (hb hby at_443) rfl ((if0 _ _).trans (teq hm3).1) (by decide) (by decide) ?_
            refine XS.iconst X333.here hx rfl (hb hby at_450) ?_
            by_cases hm4 : (1 : Int32) < dt
            · skip
              show Steps p.tables e below (T333.setTop (mkF m 451 #[iv p0, iv p1, iv p2, iv p3, iv p4, iv ii, iv (4 : Int32), rv b7, rv b30, iv (own_i (own_wf s3 d3)), iv (own_i ((((own_al c0 (0 : Int32)) && own_al c1 (1 : Int32)) && own_al c2 (2 : Int32)) && own_al c3 (3 : Int32))), iv dg, iv dt, .unset] [(.int (1 : Int32)), (.int dt)])) _
              refine XS.icmpYes X333.here hx rfl (pc0 := 451) (pc' := 458) rfl (hb hby at_451) rfl (tlt hm4).2.2.1 (by decide) (by decide) ?_
              refine XS.iconst X333.here hx rfl (hb hby at_458) ?_
              have hv : (own_i (((((own_al c0 (0 : Int32)) && own_al c1 (1 : Int32)) && own_al c2 (2 : Int32)) && own_al c3 (3 : Int32)) && ! decide (dg < (1 : Int32)) && ! decide ((own_lim ii) < dt))) = (0 : Int32) := by (try simp only [lw_gt, lw_lt, lw_eq, own_i_eq0, Bool.not_eq_false] at hm1); (try simp only [lw_gt, lw_lt, lw_eq, own_i_eq0, Bool.not_eq_false] at hm2); (try simp only [lw_gt, lw_lt, lw_eq, own_i_eq0, Bool.not_eq_false] at hm3); (try simp only [lw_gt, lw_lt, lw_eq, own_i_eq0, Bool.not_eq_false] at hm4); simp [own_i, own_lim, own_limB, hm1, hm2, hm3, hm4]
              rw [hv] at k
              exact k
            · skip
              show Steps p.tables e below (T333.setTop (mkF m 451 #[iv p0, iv p1, iv p2, iv p3, iv p4, iv ii, iv (4 : Int32), rv b7, rv b30, iv (own_i (own_wf s3 d3)), iv (own_i ((((own_al c0 (0 : Int32)) && own_al c1 (1 : Int32)) && own_al c2 (2 : Int32)) && own_al c3 (3 : Int32))), iv dg, iv dt, .unset] [(.int (1 : Int32)), (.int dt)])) _
              refine XS.icmpNo X333.here hx rfl (hb hby at_451) rfl (flt hm4).2.2.1 ?_
              refine XS.iconst X333.here hx rfl (hb hby at_454) ?_
              show Steps p.tables e below (T333.setTop (mkF m 455 #[iv p0, iv p1, iv p2, iv p3, iv p4, iv ii, iv (4 : Int32), rv b7, rv b30, iv (own_i (own_wf s3 d3)), iv (own_i ((((own_al c0 (0 : Int32)) && own_al c1 (1 : Int32)) && own_al c2 (2 : Int32)) && own_al c3 (3 : Int32))), iv dg, iv dt, .unset] [(.int (1 : Int32))])) _
              refine XS.goto X333.here hx rfl (pc0 := 455) (pc' := 459) rfl (hb hby at_455) (by decide) (by decide) ?_
              have hv : (own_i (((((own_al c0 (0 : Int32)) && own_al c1 (1 : Int32)) && own_al c2 (2 : Int32)) && own_al c3 (3 : Int32)) && ! decide (dg < (1 : Int32)) && ! decide ((own_lim ii) < dt))) = (1 : Int32) := by (try simp only [lw_gt, lw_lt, lw_eq, own_i_eq0, Bool.not_eq_false] at hm1); (try simp only [lw_gt, lw_lt, lw_eq, own_i_eq0, Bool.not_eq_false] at hm2); (try simp only [lw_gt, lw_lt, lw_eq, own_i_eq0, Bool.not_eq_false] at hm3); (try simp only [lw_gt, lw_lt, lw_eq, own_i_eq0, Bool.not_eq_false] at hm4); simp [own_i, own_lim, own_limB, hm1, hm2, hm3, hm4]
              rw [hv] at k
              exact k
          · skip
            show Steps p.tables e below (T333.setTop (mkF m 443 #[iv p0, iv p1, iv p2, iv p3, iv p4, iv ii, iv (4 : Int32), rv b7, rv b30, iv (own_i (own_wf s3 d3)), iv (own_i ((((own_al c0 (0 : Int32)) && own_al c1 (1 : Int32)) && own_al c2 (2 : Int32)) && own_al c3 (3 : Int32))), iv dg, iv dt, .unset] [(.int ii), (.int dt)])) _
            refine XS.ifNo X333.here hx rfl (hb hby at_443) rfl ((if0 _ _).trans (feq hm3).1) ?_
            refine XS.iconst X333.here hx rfl (hb hby at_446) ?_
            show Steps p.tables e below (T333.setTop (mkF m 447 #[iv p0, iv p1, iv p2, iv p3, iv p4, iv ii, iv (4 : Int32), rv b7, rv b30, iv (own_i (own_wf s3 d3)), iv (own_i ((((own_al c0 (0 : Int32)) && own_al c1 (1 : Int32)) && own_al c2 (2 : Int32)) && own_al c3 (3 : Int32))), iv dg, iv dt, .unset] [(.int (0 : Int32)), (.int dt)])) _
            refine XS.goto X333.here hx rfl (pc0 := 447) (pc' := 451) rfl (hb hby at_447) (by decide) (by decide) ?_
            by_cases hm5 : (0 : Int32) < dt
            · skip
              show Steps p.tables e below (T333.setTop (mkF m 451 #[iv p0, iv p1, iv p2, iv p3, iv p4, iv ii, iv (4 : Int32), rv b7, rv b30, iv (own_i (own_wf s3 d3)), iv (own_i ((((own_al c0 (0 : Int32)) && own_al c1 (1 : Int32)) && own_al c2 (2 : Int32)) && own_al c3 (3 : Int32))), iv dg, iv dt, .unset] [(.int (0 : Int32)), (.int dt)])) _
              refine XS.icmpYes X333.here hx rfl (pc0 := 451) (pc' := 458) rfl (hb hby at_451) rfl (tlt hm5).2.2.1 (by decide) (by decide) ?_
              refine XS.iconst X333.here hx rfl (hb hby at_458) ?_
              have hv : (own_i (((((own_al c0 (0 : Int32)) && own_al c1 (1 : Int32)) && own_al c2 (2 : Int32)) && own_al c3 (3 : Int32)) && ! decide (dg < (1 : Int32)) && ! decide ((own_lim ii) < dt))) = (0 : Int32) := by (try simp only [lw_gt, lw_lt, lw_eq, own_i_eq0, Bool.not_eq_false] at hm1); (try simp only [lw_gt, lw_lt, lw_eq, own_i_eq0, Bool.not_eq_false] at hm2); (try simp only [lw_gt, lw_lt, lw_eq, own_i_eq0, Bool.not_eq_false] at hm3); (try simp only [lw_gt, lw_lt, lw_eq, own_i_eq0, Bool.not_eq_false] at hm5); simp [own_i, own_lim, own_limB, hm1, hm2, hm3, hm5]
              rw [hv] at k
              exact k
            · skip
              show Steps p.tables e below (T333.setTop (mkF m 451 #[iv p0, iv p1, iv p2, iv p3, iv p4, iv ii, iv (4 : Int32), rv b7, rv b30, iv (own_i (own_wf s3 d3)), iv (own_i ((((own_al c0 (0 : Int32)) && own_al c1 (1 : Int32)) && own_al c2 (2 : Int32)) && own_al c3 (3 : Int32))), iv dg, iv dt, .unset] [(.int (0 : Int32)), (.int dt)])) _
              refine XS.icmpNo X333.here hx rfl (hb hby at_451) rfl (flt hm5).2.2.1 ?_
              refine XS.iconst X333.here hx rfl (hb hby at_454) ?_
              show Steps p.tables e below (T333.setTop (mkF m 455 #[iv p0, iv p1, iv p2, iv p3, iv p4, iv ii, iv (4 : Int32), rv b7, rv b30, iv (own_i (own_wf s3 d3)), iv (own_i ((((own_al c0 (0 : Int32)) && own_al c1 (1 : Int32)) && own_al c2 (2 : Int32)) && own_al c3 (3 : Int32))), iv dg, iv dt, .unset] [(.int (1 : Int32))])) _
              refine XS.goto X333.here hx rfl (pc0 := 455) (pc' := 459) rfl (hb hby at_455) (by decide) (by decide) ?_
              have hv : (own_i (((((own_al c0 (0 : Int32)) && own_al c1 (1 : Int32)) && own_al c2 (2 : Int32)) && own_al c3 (3 : Int32)) && ! decide (dg < (1 : Int32)) && ! decide ((own_lim ii) < dt))) = (1 : Int32) := by (try simp only [lw_gt, lw_lt, lw_eq, own_i_eq0, Bool.not_eq_false] at hm1); (try simp only [lw_gt, lw_lt, lw_eq, own_i_eq0, Bool.not_eq_false] at hm2); (try simp only [lw_gt, lw_lt, lw_eq, own_i_eq0, Bool.not_eq_false] at hm3); (try simp only [lw_gt, lw_lt, lw_eq, own_i_eq0, Bool.not_eq_false] at hm5); simp [own_i, own_lim, own_limB, hm1, hm2, hm3, hm5]
              rw [hv] at k
              exact k
    have R345 : ∀ t, Steps p.tables e below (T333.setTop (mkF m 473 #[iv p0, iv p1, iv p2, iv p3, iv p4, iv ii, iv (4 : Int32), rv b7, rv b30, iv (own_i (own_wf s3 d3)), iv (own_i ((((own_al c0 (0 : Int32)) && own_al c1 (1 : Int32)) && own_al c2 (2 : Int32)) && own_al c3 (3 : Int32))), iv dg, iv dt, iv (own_i (((((own_al c0 (0 : Int32)) && own_al c1 (1 : Int32)) && own_al c2 (2 : Int32)) && own_al c3 (3 : Int32)) && ! decide (dg < (1 : Int32)) && ! decide ((own_lim ii) < dt)))] [(.int (1 : Int32))])) t → Steps p.tables e below (s₁.setTop f0) t := fun t k => R344 t (by
      show Steps p.tables e below (T333.setTop (mkF m 459 #[iv p0, iv p1, iv p2, iv p3, iv p4, iv ii, iv (4 : Int32), rv b7, rv b30, iv (own_i (own_wf s3 d3)), iv (own_i ((((own_al c0 (0 : Int32)) && own_al c1 (1 : Int32)) && own_al c2 (2 : Int32)) && own_al c3 (3 : Int32))), iv dg, iv dt, .unset] [(.int (own_i (((((own_al c0 (0 : Int32)) && own_al c1 (1 : Int32)) && own_al c2 (2 : Int32)) && own_al c3 (3 : Int32)) && ! decide (dg < (1 : Int32)) && ! decide ((own_lim ii) < dt))))])) _
      refine XS.istore X333.here hx rfl (hb hby at_459) rfl (l' := #[iv p0, iv p1, iv p2, iv p3, iv p4, iv ii, iv (4 : Int32), rv b7, rv b30, iv (own_i (own_wf s3 d3)), iv (own_i ((((own_al c0 (0 : Int32)) && own_al c1 (1 : Int32)) && own_al c2 (2 : Int32)) && own_al c3 (3 : Int32))), iv dg, iv dt, iv (own_i (((((own_al c0 (0 : Int32)) && own_al c1 (1 : Int32)) && own_al c2 (2 : Int32)) && own_al c3 (3 : Int32)) && ! decide (dg < (1 : Int32)) && ! decide ((own_lim ii) < dt)))]) rfl ?_
      refine XS.iload X333.here hx rfl (hb hby at_461) rfl  ?_
      show Steps p.tables e below (T333.setTop (mkF m 463 #[iv p0, iv p1, iv p2, iv p3, iv p4, iv ii, iv (4 : Int32), rv b7, rv b30, iv (own_i (own_wf s3 d3)), iv (own_i ((((own_al c0 (0 : Int32)) && own_al c1 (1 : Int32)) && own_al c2 (2 : Int32)) && own_al c3 (3 : Int32))), iv dg, iv dt, iv (own_i (((((own_al c0 (0 : Int32)) && own_al c1 (1 : Int32)) && own_al c2 (2 : Int32)) && own_al c3 (3 : Int32)) && ! decide (dg < (1 : Int32)) && ! decide ((own_lim ii) < dt)))] [(.int (own_i (own_wf s3 d3)))])) _
      refine XS.iload X333.here hx rfl (hb hby at_463) rfl  ?_
      refine XS.icmpNo X333.here hx rfl (hb hby at_465) rfl (teq (by subst e_dg e_dt ed3 es3 ed2 es2 ed1 es1 ed0 es0 ; exact own_fin_4 c0 c1 c2 c3 ii : (own_i (own_wf s3 d3)) = (own_i (((((own_al c0 (0 : Int32)) && own_al c1 (1 : Int32)) && own_al c2 (2 : Int32)) && own_al c3 (3 : Int32)) && ! decide (dg < (1 : Int32)) && ! decide ((own_lim ii) < dt))))).2 ?_
      show Steps p.tables e below (T333.setTop (mkF m 468 #[iv p0, iv p1, iv p2, iv p3, iv p4, iv ii, iv (4 : Int32), rv b7, rv b30, iv (own_i (own_wf s3 d3)), iv (own_i ((((own_al c0 (0 : Int32)) && own_al c1 (1 : Int32)) && own_al c2 (2 : Int32)) && own_al c3 (3 : Int32))), iv dg, iv dt, iv (own_i (((((own_al c0 (0 : Int32)) && own_al c1 (1 : Int32)) && own_al c2 (2 : Int32)) && own_al c3 (3 : Int32)) && ! decide (dg < (1 : Int32)) && ! decide ((own_lim ii) < dt)))] [])) _
      refine XS.iconst X333.here hx rfl (hb hby at_468) ?_
      refine XS.goto X333.here hx rfl (pc0 := 469) (pc' := 473) rfl (hb hby at_469) (by decide) (by decide) ?_
      exact k)
    obtain ⟨fs, hr, hrun, hended, hW, hsame⟩ := X333.leave (v := some (.int (1 : Int32))) (fun h => by rw [Bd.returns] at h; cases h)
    refine ⟨_, _, pre0 _ (R345 _ ?_), hrun, hended, _, _, rfl, ?_, ⟨_, rfl⟩, hW, hsame.mono (by decide) (by decide)⟩
    · show Steps p.tables e below (T333.setTop (mkF m 473 #[iv p0, iv p1, iv p2, iv p3, iv p4, iv ii, iv (4 : Int32), rv b7, rv b30, iv (own_i (own_wf s3 d3)), iv (own_i ((((own_al c0 (0 : Int32)) && own_al c1 (1 : Int32)) && own_al c2 (2 : Int32)) && own_al c3 (3 : Int32))), iv dg, iv dt, iv (own_i (((((own_al c0 (0 : Int32)) && own_al c1 (1 : Int32)) && own_al c2 (2 : Int32)) && own_al c3 (3 : Int32)) && ! decide (dg < (1 : Int32)) && ! decide ((own_lim ii) < dt)))] [(.int (1 : Int32))])) _
      exact retN X333 hx (t := .boolean) Bd.returns (by simp) (hb hby at_473) hr
    · show Q_rmLaw Z p0 p1 p2 p3 p4 fI fD sS sI sF sB h0 n0 _ T333.heap _
      rw [p333_0]
      exact ⟨rfl, N333⟩
set_option maxRecDepth 65536 in
set_option maxHeartbeats 40000000 in
theorem comes_1 {Post : Tables → Env → Array Value → State → Outcome → State → Prop} (hpost : ∀ tb e args s v u, (limb_1_1.after args s (.returned v) u = true ∧ limb_1_2.after args s (.returned v) u = true ∧ True) → FrameEnd s (.returned v) u (Jvm.fieldLocs frame_1_writes args s ++ Jvm.arrayLocs frame_1_arrays args s ++ Jvm.staticLocs frame_1_statics s) 16 128 → Post tb e args s (.returned v) u) :
    ArmFor flags0 classFile x code maxLocals ret World_1 tables_1 room_1 Calls_1 rest_1 Pre_1 Post := by
  intro l hfl _ _ p e ha hc hk s m args below hf hA hF happ hP
  obtain ⟨hcalls, hrest, hpre⟩ := hP
  obtain ⟨-, -, -, hnamed, -, -, -, hat⟩ := (Spec.applies_iff hf).mp happ
  obtain ⟨hg, hn⟩ := and_e (Cond.before_iff.mp (show (Jvm.Cond.and given_1 narrow_1).before args s = true from hpre))
  obtain ⟨gg1, gg2⟩ := and_e hg
  obtain ⟨gg3, gg4⟩ := and_e gg2
  obtain ⟨gg5, gg6⟩ := and_e gg4
  obtain ⟨gg7, gg8⟩ := and_e gg6
  obtain ⟨gg9, gg10⟩ := and_e gg8
  obtain ⟨w0, w1, w2, w3, w4, rfl⟩ : ∃ w0 w1 w2 w3 w4 : Value, args = #[w0, w1, w2, w3, w4] := by
    have hs : args.size = 5 := by simpa [Cond.value, given_1] using gg1
    obtain ⟨L⟩ := args
    match L, hs with
    | [w0, w1, w2, w3, w4], _ => exact ⟨w0, w1, w2, w3, w4, rfl⟩
  have hw := fun d (hd : d ∈ tables_1) => atoms_spec (ws := Jvm.Cond.code x code maxLocals ret :: tables_1) hat d (List.mem_cons_of_mem _ hd)
  have hfit : Fit s := fun {y c} hc i hi => by
    obtain ⟨ha, rfl⟩ := Array.getElem?_eq_some_iff.mp hc
    have q := List.all_eq_true.mp ((Array.all_eq_true_iff_forall_mem.mp hF) _ (Array.getElem_mem ha)) i (List.mem_range.mpr hi)
    simpa [Array.getElem?_eq_getElem hi] using q
  obtain ⟨i0, ei0⟩ := is_v gg3
  obtain rfl : w0 = (.int i0) := Option.some.inj ei0
  obtain ⟨i1, ei1⟩ := is_v gg5
  obtain rfl : w1 = (.int i1) := Option.some.inj ei1
  obtain ⟨i2, ei2⟩ := is_v gg7
  obtain rfl : w2 = (.int i2) := Option.some.inj ei2
  obtain ⟨i3, ei3⟩ := is_v gg9
  obtain rfl : w3 = (.int i3) := Option.some.inj ei3
  obtain ⟨i4, ei4⟩ := is_v gg10
  obtain rfl : w4 = (.int i4) := Option.some.inj ei4
  obtain ⟨hn1, hn2⟩ := and_e hn
  obtain ⟨hn3, hn4⟩ := and_e hn2
  obtain ⟨hn5, hn6⟩ := and_e hn4
  obtain ⟨hn7, hn8⟩ := and_e hn6
  obtain ⟨hn9, hn10⟩ := and_e hn8
  obtain ⟨hn11, hn12⟩ := and_e hn10
  obtain ⟨hn13, hn14⟩ := and_e hn12
  obtain ⟨hn15, hn16⟩ := and_e hn14
  obtain ⟨hn17, hn18⟩ := and_e hn16
  obtain ⟨hn19, hn20⟩ := and_e hn18
  obtain ⟨hn21, hn22⟩ := and_e hn20
  obtain ⟨st_Form_DECIMAL, ev_st_Form_DECIMAL⟩ := exa_v hn1
  have S_st_Form_DECIMAL := Sta.start ev_st_Form_DECIMAL (Or.inr ⟨(hw _ (List.mem_of_getElem? (i := 15) rfl)), (hw _ (List.mem_of_getElem? (i := 16) rfl))⟩)
  have E_st_Form_DECIMAL := Exa.start ev_st_Form_DECIMAL hn1
  obtain ⟨st_Form_INTEGER, ev_st_Form_INTEGER⟩ := exa_v hn3
  have S_st_Form_INTEGER := Sta.start ev_st_Form_INTEGER (Or.inr ⟨(hw _ (List.mem_of_getElem? (i := 15) rfl)), (hw _ (List.mem_of_getElem? (i := 23) rfl))⟩)
  have E_st_Form_INTEGER := Exa.start ev_st_Form_INTEGER hn3
  have F_st_Form_DECIMAL_ordinal := Fld.start ((fld_at ev_st_Form_DECIMAL).symm.trans (eqv_i (Term.int_eval (1 : Int32)) hn5))
  have F_st_Form_INTEGER_ordinal := Fld.start ((fld_at ev_st_Form_INTEGER).symm.trans (eqv_i (Term.int_eval (2 : Int32)) hn7))
  obtain ⟨st_Part_SIGN, ev_st_Part_SIGN⟩ := exa_v hn9
  have S_st_Part_SIGN := Sta.start ev_st_Part_SIGN (Or.inr ⟨(hw _ (List.mem_of_getElem? (i := 27) rfl)), (hw _ (List.mem_of_getElem? (i := 28) rfl))⟩)
  have E_st_Part_SIGN := Exa.start ev_st_Part_SIGN hn9
  obtain ⟨st_Part_BROKEN, ev_st_Part_BROKEN⟩ := exa_v hn11
  have S_st_Part_BROKEN := Sta.start ev_st_Part_BROKEN (Or.inr ⟨(hw _ (List.mem_of_getElem? (i := 27) rfl)), (hw _ (List.mem_of_getElem? (i := 49) rfl))⟩)
  have E_st_Part_BROKEN := Exa.start ev_st_Part_BROKEN hn11
  have F_st_Part_SIGN_ordinal := Fld.start ((fld_at ev_st_Part_SIGN).symm.trans (eqv_i (Term.int_eval (0 : Int32)) hn13))
  have F_st_Part_BROKEN_ordinal := Fld.start ((fld_at ev_st_Part_BROKEN).symm.trans (eqv_i (Term.int_eval (3 : Int32)) hn15))
  obtain ⟨st_Part_INTEGER, ev_st_Part_INTEGER⟩ := exa_v hn17
  have S_st_Part_INTEGER := Sta.start ev_st_Part_INTEGER (Or.inr ⟨(hw _ (List.mem_of_getElem? (i := 27) rfl)), (hw _ (List.mem_of_getElem? (i := 57) rfl))⟩)
  have E_st_Part_INTEGER := Exa.start ev_st_Part_INTEGER hn17
  have F_st_Part_INTEGER_ordinal := Fld.start ((fld_at ev_st_Part_INTEGER).symm.trans (eqv_i (Term.int_eval (1 : Int32)) hn19))
  obtain ⟨st_Part_FRACTION, ev_st_Part_FRACTION⟩ := exa_v hn21
  have S_st_Part_FRACTION := Sta.start ev_st_Part_FRACTION (Or.inr ⟨(hw _ (List.mem_of_getElem? (i := 27) rfl)), (hw _ (List.mem_of_getElem? (i := 80) rfl))⟩)
  have E_st_Part_FRACTION := Exa.start ev_st_Part_FRACTION hn21
  have F_st_Part_FRACTION_ordinal := Fld.start ((fld_at ev_st_Part_FRACTION).symm.trans (eqv_i (Term.int_eval (2 : Int32)) hn22))
  obtain ⟨n, o, h1, h2, h3, _, L, rfl, ⟨rfl, N⟩, hq⟩ := rmLaw l s _ hw tables_1 i0 i1 i2 i3 i4 st_Form_INTEGER st_Form_DECIMAL st_Part_SIGN st_Part_INTEGER st_Part_FRACTION st_Part_BROKEN s.heap s.heap.size (Nat.le_refl _) S_st_Form_INTEGER S_st_Form_DECIMAL (Fld.ne F_st_Form_DECIMAL_ordinal F_st_Form_INTEGER_ordinal (by decide)) S_st_Part_SIGN S_st_Part_INTEGER S_st_Part_FRACTION S_st_Part_BROKEN (Fld.ne F_st_Part_SIGN_ordinal F_st_Part_INTEGER_ordinal (by decide)) (Fld.ne F_st_Part_SIGN_ordinal F_st_Part_FRACTION_ordinal (by decide)) (Fld.ne F_st_Part_SIGN_ordinal F_st_Part_BROKEN_ordinal (by decide)) (Fld.ne F_st_Part_INTEGER_ordinal F_st_Part_FRACTION_ordinal (by decide)) (Fld.ne F_st_Part_INTEGER_ordinal F_st_Part_BROKEN_ordinal (by decide)) (Fld.ne F_st_Part_FRACTION_ordinal F_st_Part_BROKEN_ordinal (by decide)) p e ha hc hk s m _ below hf ((Spec.applies_iff_loose hf).mp happ).1 ⟨rfl, State.Warmed39.refl s, rfl⟩ trivial
  refine ⟨n, _, h1, h2, h3, hpost _ _ _ _ _ _ ⟨Cond.after_iff.mpr rfl, Cond.after_iff.mpr (eq_i res_at (Term.int_eval (1)) rfl), trivial⟩ ⟨hq.1, hq.2.1, (hq.2.2.sift fun y hy => Or.inr (N y hy)).mono (by decide) (by decide)⟩⟩
theorem main_1_1 : Claimed_1_1 := comes_1 fun _ _ _ _ _ _ h hF => ⟨h.1, hF⟩
theorem main_1_2 : Claimed_1_2 := comes_1 fun _ _ _ _ _ _ h hF => ⟨h.2.1, hF⟩
end Jvm.Pilot.@@N@@
namespace Jvm.Pilot.@@N@@
open Jvm Jvm.ClassFile Sem Op Lib Jvm.Free Jvm.Stand Jvm.Pilot.@@N@@.Jvm.D
/-! MADE BY PROGRAM (witnessworld.py) out of the Statement's table words and the real class files: 16 classes; the members and pool entries that the words name. The judged class is class 1, her method 4. -/
namespace start1
open Jvm.ClassFile
def u (s : String) : CpInfo := .utf8 (stringToUtf16 s)
/-- a pool by its gaps: so many unusable entries, then the entry; so many at the end -/
def gap : Nat → List CpInfo → List CpInfo
  | 0, r => r
  | n + 1, r => .unusable :: gap n r
def poolList (es : List (Nat × CpInfo)) (last : Nat) : List CpInfo := es.foldr (fun e r => gap e.1 (e.2 :: r)) (gap last [])
def pool (es : List (Nat × CpInfo)) (last : Nat) : Array CpInfo := ⟨poolList es last⟩
def fileOf (pool : Array CpInfo) (this : Nat) (attrs : Array Attribute := #[]) (ms : Array MethodInfo := #[]) (fl : Nat := 33) (sup : Nat := 0) (ifs : Array Nat := #[]) (fds : Array FieldInfo := #[]) : ClassFile where
  minorVersion := 0
  majorVersion := 65
  constantPool := pool
  accessFlags := fl
  thisClass := this
  superClass := sup
  interfaces := ifs
  fields := fds
  methods := ms
  attributes := attrs
def plain (name : String) (sup : Option ClassId) : Class where
  name := name
  kind := .ordinary
  loader := none
  accessFlags := 33
  super := sup
  interfaces := #[]
  cf := none
  fields := #[]
  methods := #[]
  instanceTypes := #[]
  staticTypes := #[]
  resolved := #[]
  callSites := []
  init := .initialized
  statics := none
  mirror := none

def pool0 : Array CpInfo := pool [(5, u "<init>"), (0, u "()V"), (1, .class_ 10), (1, u "java/lang/Object")] 113

def k0c0 : Code := { maxStack := 0, maxLocals := 1, code := object_method_1_code, exceptionTable := #[], attributes := #[] }
def k0m0 : Method := { name := "<init>", desc := "()V", sig := { parameters := [], returnType := none }, accessFlags := 1, code := some k0c0 }
/-- java/lang/Object -/
def k0 : Class := { plain "java/lang/Object" none with
  accessFlags := 33
  interfaces := #[]
  cf := some (fileOf pool0 8 #[] #[{ accessFlags := 1, nameIndex := 5, descriptorIndex := 6, attributes := #[] }] 33 0 #[] #[])
  fields := #[]
  methods := #[k0m0]
  instanceTypes := #[]
  staticTypes := #[]
  resolved := Array.replicate 124 none
  statics := none }

def pool1 : Array CpInfo := pool [(2, .class_ 4), (0, .nameAndType 5 6), (0, u "java/lang/Object"), (0, u "<init>"), (0, u "()V"), (0, .methodref 8 9), (0, .class_ 10), (0, .nameAndType 11 12), (0, u "com/example/strumyk/strumyk/check/NumberTextWellFormedPinLaw"), (0, u "isDigit"), (0, u "(C)Z"), (0, .methodref 8 14), (0, .nameAndType 15 16), (0, u "draw"), (0, u "(I)C"), (0, .class_ 18), (0, u "com/example/strumyk/strumyk/check/NumberText"), (0, .methodref 17 3), (0, .fieldref 21 22), (0, .class_ 23), (0, .nameAndType 24 25), (0, u "com/example/strumyk/strumyk/message/SimpleType$Form"), (0, u "INTEGER"), (0, u "Lcom/example/strumyk/strumyk/message/SimpleType$Form;"), (0, .fieldref 21 27), (0, .nameAndType 28 25), (0, u "DECIMAL"), (0, .methodref 17 30), (0, .nameAndType 31 32), (0, u "start"), (0, u "(Lcom/example/strumyk/strumyk/message/SimpleType$Form;)V"), (0, .methodref 17 34), (0, .nameAndType 35 36), (0, u "take"), (0, u "(C)V"), (0, .methodref 17 38), (0, .nameAndType 39 40), (0, u "wellFormed"), (0, u "()Z"), (0, .methodref 8 42), (0, .nameAndType 43 44), (0, u "allowed"), (0, u "(CI)Z"), (3, u "law"), (0, u "(IIIII)Z")] 8

def k1m0 : Method := { name := "<init>", desc := "()V", sig := { parameters := [], returnType := none }, accessFlags := 1, code := none }
def k1c1 : Code := { maxStack := 3, maxLocals := 3, code := method_2_code, exceptionTable := #[], attributes := #[] }
def k1m1 : Method := { name := "draw", desc := "(I)C", sig := { parameters := [.int], returnType := some .char }, accessFlags := 10, code := some k1c1 }
def k1c2 : Code := { maxStack := 2, maxLocals := 1, code := method_3_code, exceptionTable := #[], attributes := #[] }
def k1m2 : Method := { name := "isDigit", desc := "(C)Z", sig := { parameters := [.char], returnType := some .boolean }, accessFlags := 10, code := some k1c2 }
def k1c3 : Code := { maxStack := 2, maxLocals := 2, code := method_4_code, exceptionTable := #[], attributes := #[] }
def k1m3 : Method := { name := "allowed", desc := "(CI)Z", sig := { parameters := [.char, .int], returnType := some .boolean }, accessFlags := 10, code := some k1c3 }
def k1c4 : Code := { maxStack := 4, maxLocals := 14, code := code, exceptionTable := #[], attributes := #[] }
def k1m4 : Method := { name := "law", desc := "(IIIII)Z", sig := { parameters := [.int, .int, .int, .int, .int], returnType := some .boolean }, accessFlags := 9, code := some k1c4 }
/-- com/example/strumyk/strumyk/check/NumberTextWellFormedPinLaw -/
def k1 : Class := { plain "com/example/strumyk/strumyk/check/NumberTextWellFormedPinLaw" (some 0) with
  accessFlags := 49
  interfaces := #[]
  cf := some (fileOf pool1 8 #[] #[{ accessFlags := 1, nameIndex := 5, descriptorIndex := 6, attributes := #[] }, { accessFlags := 10, nameIndex := 15, descriptorIndex := 16, attributes := #[] }, { accessFlags := 10, nameIndex := 11, descriptorIndex := 12, attributes := #[] }, { accessFlags := 10, nameIndex := 43, descriptorIndex := 44, attributes := #[] }, { accessFlags := 9, nameIndex := 48, descriptorIndex := 49, attributes := #[] }] 49 2 #[] #[])
  fields := #[]
  methods := #[k1m0, k1m1, k1m2, k1m3, k1m4]
  instanceTypes := #[]
  staticTypes := #[]
  resolved := Array.replicate 58 none
  statics := none }

def pool2 : Array CpInfo := pool [(1, .methodref 2 3), (0, .class_ 4), (0, .nameAndType 5 6), (0, u "java/lang/Object"), (0, u "<init>"), (0, u "()V"), (0, .fieldref 8 9), (0, .class_ 10), (0, .nameAndType 11 12), (0, u "com/example/strumyk/strumyk/message/SimpleType$Form"), (0, u "INTEGER"), (0, u "Lcom/example/strumyk/strumyk/message/SimpleType$Form;"), (0, .fieldref 14 15), (0, .class_ 16), (0, .nameAndType 17 18), (0, u "com/example/strumyk/strumyk/check/NumberText"), (0, u "integerOnly"), (0, u "Z"), (0, .fieldref 20 21), (0, .class_ 22), (0, .nameAndType 23 24), (0, u "com/example/strumyk/strumyk/check/NumberText$Part"), (0, u "SIGN"), (0, u "Lcom/example/strumyk/strumyk/check/NumberText$Part;"), (0, .fieldref 14 26), (0, .nameAndType 27 24), (0, u "part"), (0, .fieldref 14 29), (0, .nameAndType 30 18), (0, u "negative"), (0, .fieldref 14 32), (0, .nameAndType 33 18), (0, u "digitRead"), (0, .fieldref 14 35), (0, .nameAndType 36 37), (0, u "integerDigits"), (0, u "J"), (0, .fieldref 14 39), (0, .nameAndType 40 37), (0, u "fractionDigits"), (0, .fieldref 14 42), (0, .nameAndType 43 37), (0, u "pendingZeros"), (0, .fieldref 14 45), (0, .nameAndType 46 37), (0, u "unscaled"), (0, .fieldref 20 48), (0, .nameAndType 49 24), (0, u "BROKEN"), (0, .fieldref 20 51), (0, .nameAndType 11 24), (0, .methodref 14 53), (0, .nameAndType 54 55), (0, u "digit"), (0, u "(I)V"), (0, .fieldref 20 57), (0, .nameAndType 58 24), (0, u "FRACTION"), (0, .methodref 14 60), (0, .nameAndType 61 62), (0, u "append"), (0, u "(JI)V"), (0, .methodref 14 64), (0, .nameAndType 65 66), (0, u "totalDigits"), (0, u "()J"), (2, .long 18), (1, .long 10), (13, u "start"), (0, u "(Lcom/example/strumyk/strumyk/message/SimpleType$Form;)V"), (1, u "take"), (0, u "(C)V"), (0, u "wellFormed"), (0, u "()Z")] 8

def k2c0 : Code := { maxStack := 1, maxLocals := 1, code := prog_10_method_1_code, exceptionTable := #[], attributes := #[] }
def k2m0 : Method := { name := "<init>", desc := "()V", sig := { parameters := [], returnType := none }, accessFlags := 0, code := some k2c0 }
def k2c1 : Code := { maxStack := 3, maxLocals := 2, code := prog_10_method_2_code, exceptionTable := #[], attributes := #[] }
def k2m1 : Method := { name := "start", desc := "(Lcom/example/strumyk/strumyk/message/SimpleType$Form;)V", sig := { parameters := [(.object "com/example/strumyk/strumyk/message/SimpleType$Form")], returnType := none }, accessFlags := 0, code := some k2c1 }
def k2c2 : Code := { maxStack := 3, maxLocals := 2, code := prog_10_method_3_code, exceptionTable := #[], attributes := #[] }
def k2m2 : Method := { name := "take", desc := "(C)V", sig := { parameters := [.char], returnType := none }, accessFlags := 0, code := some k2c2 }
def k2c3 : Code := { maxStack := 7, maxLocals := 2, code := prog_10_method_4_code, exceptionTable := #[], attributes := #[] }
def k2m3 : Method := { name := "digit", desc := "(I)V", sig := { parameters := [.int], returnType := none }, accessFlags := 2, code := some k2c3 }
def k2c4 : Code := { maxStack := 5, maxLocals := 6, code := prog_10_method_5_code, exceptionTable := #[], attributes := #[] }
def k2m4 : Method := { name := "append", desc := "(JI)V", sig := { parameters := [.long, .int], returnType := none }, accessFlags := 2, code := some k2c4 }
def k2c5 : Code := { maxStack := 2, maxLocals := 1, code := prog_10_method_6_code, exceptionTable := #[], attributes := #[] }
def k2m5 : Method := { name := "wellFormed", desc := "()Z", sig := { parameters := [], returnType := some .boolean }, accessFlags := 0, code := some k2c5 }
def k2c6 : Code := { maxStack := 4, maxLocals := 1, code := prog_10_method_9_code, exceptionTable := #[], attributes := #[] }
def k2m6 : Method := { name := "totalDigits", desc := "()J", sig := { parameters := [], returnType := some .long }, accessFlags := 0, code := some k2c6 }
/-- com/example/strumyk/strumyk/check/NumberText -/
def k2 : Class := { plain "com/example/strumyk/strumyk/check/NumberText" (some 0) with
  accessFlags := 48
  interfaces := #[]
  cf := some (fileOf pool2 14 #[.nestMembers #[20]] #[{ accessFlags := 0, nameIndex := 5, descriptorIndex := 6, attributes := #[] }, { accessFlags := 0, nameIndex := 85, descriptorIndex := 86, attributes := #[] }, { accessFlags := 0, nameIndex := 88, descriptorIndex := 89, attributes := #[] }, { accessFlags := 2, nameIndex := 54, descriptorIndex := 55, attributes := #[] }, { accessFlags := 2, nameIndex := 61, descriptorIndex := 62, attributes := #[] }, { accessFlags := 0, nameIndex := 90, descriptorIndex := 91, attributes := #[] }, { accessFlags := 0, nameIndex := 65, descriptorIndex := 66, attributes := #[] }] 48 2 #[] #[{ accessFlags := 2, nameIndex := 17, descriptorIndex := 18, attributes := #[] }, { accessFlags := 2, nameIndex := 27, descriptorIndex := 24, attributes := #[] }, { accessFlags := 2, nameIndex := 30, descriptorIndex := 18, attributes := #[] }, { accessFlags := 2, nameIndex := 33, descriptorIndex := 18, attributes := #[] }, { accessFlags := 2, nameIndex := 36, descriptorIndex := 37, attributes := #[] }, { accessFlags := 2, nameIndex := 40, descriptorIndex := 37, attributes := #[] }, { accessFlags := 2, nameIndex := 43, descriptorIndex := 37, attributes := #[] }, { accessFlags := 2, nameIndex := 46, descriptorIndex := 37, attributes := #[] }])
  fields := #[{ name := "integerOnly", type := .boolean, accessFlags := 2, slot := 0, constantValue := 0 }, { name := "part", type := (.object "com/example/strumyk/strumyk/check/NumberText$Part"), accessFlags := 2, slot := 1, constantValue := 0 }, { name := "negative", type := .boolean, accessFlags := 2, slot := 2, constantValue := 0 }, { name := "digitRead", type := .boolean, accessFlags := 2, slot := 3, constantValue := 0 }, { name := "integerDigits", type := .long, accessFlags := 2, slot := 4, constantValue := 0 }, { name := "fractionDigits", type := .long, accessFlags := 2, slot := 5, constantValue := 0 }, { name := "pendingZeros", type := .long, accessFlags := 2, slot := 6, constantValue := 0 }, { name := "unscaled", type := .long, accessFlags := 2, slot := 7, constantValue := 0 }]
  methods := #[k2m0, k2m1, k2m2, k2m3, k2m4, k2m5, k2m6]
  instanceTypes := #[.boolean, (.object "com/example/strumyk/strumyk/check/NumberText$Part"), .boolean, .boolean, .long, .long, .long, .long]
  staticTypes := #[]
  resolved := Array.replicate 100 none
  statics := none }

def pool3 : Array CpInfo := pool [(1, .class_ 2), (0, u "java/lang/constant/Constable"), (0, .class_ 4), (0, u "java/lang/Object")] 6

/-- java/lang/constant/Constable -/
def k3 : Class := { plain "java/lang/constant/Constable" (some 0) with
  accessFlags := 1537
  interfaces := #[]
  cf := some (fileOf pool3 1 #[] #[] 1537 3 #[] #[])
  fields := #[]
  methods := #[]
  instanceTypes := #[]
  staticTypes := #[]
  resolved := Array.replicate 11 none
  statics := none }

def pool4 : Array CpInfo := pool [(1, .class_ 2), (0, u "java/lang/Comparable"), (0, .class_ 4), (0, u "java/lang/Object")] 7

/-- java/lang/Comparable -/
def k4 : Class := { plain "java/lang/Comparable" (some 0) with
  accessFlags := 1537
  interfaces := #[]
  cf := some (fileOf pool4 1 #[] #[] 1537 3 #[] #[])
  fields := #[]
  methods := #[]
  instanceTypes := #[]
  staticTypes := #[]
  resolved := Array.replicate 12 none
  statics := none }

def pool5 : Array CpInfo := pool [(1, .class_ 2), (0, u "java/io/Serializable"), (0, .class_ 4), (0, u "java/lang/Object")] 2

/-- java/io/Serializable -/
def k5 : Class := { plain "java/io/Serializable" (some 0) with
  accessFlags := 1537
  interfaces := #[]
  cf := some (fileOf pool5 1 #[] #[] 1537 3 #[] #[])
  fields := #[]
  methods := #[]
  instanceTypes := #[]
  staticTypes := #[]
  resolved := Array.replicate 7 none
  statics := none }

def pool6 : Array CpInfo := pool [(2, .class_ 4), (1, u "java/lang/Enum"), (0, u "name"), (0, u "Ljava/lang/String;"), (2, u "ordinal"), (0, u "I"), (1, .class_ 14), (1, u "java/lang/Object"), (4, u "hash"), (86, .class_ 108), (1, u "java/lang/Enum$EnumDesc"), (2, .class_ 112), (0, u "java/lang/constant/Constable"), (0, .class_ 114), (0, u "java/lang/Comparable"), (0, .class_ 116), (0, u "java/io/Serializable")] 87

/-- java/lang/Enum -/
def k6 : Class := { plain "java/lang/Enum" (some 0) with
  accessFlags := 1057
  interfaces := #[3, 4, 5]
  cf := some (fileOf pool6 2 #[.nestMembers #[106]] #[] 1057 12 #[111, 113, 115] #[{ accessFlags := 18, nameIndex := 5, descriptorIndex := 6, attributes := #[] }, { accessFlags := 18, nameIndex := 9, descriptorIndex := 10, attributes := #[] }, { accessFlags := 2, nameIndex := 19, descriptorIndex := 10, attributes := #[] }])
  fields := #[{ name := "name", type := (.object "java/lang/String"), accessFlags := 18, slot := 0, constantValue := 0 }, { name := "ordinal", type := .int, accessFlags := 18, slot := 1, constantValue := 0 }, { name := "hash", type := .int, accessFlags := 2, slot := 2, constantValue := 0 }]
  methods := #[]
  instanceTypes := #[(.object "java/lang/String"), .int, .int]
  staticTypes := #[]
  resolved := Array.replicate 204 none
  statics := none }

def pool7 : Array CpInfo := pool [(1, .class_ 2), (0, u "com/example/strumyk/strumyk/message/SimpleType$Form"), (2, u "STRING"), (0, u "Lcom/example/strumyk/strumyk/message/SimpleType$Form;"), (2, u "DECIMAL"), (2, u "INTEGER"), (2, u "DATE"), (2, u "DATE_TIME"), (2, u "$VALUES"), (0, u "[Lcom/example/strumyk/strumyk/message/SimpleType$Form;"), (6, .class_ 31), (1, u "java/lang/Enum"), (28, .class_ 61), (0, u "com/example/strumyk/strumyk/message/SimpleType")] 2

/-- com/example/strumyk/strumyk/message/SimpleType$Form -/
def k7 : Class := { plain "com/example/strumyk/strumyk/message/SimpleType$Form" (some 6) with
  accessFlags := 16433
  interfaces := #[]
  cf := some (fileOf pool7 1 #[.nestHost 60] #[] 16433 29 #[] #[{ accessFlags := 16409, nameIndex := 5, descriptorIndex := 6, attributes := #[] }, { accessFlags := 16409, nameIndex := 9, descriptorIndex := 6, attributes := #[] }, { accessFlags := 16409, nameIndex := 12, descriptorIndex := 6, attributes := #[] }, { accessFlags := 16409, nameIndex := 15, descriptorIndex := 6, attributes := #[] }, { accessFlags := 16409, nameIndex := 18, descriptorIndex := 6, attributes := #[] }, { accessFlags := 4122, nameIndex := 21, descriptorIndex := 22, attributes := #[] }])
  fields := #[{ name := "STRING", type := (.object "com/example/strumyk/strumyk/message/SimpleType$Form"), accessFlags := 16409, slot := 0, constantValue := 0 }, { name := "DECIMAL", type := (.object "com/example/strumyk/strumyk/message/SimpleType$Form"), accessFlags := 16409, slot := 1, constantValue := 0 }, { name := "INTEGER", type := (.object "com/example/strumyk/strumyk/message/SimpleType$Form"), accessFlags := 16409, slot := 2, constantValue := 0 }, { name := "DATE", type := (.object "com/example/strumyk/strumyk/message/SimpleType$Form"), accessFlags := 16409, slot := 3, constantValue := 0 }, { name := "DATE_TIME", type := (.object "com/example/strumyk/strumyk/message/SimpleType$Form"), accessFlags := 16409, slot := 4, constantValue := 0 }, { name := "$VALUES", type := (.array (.object "com/example/strumyk/strumyk/message/SimpleType$Form")), accessFlags := 4122, slot := 5, constantValue := 0 }]
  methods := #[]
  instanceTypes := #[(.object "java/lang/String"), .int, .int]
  staticTypes := #[(.object "com/example/strumyk/strumyk/message/SimpleType$Form"), (.object "com/example/strumyk/strumyk/message/SimpleType$Form"), (.object "com/example/strumyk/strumyk/message/SimpleType$Form"), (.object "com/example/strumyk/strumyk/message/SimpleType$Form"), (.object "com/example/strumyk/strumyk/message/SimpleType$Form"), (.array (.object "com/example/strumyk/strumyk/message/SimpleType$Form"))]
  resolved := Array.replicate 64 none
  statics := some 0 }

def pool8 : Array CpInfo := pool [(1, .class_ 2), (0, u "com/example/strumyk/strumyk/check/NumberText$Part"), (2, u "SIGN"), (0, u "Lcom/example/strumyk/strumyk/check/NumberText$Part;"), (2, u "INTEGER"), (2, u "FRACTION"), (2, u "BROKEN"), (2, u "$VALUES"), (0, u "[Lcom/example/strumyk/strumyk/check/NumberText$Part;"), (6, .class_ 28), (1, u "java/lang/Enum"), (27, .class_ 57), (0, u "com/example/strumyk/strumyk/check/NumberText")] 2

/-- com/example/strumyk/strumyk/check/NumberText$Part -/
def k8 : Class := { plain "com/example/strumyk/strumyk/check/NumberText$Part" (some 6) with
  accessFlags := 16432
  interfaces := #[]
  cf := some (fileOf pool8 1 #[.nestHost 56] #[] 16432 26 #[] #[{ accessFlags := 16409, nameIndex := 5, descriptorIndex := 6, attributes := #[] }, { accessFlags := 16409, nameIndex := 9, descriptorIndex := 6, attributes := #[] }, { accessFlags := 16409, nameIndex := 12, descriptorIndex := 6, attributes := #[] }, { accessFlags := 16409, nameIndex := 15, descriptorIndex := 6, attributes := #[] }, { accessFlags := 4122, nameIndex := 18, descriptorIndex := 19, attributes := #[] }])
  fields := #[{ name := "SIGN", type := (.object "com/example/strumyk/strumyk/check/NumberText$Part"), accessFlags := 16409, slot := 0, constantValue := 0 }, { name := "INTEGER", type := (.object "com/example/strumyk/strumyk/check/NumberText$Part"), accessFlags := 16409, slot := 1, constantValue := 0 }, { name := "FRACTION", type := (.object "com/example/strumyk/strumyk/check/NumberText$Part"), accessFlags := 16409, slot := 2, constantValue := 0 }, { name := "BROKEN", type := (.object "com/example/strumyk/strumyk/check/NumberText$Part"), accessFlags := 16409, slot := 3, constantValue := 0 }, { name := "$VALUES", type := (.array (.object "com/example/strumyk/strumyk/check/NumberText$Part")), accessFlags := 4122, slot := 4, constantValue := 0 }]
  methods := #[]
  instanceTypes := #[(.object "java/lang/String"), .int, .int]
  staticTypes := #[(.object "com/example/strumyk/strumyk/check/NumberText$Part"), (.object "com/example/strumyk/strumyk/check/NumberText$Part"), (.object "com/example/strumyk/strumyk/check/NumberText$Part"), (.object "com/example/strumyk/strumyk/check/NumberText$Part"), (.array (.object "com/example/strumyk/strumyk/check/NumberText$Part"))]
  resolved := Array.replicate 60 none
  statics := some 1 }

def pool9 : Array CpInfo := pool [(1, u "java/lang/Cloneable"), (0, .class_ 1), (0, u "java/lang/Object"), (0, .class_ 3)] 3

/-- java/lang/Cloneable -/
def k9 : Class := { plain "java/lang/Cloneable" (some 0) with
  accessFlags := 1537
  interfaces := #[]
  cf := some (fileOf pool9 2 #[] #[] 1537 4 #[] #[])
  fields := #[]
  methods := #[]
  instanceTypes := #[]
  staticTypes := #[]
  resolved := Array.replicate 8 none
  statics := none }

/-- the primitive byte -/
def k10 : Class := { plain "byte" none with kind := .primitive 'B', accessFlags := 0x411 }
/-- [B -/
def k11 : Class := { plain "[B" (some 0) with kind := .array 10 .byte, interfaces := #[9, 5], accessFlags := 1041 }

/-- the primitive char -/
def k12 : Class := { plain "char" none with kind := .primitive 'C', accessFlags := 0x411 }
/-- [C -/
def k13 : Class := { plain "[C" (some 0) with kind := .array 12 .char, interfaces := #[9, 5], accessFlags := 1041 }

/-- the primitive int -/
def k14 : Class := { plain "int" none with kind := .primitive 'I', accessFlags := 0x411 }
/-- [I -/
def k15 : Class := { plain "[I" (some 0) with kind := .array 14 .int, interfaces := #[9, 5], accessFlags := 1041 }

def heap : Heap := #[{ cls := 7, slots := #[.null, .ref 2, .ref 3, .null, .null, .null], vm := .statics 7 },
  { cls := 8, slots := #[.ref 4, .ref 5, .ref 6, .ref 7, .null], vm := .statics 8 },
  { cls := 7, slots := #[.null, .int 1, .int 0], vm := .none },
  { cls := 7, slots := #[.null, .int 2, .int 0], vm := .none },
  { cls := 8, slots := #[.null, .int 0, .int 0], vm := .none },
  { cls := 8, slots := #[.null, .int 1, .int 0], vm := .none },
  { cls := 8, slots := #[.null, .int 2, .int 0], vm := .none },
  { cls := 8, slots := #[.null, .int 3, .int 0], vm := .none }]
def classes : Array Class := #[k0, k1, k2, k3, k4, k5, k6, k7, k8, k9, k10, k11, k12, k13, k14, k15]
def interned : List (Array UInt16 × Addr) := []
def slotsUsed : Nat := 29
def theMethod : MethodId := ⟨1, 4⟩
def args0 : Array Value := #[.int 9, .int 3, .int 7, .int 7, .int 7]
def aboutOver (below : List Frame) : State where
  vm := { classes := classes, interned := interned.toArray }
  heap := heap
  slotsUsed := slotsUsed
  threads := #[{ frames := .invoking theMethod args0 :: below }]
def below0 : List Frame := [.native { method := ⟨0, 0⟩, args := #[] }]
def about1 : State := aboutOver below0
def p0 : Program := .bare "" "" ""
def e0 : Env := launch0.env 0 0 0
theorem w_frames : about1.frames = Frame.invoking theMethod args0 :: below0 := rfl
set_option maxRecDepth 65536 in
theorem w_args : argsFit about1.vm theMethod args0 = true := by decide +kernel
set_option maxRecDepth 65536 in
theorem w_heap : heapFits about1 = true := by decide +kernel
set_option maxRecDepth 65536 in
theorem w_runnable : about1.curStatus? = some .runnable := by decide +kernel
set_option maxRecDepth 65536 in
theorem w_alone : about1.alone = true := by decide +kernel
set_option maxRecDepth 65536 in
theorem w_named : about1.methodNamed? x = some theMethod := by decide +kernel
set_option maxRecDepth 65536 in
theorem w_hears : about1.hears theMethod below0 = true := by decide +kernel
set_option maxRecDepth 65536 in
theorem w_ripe : about1.ripe theMethod args0 below0 = true := by decide +kernel
theorem w_running : about1.status = .running := rfl
set_option maxRecDepth 65536 in
theorem w_room : about1.hasRoom e0.platform room_1 = true :=
  launch0.hasRoom_least _ room_1 (by decide +kernel) (by decide +kernel) (by decide +kernel) (by decide +kernel) (by decide +kernel) (by decide +kernel)
theorem allAtoms_all (ts : List Jvm.Cond) (a : Array Jvm.Value) (st : Jvm.State) : (allAtoms ts).before a st = ts.all (fun c => c.before a st) := by
  induction ts with
  | nil => rfl
  | cons c t ih =>
    show (Jvm.Cond.and c (allAtoms t)).before a st = _
    rw [Jvm.Cond.before_and, ih, List.all_cons]
def words1 : List Jvm.Cond := Jvm.Cond.code x code maxLocals ret :: tables_1
/-- a 'code' word, met by the world's own term for the bytes: nothing is compared byte by byte -/
theorem code_word {y : MethodName} {bytes : ByteArray} {mx : Nat} {rt : Option FieldType} {a : Array Value} {s : State} {m : MethodId} {meth : Method} {c : Code} (h1 : s.methodNamed? y = some m) (h2 : s.vm.method? m = some meth) (h3 : meth.code = some c) (h4 : c.code = bytes)
    (h5 : (c.maxLocals == mx && c.exceptionTable.isEmpty && decide (c.maxStack ≤ mostOperands) && decide (meth.sig.returnType = rt) && !meth.locks && decide (parseMethodDescriptor y.desc = some meth.sig)) = true) : (Jvm.Cond.code y bytes mx rt).before a s = true := by
  simp only [Bool.and_eq_true, beq_iff_eq, Bool.not_eq_true', decide_eq_true_eq] at h5
  obtain ⟨⟨⟨⟨⟨g1, g2⟩, g3⟩, g4⟩, g5⟩, g6⟩ := h5
  simp [Cond.before, Cond.holds, Cond.value, h1, h2, h3, h4, g1, g2, g3, g4, g5, g6]
def isCode : Jvm.Cond → Bool
  | .code _ _ _ _ => true
  | _ => false
theorem all_split {L : List Jvm.Cond} {P : Jvm.Cond → Bool} (h1 : L.all (fun c => isCode c || P c) = true) (h2 : ∀ c ∈ L.filter isCode, P c = true) : L.all P = true := by
  refine List.all_eq_true.mpr fun c hc => ?_
  have h := List.all_eq_true.mp h1 c hc
  rcases Bool.eq_false_or_eq_true (isCode c) with hi | hi
  · exact h2 c (List.mem_filter.mpr ⟨hc, hi⟩)
  · simpa [hi] using h
set_option maxRecDepth 65536 in
theorem w_c0 : (Jvm.Cond.code x code maxLocals ret).before args0 about1 = true := code_word (m := ⟨1, 4⟩) (meth := k1m4) (c := k1c4) (by decide +kernel) rfl rfl rfl (by decide +kernel)
set_option maxRecDepth 65536 in
theorem w_c1 : (Jvm.Cond.code ({ cls := "com/example/strumyk/strumyk/check/NumberTextWellFormedPinLaw", name := "draw", desc := "(I)C" } : Jvm.MethodName) method_2_code (3 : Nat) (Option.some Jvm.ClassFile.FieldType.char)).before args0 about1 = true := code_word (m := ⟨1, 1⟩) (meth := k1m1) (c := k1c1) (by decide +kernel) rfl rfl rfl (by decide +kernel)
set_option maxRecDepth 65536 in
theorem w_c2 : (Jvm.Cond.code ({ cls := "com/example/strumyk/strumyk/check/NumberText", name := "<init>", desc := "()V" } : Jvm.MethodName) prog_10_method_1_code (1 : Nat) (Option.none : Option Jvm.ClassFile.FieldType)).before args0 about1 = true := code_word (m := ⟨2, 0⟩) (meth := k2m0) (c := k2c0) (by decide +kernel) rfl rfl rfl (by decide +kernel)
set_option maxRecDepth 65536 in
theorem w_c3 : (Jvm.Cond.code ({ cls := "java/lang/Object", name := "<init>", desc := "()V" } : Jvm.MethodName) object_method_1_code (1 : Nat) (Option.none : Option Jvm.ClassFile.FieldType)).before args0 about1 = true := code_word (m := ⟨0, 0⟩) (meth := k0m0) (c := k0c0) (by decide +kernel) rfl rfl rfl (by decide +kernel)
set_option maxRecDepth 65536 in
theorem w_c4 : (Jvm.Cond.code ({ cls := "com/example/strumyk/strumyk/check/NumberText", name := "start", desc := "(Lcom/example/strumyk/strumyk/message/SimpleType$Form;)V" } : Jvm.MethodName) prog_10_method_2_code (2 : Nat) (Option.none : Option Jvm.ClassFile.FieldType)).before args0 about1 = true := code_word (m := ⟨2, 1⟩) (meth := k2m1) (c := k2c1) (by decide +kernel) rfl rfl rfl (by decide +kernel)
set_option maxRecDepth 65536 in
theorem w_c5 : (Jvm.Cond.code ({ cls := "com/example/strumyk/strumyk/check/NumberText", name := "wellFormed", desc := "()Z" } : Jvm.MethodName) prog_10_method_6_code (1 : Nat) (Option.some Jvm.ClassFile.FieldType.boolean)).before args0 about1 = true := code_word (m := ⟨2, 5⟩) (meth := k2m5) (c := k2c5) (by decide +kernel) rfl rfl rfl (by decide +kernel)
set_option maxRecDepth 65536 in
theorem w_c6 : (Jvm.Cond.code ({ cls := "com/example/strumyk/strumyk/check/NumberText", name := "take", desc := "(C)V" } : Jvm.MethodName) prog_10_method_3_code (2 : Nat) (Option.none : Option Jvm.ClassFile.FieldType)).before args0 about1 = true := code_word (m := ⟨2, 2⟩) (meth := k2m2) (c := k2c2) (by decide +kernel) rfl rfl rfl (by decide +kernel)
set_option maxRecDepth 65536 in
theorem w_c7 : (Jvm.Cond.code ({ cls := "com/example/strumyk/strumyk/check/NumberText", name := "digit", desc := "(I)V" } : Jvm.MethodName) prog_10_method_4_code (2 : Nat) (Option.none : Option Jvm.ClassFile.FieldType)).before args0 about1 = true := code_word (m := ⟨2, 3⟩) (meth := k2m3) (c := k2c3) (by decide +kernel) rfl rfl rfl (by decide +kernel)
set_option maxRecDepth 65536 in
theorem w_c8 : (Jvm.Cond.code ({ cls := "com/example/strumyk/strumyk/check/NumberText", name := "append", desc := "(JI)V" } : Jvm.MethodName) prog_10_method_5_code (6 : Nat) (Option.none : Option Jvm.ClassFile.FieldType)).before args0 about1 = true := code_word (m := ⟨2, 4⟩) (meth := k2m4) (c := k2c4) (by decide +kernel) rfl rfl rfl (by decide +kernel)
set_option maxRecDepth 65536 in
theorem w_c9 : (Jvm.Cond.code ({ cls := "com/example/strumyk/strumyk/check/NumberText", name := "totalDigits", desc := "()J" } : Jvm.MethodName) prog_10_method_9_code (1 : Nat) (Option.some Jvm.ClassFile.FieldType.long)).before args0 about1 = true := code_word (m := ⟨2, 6⟩) (meth := k2m6) (c := k2c6) (by decide +kernel) rfl rfl rfl (by decide +kernel)
set_option maxRecDepth 65536 in
theorem w_c10 : (Jvm.Cond.code ({ cls := "com/example/strumyk/strumyk/check/NumberTextWellFormedPinLaw", name := "allowed", desc := "(CI)Z" } : Jvm.MethodName) method_4_code (2 : Nat) (Option.some Jvm.ClassFile.FieldType.boolean)).before args0 about1 = true := code_word (m := ⟨1, 3⟩) (meth := k1m3) (c := k1c3) (by decide +kernel) rfl rfl rfl (by decide +kernel)
set_option maxRecDepth 65536 in
theorem w_c11 : (Jvm.Cond.code ({ cls := "com/example/strumyk/strumyk/check/NumberTextWellFormedPinLaw", name := "isDigit", desc := "(C)Z" } : Jvm.MethodName) method_3_code (1 : Nat) (Option.some Jvm.ClassFile.FieldType.boolean)).before args0 about1 = true := code_word (m := ⟨1, 2⟩) (meth := k1m2) (c := k1c2) (by decide +kernel) rfl rfl rfl (by decide +kernel)
def codes1 : List Jvm.Cond := [Jvm.Cond.code x code maxLocals ret, Jvm.Cond.code ({ cls := "com/example/strumyk/strumyk/check/NumberTextWellFormedPinLaw", name := "draw", desc := "(I)C" } : Jvm.MethodName) method_2_code (3 : Nat) (Option.some Jvm.ClassFile.FieldType.char), Jvm.Cond.code ({ cls := "com/example/strumyk/strumyk/check/NumberText", name := "<init>", desc := "()V" } : Jvm.MethodName) prog_10_method_1_code (1 : Nat) (Option.none : Option Jvm.ClassFile.FieldType), Jvm.Cond.code ({ cls := "java/lang/Object", name := "<init>", desc := "()V" } : Jvm.MethodName) object_method_1_code (1 : Nat) (Option.none : Option Jvm.ClassFile.FieldType), Jvm.Cond.code ({ cls := "com/example/strumyk/strumyk/check/NumberText", name := "start", desc := "(Lcom/example/strumyk/strumyk/message/SimpleType$Form;)V" } : Jvm.MethodName) prog_10_method_2_code (2 : Nat) (Option.none : Option Jvm.ClassFile.FieldType), Jvm.Cond.code ({ cls := "com/example/strumyk/strumyk/check/NumberText", name := "wellFormed", desc := "()Z" } : Jvm.MethodName) prog_10_method_6_code (1 : Nat) (Option.some Jvm.ClassFile.FieldType.boolean), Jvm.Cond.code ({ cls := "com/example/strumyk/strumyk/check/NumberText", name := "take", desc := "(C)V" } : Jvm.MethodName) prog_10_method_3_code (2 : Nat) (Option.none : Option Jvm.ClassFile.FieldType), Jvm.Cond.code ({ cls := "com/example/strumyk/strumyk/check/NumberText", name := "digit", desc := "(I)V" } : Jvm.MethodName) prog_10_method_4_code (2 : Nat) (Option.none : Option Jvm.ClassFile.FieldType), Jvm.Cond.code ({ cls := "com/example/strumyk/strumyk/check/NumberText", name := "append", desc := "(JI)V" } : Jvm.MethodName) prog_10_method_5_code (6 : Nat) (Option.none : Option Jvm.ClassFile.FieldType), Jvm.Cond.code ({ cls := "com/example/strumyk/strumyk/check/NumberText", name := "totalDigits", desc := "()J" } : Jvm.MethodName) prog_10_method_9_code (1 : Nat) (Option.some Jvm.ClassFile.FieldType.long), Jvm.Cond.code ({ cls := "com/example/strumyk/strumyk/check/NumberTextWellFormedPinLaw", name := "allowed", desc := "(CI)Z" } : Jvm.MethodName) method_4_code (2 : Nat) (Option.some Jvm.ClassFile.FieldType.boolean), Jvm.Cond.code ({ cls := "com/example/strumyk/strumyk/check/NumberTextWellFormedPinLaw", name := "isDigit", desc := "(C)Z" } : Jvm.MethodName) method_3_code (1 : Nat) (Option.some Jvm.ClassFile.FieldType.boolean)]
set_option maxRecDepth 65536 in
theorem codes_eq : words1.filter isCode = codes1 := rfl
theorem w_codes : ∀ c ∈ words1.filter isCode, c.before args0 about1 = true := by
  rw [codes_eq]
  intro c hc
  simp only [codes1, List.mem_cons, List.not_mem_nil, or_false] at hc
  rcases hc with rfl | rfl | rfl | rfl | rfl | rfl | rfl | rfl | rfl | rfl | rfl | rfl
  · exact w_c0
  · exact w_c1
  · exact w_c2
  · exact w_c3
  · exact w_c4
  · exact w_c5
  · exact w_c6
  · exact w_c7
  · exact w_c8
  · exact w_c9
  · exact w_c10
  · exact w_c11
set_option maxRecDepth 65536 in
theorem w_t1 : (words1.take 24).all (fun c => isCode c || c.before args0 about1) = true := by decide +kernel
set_option maxRecDepth 65536 in
theorem w_t2 : ((words1.drop 24).take 24).all (fun c => isCode c || c.before args0 about1) = true := by decide +kernel
set_option maxRecDepth 65536 in
theorem w_t3 : (((words1.drop 24).drop 24).take 24).all (fun c => isCode c || c.before args0 about1) = true := by decide +kernel
set_option maxRecDepth 65536 in
theorem w_t4 : (((words1.drop 24).drop 24).drop 24).all (fun c => isCode c || c.before args0 about1) = true := by decide +kernel
theorem w_tables : (allAtoms (Jvm.Cond.code x code maxLocals ret :: tables_1)).before args0 about1 = true := by
  rw [allAtoms_all]
  show words1.all (fun c => c.before args0 about1) = true
  refine all_split ?_ w_codes
  rw [← List.take_append_drop 24 words1, List.all_append, w_t1, ← List.take_append_drop 24 (words1.drop 24), List.all_append, w_t2, ← List.take_append_drop 24 ((words1.drop 24).drop 24), List.all_append, w_t3, w_t4]
  rfl
set_option maxRecDepth 65536 in
theorem w_case : (Jvm.Cond.and given_1 narrow_1).before args0 about1 = true := by decide +kernel
theorem w_applies : (headSpec (Jvm.Cond.code x code maxLocals ret :: tables_1) room_1).applies x e0.platform about1 = true :=
  (Spec.applies_iff w_frames).mpr ⟨w_running, w_runnable, w_alone, w_named, w_hears, w_ripe, w_room, w_tables⟩
theorem atStart : AtStart classFile x code maxLocals ret World_1 tables_1 room_1 Calls_1 rest_1 Pre_1 launch0 p0 e0 about1 theMethod args0 below0 :=
  ⟨lists_1, trivial, launch0.admits_env _ _ _, launch0.least_env, fairChoices_fair.cas, fairChoices_fair.clock, w_frames, w_args, w_heap, w_applies, trivial, trivial, w_case⟩
end start1
theorem witness_1 : WitnessClaimed_1 := ⟨start1.p0, start1.e0, start1.about1, start1.theMethod, start1.args0, start1.below0, start1.atStart⟩
end Jvm.Pilot.@@N@@
