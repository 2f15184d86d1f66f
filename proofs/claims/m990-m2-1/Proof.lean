import JvmDerived
import JvmDerived.Pilot.@@N@@Statement
import JvmDerived.Pilot.@@N@@Code
set_option linter.unusedVariables false
set_option linter.unusedSimpArgs false
namespace Jvm.RoadKit
open Sem ClassFile Op Lib Jvm.Stand Jvm.Free Jvm.LawKit
section New
variable {p : Program} {l : Launch} {e : Env} {R : Room} {s : State} {m : MethodId} {args : Array Value} {below : List Frame} {meth : Method} {c : Code} {T : State} {locs : List Loc} {cells slots : Nat}
theorem retI (X : Stand p l e R s m args below meth c T locs cells slots) (hx : p.tables.exec = Jvm.exec) {pc : Nat} {Ls : Array Slot} {z : Int32} {rest : List Value} (hret : meth.sig.returnType = some .int) (hd : decode c.code pc = .ok (.ireturn, 1)) {fs : List Frame}
    (hl : ∀ (f : JFrame) (acts : List Action), f.method = m → f.locked = none → f.entered = [] → (doReturn e (T.setTop f) acts (some (.int z))).1 = T.setFrames fs) : Steps p.tables e below (T.setTop (mkF m pc Ls (.int z :: rest))) (T.setFrames fs) :=
  retOut X hx hret rfl (Or.inl ⟨rfl, Or.inl rfl, _, rfl⟩) hd hl
abbrev own_M (l : Launch) (y : MethodName) (cd : List Cond) (rm : Room) (as' : Array Value) (Z : State) (h0 : Heap) (Q : Option Value → Heap → List Loc → Prop) : Prop := MetFree l y (head1 cd rm) (fun a U => a = as' ∧ Z.Warmed39 U.vm ∧ U.heap = h0) (fun _ _ _ _ _ => True) (fun _ U o U' => ∃ v L, o = .returned v ∧ Q v U'.heap L ∧ FrameEnd U o U' L rm.cells rm.slots)
abbrev own_l (x : Int64) : Slot := .val (.long x)
abbrev own_S (p : Program) (e : Env) (below : List Frame) (T : State) (f : JFrame) (t : State) : Prop := Steps p.tables e below (T.setTop f) t
theorem own_sta_keep {Z : State} {h h' : Heap} {C n d : String} {w : Value} {ws : List Addr} (F : Sta Z h C n d w) (K : Keep h h' ws) (ns : ∀ x ∈ ws, ∀ cell : Cell, h[x]? = some cell → cell.vm.isStatics = false) : Sta Z h' C n d w := by
  obtain ⟨cf, i, k, f, st, cell, h1, h2, h3, h4, h5, h6, h7⟩ := F
  refine ⟨cf, i, k, f, st, cell, h1, h2, h3, h4, K.2.1 st cell h5 (fun hm => ?_), h6, h7⟩
  rw [ns st hm cell h5] at h6
  cases h6
theorem own_sto {Z : State} {h : Heap} {a y : Addr} {k : ClassId} {ty : FieldType} {z : Int32} {vs : List Value} {dv : Value} {C : String} (A : Arv Z h a k ty z vs dv) (O : Ovr Z k C) (I : Ins Z h y C true) : Sto Z h a (.ref y) := by
  obtain ⟨c, Ar, q, -⟩ := A
  exact Sto.ofV Ar q O I
theorem own_selp {s : State} {args : Array Value} {w y : MethodName} (hs : (Cond.selects w.cls w w).before args s = true) (e : w.cls = y.cls) (hp : s.PrivateAt y) (hi : (Cond.instanceMethod y).before args s = true) (hy : y.cls ≠ "java/lang/invoke/MethodHandle" ∧ y.cls ≠ "java/lang/invoke/VarHandle") : (Cond.selects y.cls y y).before args s = true := by
  obtain ⟨c2, r2, m2, q1, q2, q3, q4, kP, hkP, hkPi⟩ := Cond.selects_spec hs
  exact selects_self_of_private (c := m2.cls) (by rw [← e]; exact findClass_of_methodNamed q3) hkP hkPi hp hi hy
end New
end Jvm.RoadKit
namespace Jvm.Pilot.@@N@@
open Jvm Jvm.ClassFile Sem Op Lib Jvm.Free Jvm.Stand Jvm.LawKit Jvm.RoadKit Bundle Jvm.Pilot.@@N@@.Jvm.D
theorem d1_0 : decode method_2_code 0 = .ok (.iload_n 0, 1) := by decide +kernel
theorem d1_1 : decode method_2_code 1 = .ok (.bipush 8, 2) := by decide +kernel
theorem d1_3 : decode method_2_code 3 = .ok (.iushr, 1) := by decide +kernel
theorem d1_4 : decode method_2_code 4 = .ok (.iconst 1, 1) := by decide +kernel
theorem d1_5 : decode method_2_code 5 = .ok (.iand, 1) := by decide +kernel
theorem d1_6 : decode method_2_code 6 = .ok (.ifCond .eq 6, 3) := by decide +kernel
theorem d1_9 : decode method_2_code 9 = .ok (.bipush 47, 2) := by decide +kernel
theorem d1_11 : decode method_2_code 11 = .ok (.ireturn, 1) := by decide +kernel
theorem d1_12 : decode method_2_code 12 = .ok (.iload_n 0, 1) := by decide +kernel
theorem d1_13 : decode method_2_code 13 = .ok (.sipush 255, 3) := by decide +kernel
theorem d1_16 : decode method_2_code 16 = .ok (.iand, 1) := by decide +kernel
theorem d1_17 : decode method_2_code 17 = .ok (.i2c, 1) := by decide +kernel
theorem d1_18 : decode method_2_code 18 = .ok (.ireturn, 1) := by decide +kernel
theorem d2_0 : decode method_3_code 0 = .ok (.iload_n 0, 1) := by decide +kernel
theorem d2_1 : decode method_3_code 1 = .ok (.ifCond .ne 7, 3) := by decide +kernel
theorem d2_4 : decode method_3_code 4 = .ok (.iconst 0, 1) := by decide +kernel
theorem d2_5 : decode method_3_code 5 = .ok (.newarray .char, 2) := by decide +kernel
theorem d2_7 : decode method_3_code 7 = .ok (.areturn, 1) := by decide +kernel
theorem d2_8 : decode method_3_code 8 = .ok (.iload_n 0, 1) := by decide +kernel
theorem d2_9 : decode method_3_code 9 = .ok (.iconst 1, 1) := by decide +kernel
theorem d2_10 : decode method_3_code 10 = .ok (.if_icmp .ne 11, 3) := by decide +kernel
theorem d2_13 : decode method_3_code 13 = .ok (.iconst 1, 1) := by decide +kernel
theorem d2_14 : decode method_3_code 14 = .ok (.newarray .char, 2) := by decide +kernel
theorem d2_16 : decode method_3_code 16 = .ok (.dup, 1) := by decide +kernel
theorem d2_17 : decode method_3_code 17 = .ok (.iconst 0, 1) := by decide +kernel
theorem d2_18 : decode method_3_code 18 = .ok (.iload_n 1, 1) := by decide +kernel
theorem d2_19 : decode method_3_code 19 = .ok (.castore, 1) := by decide +kernel
theorem d2_20 : decode method_3_code 20 = .ok (.areturn, 1) := by decide +kernel
theorem d2_21 : decode method_3_code 21 = .ok (.iload_n 0, 1) := by decide +kernel
theorem d2_22 : decode method_3_code 22 = .ok (.iconst 2, 1) := by decide +kernel
theorem d2_23 : decode method_3_code 23 = .ok (.if_icmp .ne 15, 3) := by decide +kernel
theorem d2_26 : decode method_3_code 26 = .ok (.iconst 2, 1) := by decide +kernel
theorem d2_27 : decode method_3_code 27 = .ok (.newarray .char, 2) := by decide +kernel
theorem d2_29 : decode method_3_code 29 = .ok (.dup, 1) := by decide +kernel
theorem d2_30 : decode method_3_code 30 = .ok (.iconst 0, 1) := by decide +kernel
theorem d2_31 : decode method_3_code 31 = .ok (.iload_n 1, 1) := by decide +kernel
theorem d2_32 : decode method_3_code 32 = .ok (.castore, 1) := by decide +kernel
theorem d2_33 : decode method_3_code 33 = .ok (.dup, 1) := by decide +kernel
theorem d2_34 : decode method_3_code 34 = .ok (.iconst 1, 1) := by decide +kernel
theorem d2_35 : decode method_3_code 35 = .ok (.iload_n 2, 1) := by decide +kernel
theorem d2_36 : decode method_3_code 36 = .ok (.castore, 1) := by decide +kernel
theorem d2_37 : decode method_3_code 37 = .ok (.areturn, 1) := by decide +kernel
theorem d2_38 : decode method_3_code 38 = .ok (.iload_n 0, 1) := by decide +kernel
theorem d2_39 : decode method_3_code 39 = .ok (.iconst 3, 1) := by decide +kernel
theorem d2_40 : decode method_3_code 40 = .ok (.if_icmp .ne 19, 3) := by decide +kernel
theorem d2_43 : decode method_3_code 43 = .ok (.iconst 3, 1) := by decide +kernel
theorem d2_44 : decode method_3_code 44 = .ok (.newarray .char, 2) := by decide +kernel
theorem d2_46 : decode method_3_code 46 = .ok (.dup, 1) := by decide +kernel
theorem d2_47 : decode method_3_code 47 = .ok (.iconst 0, 1) := by decide +kernel
theorem d2_48 : decode method_3_code 48 = .ok (.iload_n 1, 1) := by decide +kernel
theorem d2_49 : decode method_3_code 49 = .ok (.castore, 1) := by decide +kernel
theorem d2_50 : decode method_3_code 50 = .ok (.dup, 1) := by decide +kernel
theorem d2_51 : decode method_3_code 51 = .ok (.iconst 1, 1) := by decide +kernel
theorem d2_52 : decode method_3_code 52 = .ok (.iload_n 2, 1) := by decide +kernel
theorem d2_53 : decode method_3_code 53 = .ok (.castore, 1) := by decide +kernel
theorem d2_54 : decode method_3_code 54 = .ok (.dup, 1) := by decide +kernel
theorem d2_55 : decode method_3_code 55 = .ok (.iconst 2, 1) := by decide +kernel
theorem d2_56 : decode method_3_code 56 = .ok (.iload_n 3, 1) := by decide +kernel
theorem d2_57 : decode method_3_code 57 = .ok (.castore, 1) := by decide +kernel
theorem d2_58 : decode method_3_code 58 = .ok (.areturn, 1) := by decide +kernel
theorem d2_59 : decode method_3_code 59 = .ok (.iconst 4, 1) := by decide +kernel
theorem d2_60 : decode method_3_code 60 = .ok (.newarray .char, 2) := by decide +kernel
theorem d2_62 : decode method_3_code 62 = .ok (.dup, 1) := by decide +kernel
theorem d2_63 : decode method_3_code 63 = .ok (.iconst 0, 1) := by decide +kernel
theorem d2_64 : decode method_3_code 64 = .ok (.iload_n 1, 1) := by decide +kernel
theorem d2_65 : decode method_3_code 65 = .ok (.castore, 1) := by decide +kernel
theorem d2_66 : decode method_3_code 66 = .ok (.dup, 1) := by decide +kernel
theorem d2_67 : decode method_3_code 67 = .ok (.iconst 1, 1) := by decide +kernel
theorem d2_68 : decode method_3_code 68 = .ok (.iload_n 2, 1) := by decide +kernel
theorem d2_69 : decode method_3_code 69 = .ok (.castore, 1) := by decide +kernel
theorem d2_70 : decode method_3_code 70 = .ok (.dup, 1) := by decide +kernel
theorem d2_71 : decode method_3_code 71 = .ok (.iconst 2, 1) := by decide +kernel
theorem d2_72 : decode method_3_code 72 = .ok (.iload_n 3, 1) := by decide +kernel
theorem d2_73 : decode method_3_code 73 = .ok (.castore, 1) := by decide +kernel
theorem d2_74 : decode method_3_code 74 = .ok (.dup, 1) := by decide +kernel
theorem d2_75 : decode method_3_code 75 = .ok (.iconst 3, 1) := by decide +kernel
theorem d2_76 : decode method_3_code 76 = .ok (.iload 4, 2) := by decide +kernel
theorem d2_78 : decode method_3_code 78 = .ok (.castore, 1) := by decide +kernel
theorem d2_79 : decode method_3_code 79 = .ok (.areturn, 1) := by decide +kernel
theorem d3_0 : decode jdk_42_method_3_code 0 = .ok (.aload_n 0, 1) := by decide +kernel
theorem d3_1 : decode jdk_42_method_3_code 1 = .ok (.aload_n 1, 1) := by decide +kernel
theorem d3_2 : decode jdk_42_method_3_code 2 = .ok (.iconst 0, 1) := by decide +kernel
theorem d3_3 : decode jdk_42_method_3_code 3 = .ok (.aload_n 1, 1) := by decide +kernel
theorem d3_4 : decode jdk_42_method_3_code 4 = .ok (.arraylength, 1) := by decide +kernel
theorem d3_5 : decode jdk_42_method_3_code 5 = .ok (.aconst_null, 1) := by decide +kernel
theorem d3_6 : decode jdk_42_method_3_code 6 = .ok (.invokespecial 27, 3) := by decide +kernel
theorem d3_9 : decode jdk_42_method_3_code 9 = .ok (.return_, 1) := by decide +kernel
theorem d4_0 : decode jdk_42_method_149_code 0 = .ok (.aload_n 0, 1) := by decide +kernel
theorem d4_1 : decode jdk_42_method_149_code 1 = .ok (.invokespecial 1, 3) := by decide +kernel
theorem d4_4 : decode jdk_42_method_149_code 4 = .ok (.iload_n 3, 1) := by decide +kernel
theorem d4_5 : decode jdk_42_method_149_code 5 = .ok (.ifCond .ne 22, 3) := by decide +kernel
theorem d4_8 : decode jdk_42_method_149_code 8 = .ok (.aload_n 0, 1) := by decide +kernel
theorem d4_9 : decode jdk_42_method_149_code 9 = .ok (.ldc 7, 2) := by decide +kernel
theorem d4_11 : decode jdk_42_method_149_code 11 = .ok (.getfield 9, 3) := by decide +kernel
theorem d4_14 : decode jdk_42_method_149_code 14 = .ok (.putfield 9, 3) := by decide +kernel
theorem d4_17 : decode jdk_42_method_149_code 17 = .ok (.aload_n 0, 1) := by decide +kernel
theorem d4_18 : decode jdk_42_method_149_code 18 = .ok (.ldc 7, 2) := by decide +kernel
theorem d4_20 : decode jdk_42_method_149_code 20 = .ok (.getfield 15, 3) := by decide +kernel
theorem d4_23 : decode jdk_42_method_149_code 23 = .ok (.putfield 15, 3) := by decide +kernel
theorem d4_26 : decode jdk_42_method_149_code 26 = .ok (.return_, 1) := by decide +kernel
theorem d4_27 : decode jdk_42_method_149_code 27 = .ok (.getstatic 38, 3) := by decide +kernel
theorem d4_30 : decode jdk_42_method_149_code 30 = .ok (.ifCond .eq 28, 3) := by decide +kernel
theorem d4_33 : decode jdk_42_method_149_code 33 = .ok (.aload_n 1, 1) := by decide +kernel
theorem d4_34 : decode jdk_42_method_149_code 34 = .ok (.iload_n 2, 1) := by decide +kernel
theorem d4_35 : decode jdk_42_method_149_code 35 = .ok (.iload_n 3, 1) := by decide +kernel
theorem d4_36 : decode jdk_42_method_149_code 36 = .ok (.invokestatic 177, 3) := by decide +kernel
theorem d4_39 : decode jdk_42_method_149_code 39 = .ok (.astore 5, 2) := by decide +kernel
theorem d4_41 : decode jdk_42_method_149_code 41 = .ok (.aload_n 0, 1) := by decide +kernel
theorem d4_42 : decode jdk_42_method_149_code 42 = .ok (.aload 5, 2) := by decide +kernel
theorem d4_44 : decode jdk_42_method_149_code 44 = .ok (.iload_n 3, 1) := by decide +kernel
theorem d4_45 : decode jdk_42_method_149_code 45 = .ok (.invokestatic 47, 3) := by decide +kernel
theorem d4_48 : decode jdk_42_method_149_code 48 = .ok (.putfield 15, 3) := by decide +kernel
theorem d4_51 : decode jdk_42_method_149_code 51 = .ok (.aload_n 0, 1) := by decide +kernel
theorem d4_52 : decode jdk_42_method_149_code 52 = .ok (.aload 5, 2) := by decide +kernel
theorem d4_54 : decode jdk_42_method_149_code 54 = .ok (.putfield 9, 3) := by decide +kernel
theorem d4_57 : decode jdk_42_method_149_code 57 = .ok (.return_, 1) := by decide +kernel
theorem d6_0 : decode prog_11_method_1_code 0 = .ok (.aload_n 0, 1) := by decide +kernel
theorem d6_1 : decode prog_11_method_1_code 1 = .ok (.invokespecial 1, 3) := by decide +kernel
theorem d6_4 : decode prog_11_method_1_code 4 = .ok (.aload_n 0, 1) := by decide +kernel
theorem d6_5 : decode prog_11_method_1_code 5 = .ok (.aload_n 1, 1) := by decide +kernel
theorem d6_6 : decode prog_11_method_1_code 6 = .ok (.putfield 7, 3) := by decide +kernel
theorem d6_9 : decode prog_11_method_1_code 9 = .ok (.aload_n 0, 1) := by decide +kernel
theorem d6_10 : decode prog_11_method_1_code 10 = .ok (.lload_n 2, 1) := by decide +kernel
theorem d6_11 : decode prog_11_method_1_code 11 = .ok (.putfield 13, 3) := by decide +kernel
theorem d6_14 : decode prog_11_method_1_code 14 = .ok (.return_, 1) := by decide +kernel
theorem d7_0 : decode prog_11_method_3_code 0 = .ok (.aload_n 0, 1) := by decide +kernel
theorem d7_1 : decode prog_11_method_3_code 1 = .ok (.getfield 7, 3) := by decide +kernel
theorem d7_4 : decode prog_11_method_3_code 4 = .ok (.aload_n 0, 1) := by decide +kernel
theorem d7_5 : decode prog_11_method_3_code 5 = .ok (.getfield 7, 3) := by decide +kernel
theorem d7_8 : decode prog_11_method_3_code 8 = .ok (.bipush 47, 2) := by decide +kernel
theorem d7_10 : decode prog_11_method_3_code 10 = .ok (.invokevirtual 17, 3) := by decide +kernel
theorem d7_13 : decode prog_11_method_3_code 13 = .ok (.iconst 1, 1) := by decide +kernel
theorem d7_14 : decode prog_11_method_3_code 14 = .ok (.iadd, 1) := by decide +kernel
theorem d7_15 : decode prog_11_method_3_code 15 = .ok (.invokevirtual 23, 3) := by decide +kernel
theorem d7_18 : decode prog_11_method_3_code 18 = .ok (.areturn, 1) := by decide +kernel
theorem d8_0 : decode jdk_42_method_82_code 0 = .ok (.aload_n 0, 1) := by decide +kernel
theorem d8_1 : decode jdk_42_method_82_code 1 = .ok (.iload_n 1, 1) := by decide +kernel
theorem d8_2 : decode jdk_42_method_82_code 2 = .ok (.aload_n 0, 1) := by decide +kernel
theorem d8_3 : decode jdk_42_method_82_code 3 = .ok (.invokevirtual 505, 3) := by decide +kernel
theorem d8_6 : decode jdk_42_method_82_code 6 = .ok (.iconst 1, 1) := by decide +kernel
theorem d8_7 : decode jdk_42_method_82_code 7 = .ok (.isub, 1) := by decide +kernel
theorem d8_8 : decode jdk_42_method_82_code 8 = .ok (.invokevirtual 641, 3) := by decide +kernel
theorem d8_11 : decode jdk_42_method_82_code 11 = .ok (.ireturn, 1) := by decide +kernel
theorem d9_0 : decode jdk_42_method_54_code 0 = .ok (.aload_n 0, 1) := by decide +kernel
theorem d9_1 : decode jdk_42_method_54_code 1 = .ok (.getfield 9, 3) := by decide +kernel
theorem d9_4 : decode jdk_42_method_54_code 4 = .ok (.arraylength, 1) := by decide +kernel
theorem d9_5 : decode jdk_42_method_54_code 5 = .ok (.aload_n 0, 1) := by decide +kernel
theorem d9_6 : decode jdk_42_method_54_code 6 = .ok (.invokevirtual 335, 3) := by decide +kernel
theorem d9_9 : decode jdk_42_method_54_code 9 = .ok (.ishr, 1) := by decide +kernel
theorem d9_10 : decode jdk_42_method_54_code 10 = .ok (.ireturn, 1) := by decide +kernel
theorem d10_0 : decode jdk_42_method_152_code 0 = .ok (.getstatic 38, 3) := by decide +kernel
theorem d10_3 : decode jdk_42_method_152_code 3 = .ok (.ifCond .eq 10, 3) := by decide +kernel
theorem d10_6 : decode jdk_42_method_152_code 6 = .ok (.aload_n 0, 1) := by decide +kernel
theorem d10_7 : decode jdk_42_method_152_code 7 = .ok (.getfield 15, 3) := by decide +kernel
theorem d10_10 : decode jdk_42_method_152_code 10 = .ok (.goto 4, 3) := by decide +kernel
theorem d10_14 : decode jdk_42_method_152_code 14 = .ok (.ireturn, 1) := by decide +kernel
theorem d11_0 : decode jdk_42_method_83_code 0 = .ok (.aload_n 0, 1) := by decide +kernel
theorem d11_1 : decode jdk_42_method_83_code 1 = .ok (.invokevirtual 492, 3) := by decide +kernel
theorem d11_4 : decode jdk_42_method_83_code 4 = .ok (.ifCond .eq 15, 3) := by decide +kernel
theorem d11_7 : decode jdk_42_method_83_code 7 = .ok (.aload_n 0, 1) := by decide +kernel
theorem d11_8 : decode jdk_42_method_83_code 8 = .ok (.getfield 9, 3) := by decide +kernel
theorem d11_11 : decode jdk_42_method_83_code 11 = .ok (.iload_n 1, 1) := by decide +kernel
theorem d11_12 : decode jdk_42_method_83_code 12 = .ok (.iload_n 2, 1) := by decide +kernel
theorem d11_13 : decode jdk_42_method_83_code 13 = .ok (.invokestatic 644, 3) := by decide +kernel
theorem d11_16 : decode jdk_42_method_83_code 16 = .ok (.goto 12, 3) := by decide +kernel
theorem d11_28 : decode jdk_42_method_83_code 28 = .ok (.ireturn, 1) := by decide +kernel
theorem d12_0 : decode jdk_42_method_154_code 0 = .ok (.getstatic 38, 3) := by decide +kernel
theorem d12_3 : decode jdk_42_method_154_code 3 = .ok (.ifCond .eq 14, 3) := by decide +kernel
theorem d12_6 : decode jdk_42_method_154_code 6 = .ok (.aload_n 0, 1) := by decide +kernel
theorem d12_7 : decode jdk_42_method_154_code 7 = .ok (.getfield 15, 3) := by decide +kernel
theorem d12_10 : decode jdk_42_method_154_code 10 = .ok (.ifCond .ne 7, 3) := by decide +kernel
theorem d12_13 : decode jdk_42_method_154_code 13 = .ok (.iconst 1, 1) := by decide +kernel
theorem d12_14 : decode jdk_42_method_154_code 14 = .ok (.goto 4, 3) := by decide +kernel
theorem d12_18 : decode jdk_42_method_154_code 18 = .ok (.ireturn, 1) := by decide +kernel
theorem d13_0 : decode jdk_43_method_27_code 0 = .ok (.iload_n 1, 1) := by decide +kernel
theorem d13_1 : decode jdk_43_method_27_code 1 = .ok (.invokestatic 88, 3) := by decide +kernel
theorem d13_4 : decode jdk_43_method_27_code 4 = .ok (.ifCond .ne 5, 3) := by decide +kernel
theorem d13_9 : decode jdk_43_method_27_code 9 = .ok (.iload_n 2, 1) := by decide +kernel
theorem d13_10 : decode jdk_43_method_27_code 10 = .ok (.aload_n 0, 1) := by decide +kernel
theorem d13_11 : decode jdk_43_method_27_code 11 = .ok (.arraylength, 1) := by decide +kernel
theorem d13_12 : decode jdk_43_method_27_code 12 = .ok (.iconst 1, 1) := by decide +kernel
theorem d13_13 : decode jdk_43_method_27_code 13 = .ok (.isub, 1) := by decide +kernel
theorem d13_14 : decode jdk_43_method_27_code 14 = .ok (.invokestatic 38, 3) := by decide +kernel
theorem d13_17 : decode jdk_43_method_27_code 17 = .ok (.istore_n 3, 1) := by decide +kernel
theorem d13_18 : decode jdk_43_method_27_code 18 = .ok (.iload_n 3, 1) := by decide +kernel
theorem d13_19 : decode jdk_43_method_27_code 19 = .ok (.ifCond .lt 19, 3) := by decide +kernel
theorem d13_22 : decode jdk_43_method_27_code 22 = .ok (.aload_n 0, 1) := by decide +kernel
theorem d13_23 : decode jdk_43_method_27_code 23 = .ok (.iload_n 3, 1) := by decide +kernel
theorem d13_24 : decode jdk_43_method_27_code 24 = .ok (.baload, 1) := by decide +kernel
theorem d13_25 : decode jdk_43_method_27_code 25 = .ok (.iload_n 1, 1) := by decide +kernel
theorem d13_26 : decode jdk_43_method_27_code 26 = .ok (.i2b, 1) := by decide +kernel
theorem d13_27 : decode jdk_43_method_27_code 27 = .ok (.if_icmp .ne 5, 3) := by decide +kernel
theorem d13_30 : decode jdk_43_method_27_code 30 = .ok (.iload_n 3, 1) := by decide +kernel
theorem d13_31 : decode jdk_43_method_27_code 31 = .ok (.ireturn, 1) := by decide +kernel
theorem d13_32 : decode jdk_43_method_27_code 32 = .ok (.iinc 3 (-1), 3) := by decide +kernel
theorem d13_35 : decode jdk_43_method_27_code 35 = .ok (.goto (-17), 3) := by decide +kernel
theorem d13_38 : decode jdk_43_method_27_code 38 = .ok (.iconst (-1), 1) := by decide +kernel
theorem d13_39 : decode jdk_43_method_27_code 39 = .ok (.ireturn, 1) := by decide +kernel
theorem d14_0 : decode jdk_43_method_4_code 0 = .ok (.iload_n 0, 1) := by decide +kernel
theorem d14_1 : decode jdk_43_method_4_code 1 = .ok (.ifCond .lt 14, 3) := by decide +kernel
theorem d14_4 : decode jdk_43_method_4_code 4 = .ok (.iload_n 0, 1) := by decide +kernel
theorem d14_5 : decode jdk_43_method_4_code 5 = .ok (.sipush 255, 3) := by decide +kernel
theorem d14_8 : decode jdk_43_method_4_code 8 = .ok (.if_icmp .gt 7, 3) := by decide +kernel
theorem d14_11 : decode jdk_43_method_4_code 11 = .ok (.iconst 1, 1) := by decide +kernel
theorem d14_12 : decode jdk_43_method_4_code 12 = .ok (.goto 4, 3) := by decide +kernel
theorem d14_16 : decode jdk_43_method_4_code 16 = .ok (.ireturn, 1) := by decide +kernel
theorem d15_0 : decode jdk_29_method_69_code 0 = .ok (.iload_n 0, 1) := by decide +kernel
theorem d15_1 : decode jdk_29_method_69_code 1 = .ok (.iload_n 1, 1) := by decide +kernel
theorem d15_2 : decode jdk_29_method_69_code 2 = .ok (.if_icmp .gt 7, 3) := by decide +kernel
theorem d15_5 : decode jdk_29_method_69_code 5 = .ok (.iload_n 0, 1) := by decide +kernel
theorem d15_6 : decode jdk_29_method_69_code 6 = .ok (.goto 4, 3) := by decide +kernel
theorem d15_10 : decode jdk_29_method_69_code 10 = .ok (.ireturn, 1) := by decide +kernel
theorem d16_0 : decode jdk_42_method_91_code 0 = .ok (.aload_n 0, 1) := by decide +kernel
theorem d16_1 : decode jdk_42_method_91_code 1 = .ok (.iload_n 1, 1) := by decide +kernel
theorem d16_2 : decode jdk_42_method_91_code 2 = .ok (.aload_n 0, 1) := by decide +kernel
theorem d16_3 : decode jdk_42_method_91_code 3 = .ok (.invokevirtual 505, 3) := by decide +kernel
theorem d16_6 : decode jdk_42_method_91_code 6 = .ok (.invokevirtual 681, 3) := by decide +kernel
theorem d16_9 : decode jdk_42_method_91_code 9 = .ok (.areturn, 1) := by decide +kernel
theorem d17_0 : decode jdk_42_method_92_code 0 = .ok (.aload_n 0, 1) := by decide +kernel
theorem d17_1 : decode jdk_42_method_92_code 1 = .ok (.invokevirtual 505, 3) := by decide +kernel
theorem d17_4 : decode jdk_42_method_92_code 4 = .ok (.istore_n 3, 1) := by decide +kernel
theorem d17_5 : decode jdk_42_method_92_code 5 = .ok (.iload_n 1, 1) := by decide +kernel
theorem d17_6 : decode jdk_42_method_92_code 6 = .ok (.iload_n 2, 1) := by decide +kernel
theorem d17_7 : decode jdk_42_method_92_code 7 = .ok (.iload_n 3, 1) := by decide +kernel
theorem d17_8 : decode jdk_42_method_92_code 8 = .ok (.invokestatic 521, 3) := by decide +kernel
theorem d17_11 : decode jdk_42_method_92_code 11 = .ok (.iload_n 1, 1) := by decide +kernel
theorem d17_12 : decode jdk_42_method_92_code 12 = .ok (.ifCond .ne 10, 3) := by decide +kernel
theorem d17_15 : decode jdk_42_method_92_code 15 = .ok (.iload_n 2, 1) := by decide +kernel
theorem d17_16 : decode jdk_42_method_92_code 16 = .ok (.iload_n 3, 1) := by decide +kernel
theorem d17_17 : decode jdk_42_method_92_code 17 = .ok (.if_icmp .ne 5, 3) := by decide +kernel
theorem d17_20 : decode jdk_42_method_92_code 20 = .ok (.aload_n 0, 1) := by decide +kernel
theorem d17_21 : decode jdk_42_method_92_code 21 = .ok (.areturn, 1) := by decide +kernel
theorem d17_22 : decode jdk_42_method_92_code 22 = .ok (.iload_n 2, 1) := by decide +kernel
theorem d17_23 : decode jdk_42_method_92_code 23 = .ok (.iload_n 1, 1) := by decide +kernel
theorem d17_24 : decode jdk_42_method_92_code 24 = .ok (.isub, 1) := by decide +kernel
theorem d17_25 : decode jdk_42_method_92_code 25 = .ok (.istore 4, 2) := by decide +kernel
theorem d17_27 : decode jdk_42_method_92_code 27 = .ok (.aload_n 0, 1) := by decide +kernel
theorem d17_28 : decode jdk_42_method_92_code 28 = .ok (.invokevirtual 492, 3) := by decide +kernel
theorem d17_31 : decode jdk_42_method_92_code 31 = .ok (.ifCond .eq 16, 3) := by decide +kernel
theorem d17_34 : decode jdk_42_method_92_code 34 = .ok (.aload_n 0, 1) := by decide +kernel
theorem d17_35 : decode jdk_42_method_92_code 35 = .ok (.getfield 9, 3) := by decide +kernel
theorem d17_38 : decode jdk_42_method_92_code 38 = .ok (.iload_n 1, 1) := by decide +kernel
theorem d17_39 : decode jdk_42_method_92_code 39 = .ok (.iload 4, 2) := by decide +kernel
theorem d17_41 : decode jdk_42_method_92_code 41 = .ok (.invokestatic 685, 3) := by decide +kernel
theorem d17_44 : decode jdk_42_method_92_code 44 = .ok (.goto 13, 3) := by decide +kernel
theorem d17_57 : decode jdk_42_method_92_code 57 = .ok (.areturn, 1) := by decide +kernel
theorem d18_0 : decode jdk_42_method_158_code 0 = .ok (.iload_n 0, 1) := by decide +kernel
theorem d18_1 : decode jdk_42_method_158_code 1 = .ok (.iload_n 1, 1) := by decide +kernel
theorem d18_2 : decode jdk_42_method_158_code 2 = .ok (.iload_n 2, 1) := by decide +kernel
theorem d18_3 : decode jdk_42_method_158_code 3 = .ok (.getstatic 1053, 3) := by decide +kernel
theorem d18_6 : decode jdk_42_method_158_code 6 = .ok (.invokestatic 1062, 3) := by decide +kernel
theorem d18_9 : decode jdk_42_method_158_code 9 = .ok (.pop, 1) := by decide +kernel
theorem d18_10 : decode jdk_42_method_158_code 10 = .ok (.return_, 1) := by decide +kernel
theorem d19_0 : decode jdk_41_method_12_code 0 = .ok (.iload_n 0, 1) := by decide +kernel
theorem d19_1 : decode jdk_41_method_12_code 1 = .ok (.ifCond .lt 13, 3) := by decide +kernel
theorem d19_4 : decode jdk_41_method_12_code 4 = .ok (.iload_n 0, 1) := by decide +kernel
theorem d19_5 : decode jdk_41_method_12_code 5 = .ok (.iload_n 1, 1) := by decide +kernel
theorem d19_6 : decode jdk_41_method_12_code 6 = .ok (.if_icmp .gt 8, 3) := by decide +kernel
theorem d19_9 : decode jdk_41_method_12_code 9 = .ok (.iload_n 1, 1) := by decide +kernel
theorem d19_10 : decode jdk_41_method_12_code 10 = .ok (.iload_n 2, 1) := by decide +kernel
theorem d19_11 : decode jdk_41_method_12_code 11 = .ok (.if_icmp .le 11, 3) := by decide +kernel
theorem d19_22 : decode jdk_41_method_12_code 22 = .ok (.iload_n 0, 1) := by decide +kernel
theorem d19_23 : decode jdk_41_method_12_code 23 = .ok (.ireturn, 1) := by decide +kernel
theorem d20_0 : decode jdk_52_method_16_code 0 = .ok (.iload_n 2, 1) := by decide +kernel
theorem d20_1 : decode jdk_52_method_16_code 1 = .ok (.newarray .byte, 2) := by decide +kernel
theorem d20_3 : decode jdk_52_method_16_code 3 = .ok (.astore_n 3, 1) := by decide +kernel
theorem d20_4 : decode jdk_52_method_16_code 4 = .ok (.aload_n 0, 1) := by decide +kernel
theorem d20_5 : decode jdk_52_method_16_code 5 = .ok (.iload_n 1, 1) := by decide +kernel
theorem d20_6 : decode jdk_52_method_16_code 6 = .ok (.aload_n 3, 1) := by decide +kernel
theorem d20_7 : decode jdk_52_method_16_code 7 = .ok (.iconst 0, 1) := by decide +kernel
theorem d20_8 : decode jdk_52_method_16_code 8 = .ok (.iload_n 2, 1) := by decide +kernel
theorem d20_9 : decode jdk_52_method_16_code 9 = .ok (.invokestatic 115, 3) := by decide +kernel
theorem d20_12 : decode jdk_52_method_16_code 12 = .ok (.istore 4, 2) := by decide +kernel
theorem d20_14 : decode jdk_52_method_16_code 14 = .ok (.iload 4, 2) := by decide +kernel
theorem d20_16 : decode jdk_52_method_16_code 16 = .ok (.iload_n 2, 1) := by decide +kernel
theorem d20_17 : decode jdk_52_method_16_code 17 = .ok (.if_icmp .eq 40, 3) := by decide +kernel
theorem d20_57 : decode jdk_52_method_16_code 57 = .ok (.aload_n 3, 1) := by decide +kernel
theorem d20_58 : decode jdk_52_method_16_code 58 = .ok (.areturn, 1) := by decide +kernel
theorem d21_0 : decode jdk_52_method_21_code 0 = .ok (.iconst 0, 1) := by decide +kernel
theorem d21_1 : decode jdk_52_method_21_code 1 = .ok (.istore 5, 2) := by decide +kernel
theorem d21_3 : decode jdk_52_method_21_code 3 = .ok (.iload 5, 2) := by decide +kernel
theorem d21_5 : decode jdk_52_method_21_code 5 = .ok (.iload 4, 2) := by decide +kernel
theorem d21_7 : decode jdk_52_method_21_code 7 = .ok (.if_icmp .ge 37, 3) := by decide +kernel
theorem d21_10 : decode jdk_52_method_21_code 10 = .ok (.aload_n 0, 1) := by decide +kernel
theorem d21_11 : decode jdk_52_method_21_code 11 = .ok (.iload_n 1, 1) := by decide +kernel
theorem d21_12 : decode jdk_52_method_21_code 12 = .ok (.caload, 1) := by decide +kernel
theorem d21_13 : decode jdk_52_method_21_code 13 = .ok (.istore 6, 2) := by decide +kernel
theorem d21_15 : decode jdk_52_method_21_code 15 = .ok (.iload 6, 2) := by decide +kernel
theorem d21_17 : decode jdk_52_method_21_code 17 = .ok (.sipush 255, 3) := by decide +kernel
theorem d21_20 : decode jdk_52_method_21_code 20 = .ok (.if_icmp .le 6, 3) := by decide +kernel
theorem d21_26 : decode jdk_52_method_21_code 26 = .ok (.aload_n 2, 1) := by decide +kernel
theorem d21_27 : decode jdk_52_method_21_code 27 = .ok (.iload_n 3, 1) := by decide +kernel
theorem d21_28 : decode jdk_52_method_21_code 28 = .ok (.iload 6, 2) := by decide +kernel
theorem d21_30 : decode jdk_52_method_21_code 30 = .ok (.i2b, 1) := by decide +kernel
theorem d21_31 : decode jdk_52_method_21_code 31 = .ok (.bastore, 1) := by decide +kernel
theorem d21_32 : decode jdk_52_method_21_code 32 = .ok (.iinc 1 1, 3) := by decide +kernel
theorem d21_35 : decode jdk_52_method_21_code 35 = .ok (.iinc 3 1, 3) := by decide +kernel
theorem d21_38 : decode jdk_52_method_21_code 38 = .ok (.iinc 5 1, 3) := by decide +kernel
theorem d21_41 : decode jdk_52_method_21_code 41 = .ok (.goto (-38), 3) := by decide +kernel
theorem d21_44 : decode jdk_52_method_21_code 44 = .ok (.iload 4, 2) := by decide +kernel
theorem d21_46 : decode jdk_52_method_21_code 46 = .ok (.ireturn, 1) := by decide +kernel
theorem d22_0 : decode jdk_52_method_15_code 0 = .ok (.iload_n 1, 1) := by decide +kernel
theorem d22_1 : decode jdk_52_method_15_code 1 = .ok (.aload_n 0, 1) := by decide +kernel
theorem d22_2 : decode jdk_52_method_15_code 2 = .ok (.arraylength, 1) := by decide +kernel
theorem d22_3 : decode jdk_52_method_15_code 3 = .ok (.isub, 1) := by decide +kernel
theorem d22_4 : decode jdk_52_method_15_code 4 = .ok (.bipush 31, 2) := by decide +kernel
theorem d22_6 : decode jdk_52_method_15_code 6 = .ok (.iushr, 1) := by decide +kernel
theorem d22_7 : decode jdk_52_method_15_code 7 = .ok (.i2b, 1) := by decide +kernel
theorem d22_8 : decode jdk_52_method_15_code 8 = .ok (.ireturn, 1) := by decide +kernel
theorem d23_0 : decode jdk_42_method_56_code 0 = .ok (.aload_n 0, 1) := by decide +kernel
theorem d23_1 : decode jdk_42_method_56_code 1 = .ok (.invokevirtual 492, 3) := by decide +kernel
theorem d23_4 : decode jdk_42_method_56_code 4 = .ok (.ifCond .eq 12, 3) := by decide +kernel
theorem d23_7 : decode jdk_42_method_56_code 7 = .ok (.aload_n 0, 1) := by decide +kernel
theorem d23_8 : decode jdk_42_method_56_code 8 = .ok (.getfield 9, 3) := by decide +kernel
theorem d23_11 : decode jdk_42_method_56_code 11 = .ok (.iload_n 1, 1) := by decide +kernel
theorem d23_12 : decode jdk_42_method_56_code 12 = .ok (.invokestatic 495, 3) := by decide +kernel
theorem d23_15 : decode jdk_42_method_56_code 15 = .ok (.ireturn, 1) := by decide +kernel
theorem d24_0 : decode jdk_43_method_2_code 0 = .ok (.iload_n 1, 1) := by decide +kernel
theorem d24_1 : decode jdk_43_method_2_code 1 = .ok (.aload_n 0, 1) := by decide +kernel
theorem d24_2 : decode jdk_43_method_2_code 2 = .ok (.arraylength, 1) := by decide +kernel
theorem d24_3 : decode jdk_43_method_2_code 3 = .ok (.invokestatic 9, 3) := by decide +kernel
theorem d24_6 : decode jdk_43_method_2_code 6 = .ok (.aload_n 0, 1) := by decide +kernel
theorem d24_7 : decode jdk_43_method_2_code 7 = .ok (.iload_n 1, 1) := by decide +kernel
theorem d24_8 : decode jdk_43_method_2_code 8 = .ok (.baload, 1) := by decide +kernel
theorem d24_9 : decode jdk_43_method_2_code 9 = .ok (.sipush 255, 3) := by decide +kernel
theorem d24_12 : decode jdk_43_method_2_code 12 = .ok (.iand, 1) := by decide +kernel
theorem d24_13 : decode jdk_43_method_2_code 13 = .ok (.i2c, 1) := by decide +kernel
theorem d24_14 : decode jdk_43_method_2_code 14 = .ok (.ireturn, 1) := by decide +kernel
theorem d25_0 : decode jdk_42_method_155_code 0 = .ok (.iload_n 0, 1) := by decide +kernel
theorem d25_1 : decode jdk_42_method_155_code 1 = .ok (.iload_n 1, 1) := by decide +kernel
theorem d25_2 : decode jdk_42_method_155_code 2 = .ok (.getstatic 1053, 3) := by decide +kernel
theorem d25_5 : decode jdk_42_method_155_code 5 = .ok (.invokestatic 1059, 3) := by decide +kernel
theorem d25_8 : decode jdk_42_method_155_code 8 = .ok (.pop, 1) := by decide +kernel
theorem d25_9 : decode jdk_42_method_155_code 9 = .ok (.return_, 1) := by decide +kernel
theorem d26_0 : decode jdk_41_method_11_code 0 = .ok (.iload_n 0, 1) := by decide +kernel
theorem d26_1 : decode jdk_41_method_11_code 1 = .ok (.ifCond .lt 8, 3) := by decide +kernel
theorem d26_4 : decode jdk_41_method_11_code 4 = .ok (.iload_n 0, 1) := by decide +kernel
theorem d26_5 : decode jdk_41_method_11_code 5 = .ok (.iload_n 1, 1) := by decide +kernel
theorem d26_6 : decode jdk_41_method_11_code 6 = .ok (.if_icmp .lt 10, 3) := by decide +kernel
theorem d26_16 : decode jdk_41_method_11_code 16 = .ok (.iload_n 0, 1) := by decide +kernel
theorem d26_17 : decode jdk_41_method_11_code 17 = .ok (.ireturn, 1) := by decide +kernel
theorem d27_0 : decode jdk_43_method_47_code 0 = .ok (.iload_n 2, 1) := by decide +kernel
theorem d27_1 : decode jdk_43_method_47_code 1 = .ok (.ifCond .ne 6, 3) := by decide +kernel
theorem d27_4 : decode jdk_43_method_47_code 4 = .ok (.ldc 151, 2) := by decide +kernel
theorem d27_6 : decode jdk_43_method_47_code 6 = .ok (.areturn, 1) := by decide +kernel
theorem d27_7 : decode jdk_43_method_47_code 7 = .ok (.new 1, 3) := by decide +kernel
theorem d27_10 : decode jdk_43_method_47_code 10 = .ok (.dup, 1) := by decide +kernel
theorem d27_11 : decode jdk_43_method_47_code 11 = .ok (.aload_n 0, 1) := by decide +kernel
theorem d27_12 : decode jdk_43_method_47_code 12 = .ok (.iload_n 1, 1) := by decide +kernel
theorem d27_13 : decode jdk_43_method_47_code 13 = .ok (.iload_n 1, 1) := by decide +kernel
theorem d27_14 : decode jdk_43_method_47_code 14 = .ok (.iload_n 2, 1) := by decide +kernel
theorem d27_15 : decode jdk_43_method_47_code 15 = .ok (.iadd, 1) := by decide +kernel
theorem d27_16 : decode jdk_43_method_47_code 16 = .ok (.invokestatic 232, 3) := by decide +kernel
theorem d27_19 : decode jdk_43_method_47_code 19 = .ok (.iconst 0, 1) := by decide +kernel
theorem d27_20 : decode jdk_43_method_47_code 20 = .ok (.invokespecial 112, 3) := by decide +kernel
theorem d27_23 : decode jdk_43_method_47_code 23 = .ok (.areturn, 1) := by decide +kernel
theorem d28_0 : decode jdk_65_method_132_code 0 = .ok (.iload_n 1, 1) := by decide +kernel
theorem d28_1 : decode jdk_65_method_132_code 1 = .ok (.ifCond .ne 9, 3) := by decide +kernel
theorem d28_10 : decode jdk_65_method_132_code 10 = .ok (.aload_n 0, 1) := by decide +kernel
theorem d28_11 : decode jdk_65_method_132_code 11 = .ok (.iload_n 1, 1) := by decide +kernel
theorem d28_12 : decode jdk_65_method_132_code 12 = .ok (.iload_n 2, 1) := by decide +kernel
theorem d28_13 : decode jdk_65_method_132_code 13 = .ok (.invokestatic 339, 3) := by decide +kernel
theorem d28_16 : decode jdk_65_method_132_code 16 = .ok (.areturn, 1) := by decide +kernel
theorem d29_0 : decode jdk_65_method_133_code 0 = .ok (.iload_n 1, 1) := by decide +kernel
theorem d29_1 : decode jdk_65_method_133_code 1 = .ok (.iload_n 2, 1) := by decide +kernel
theorem d29_2 : decode jdk_65_method_133_code 2 = .ok (.invokestatic 343, 3) := by decide +kernel
theorem d29_5 : decode jdk_65_method_133_code 5 = .ok (.iload_n 2, 1) := by decide +kernel
theorem d29_6 : decode jdk_65_method_133_code 6 = .ok (.iload_n 1, 1) := by decide +kernel
theorem d29_7 : decode jdk_65_method_133_code 7 = .ok (.isub, 1) := by decide +kernel
theorem d29_8 : decode jdk_65_method_133_code 8 = .ok (.istore_n 3, 1) := by decide +kernel
theorem d29_9 : decode jdk_65_method_133_code 9 = .ok (.iload_n 3, 1) := by decide +kernel
theorem d29_10 : decode jdk_65_method_133_code 10 = .ok (.newarray .byte, 2) := by decide +kernel
theorem d29_12 : decode jdk_65_method_133_code 12 = .ok (.astore 4, 2) := by decide +kernel
theorem d29_14 : decode jdk_65_method_133_code 14 = .ok (.aload_n 0, 1) := by decide +kernel
theorem d29_15 : decode jdk_65_method_133_code 15 = .ok (.iload_n 1, 1) := by decide +kernel
theorem d29_16 : decode jdk_65_method_133_code 16 = .ok (.aload 4, 2) := by decide +kernel
theorem d29_18 : decode jdk_65_method_133_code 18 = .ok (.iconst 0, 1) := by decide +kernel
theorem d29_19 : decode jdk_65_method_133_code 19 = .ok (.aload_n 0, 1) := by decide +kernel
theorem d29_20 : decode jdk_65_method_133_code 20 = .ok (.arraylength, 1) := by decide +kernel
theorem d29_21 : decode jdk_65_method_133_code 21 = .ok (.iload_n 1, 1) := by decide +kernel
theorem d29_22 : decode jdk_65_method_133_code 22 = .ok (.isub, 1) := by decide +kernel
theorem d29_23 : decode jdk_65_method_133_code 23 = .ok (.iload_n 3, 1) := by decide +kernel
theorem d29_24 : decode jdk_65_method_133_code 24 = .ok (.invokestatic 304, 3) := by decide +kernel
theorem d29_27 : decode jdk_65_method_133_code 27 = .ok (.invokestatic 150, 3) := by decide +kernel
theorem d29_30 : decode jdk_65_method_133_code 30 = .ok (.aload 4, 2) := by decide +kernel
theorem d29_32 : decode jdk_65_method_133_code 32 = .ok (.areturn, 1) := by decide +kernel
theorem d30_0 : decode jdk_65_method_131_code 0 = .ok (.iload_n 1, 1) := by decide +kernel
theorem d30_1 : decode jdk_65_method_131_code 1 = .ok (.iload_n 0, 1) := by decide +kernel
theorem d30_2 : decode jdk_65_method_131_code 2 = .ok (.if_icmp .ge 35, 3) := by decide +kernel
theorem d30_37 : decode jdk_65_method_131_code 37 = .ok (.return_, 1) := by decide +kernel
theorem d31_0 : decode jdk_42_method_151_code 0 = .ok (.aload_n 0, 1) := by decide +kernel
theorem d31_1 : decode jdk_42_method_151_code 1 = .ok (.invokespecial 1, 3) := by decide +kernel
theorem d31_4 : decode jdk_42_method_151_code 4 = .ok (.aload_n 0, 1) := by decide +kernel
theorem d31_5 : decode jdk_42_method_151_code 5 = .ok (.aload_n 1, 1) := by decide +kernel
theorem d31_6 : decode jdk_42_method_151_code 6 = .ok (.putfield 9, 3) := by decide +kernel
theorem d31_9 : decode jdk_42_method_151_code 9 = .ok (.aload_n 0, 1) := by decide +kernel
theorem d31_10 : decode jdk_42_method_151_code 10 = .ok (.iload_n 2, 1) := by decide +kernel
theorem d31_11 : decode jdk_42_method_151_code 11 = .ok (.putfield 15, 3) := by decide +kernel
theorem d31_14 : decode jdk_42_method_151_code 14 = .ok (.return_, 1) := by decide +kernel
theorem pn_0 : plainName "com/example/dvarapala/dvarapala/queue/QueueNodeNamePinLaw" = true := by first | (simp [plainName, overriddenIn]; done) | decide +kernel
theorem pn_1 : plainName "java/lang/String" = true := by first | (simp [plainName, overriddenIn]; done) | decide +kernel
theorem pd_2 : parseMethodDescriptor "()B" = some ⟨[], some .byte⟩ := by decide +kernel
theorem pn_3 : plainName "jdk/internal/util/Preconditions" = true := by first | (simp [plainName, overriddenIn]; done) | decide +kernel
theorem pd_4 : parseMethodDescriptor "(IILjava/util/function/BiFunction;)I" = some ⟨[.int, .int, (.object "java/util/function/BiFunction")], some .int⟩ := by decide +kernel
theorem pn_5 : plainName "java/lang/StringLatin1" = true := by first | (simp [plainName, overriddenIn]; done) | decide +kernel
theorem pd_6 : parseMethodDescriptor "(II)V" = some ⟨[.int, .int], none⟩ := by decide +kernel
theorem pd_7 : parseMethodDescriptor "()Z" = some ⟨[], some .boolean⟩ := by decide +kernel
theorem pd_8 : parseMethodDescriptor "([BI)C" = some ⟨[(.array .byte), .int], some .char⟩ := by decide +kernel
theorem pn_9 : plainName "java/lang/StringUTF16" = true := by first | (simp [plainName, overriddenIn]; done) | decide +kernel
theorem pd_10 : parseMethodDescriptor "([CI[BII)I" = some ⟨[(.array .char), .int, (.array .byte), .int, .int], some .int⟩ := by decide +kernel
theorem pd_11 : parseMethodDescriptor "([CII)[B" = some ⟨[(.array .char), .int, .int], some (.array .byte)⟩ := by decide +kernel
theorem pd_12 : parseMethodDescriptor "([BI)B" = some ⟨[(.array .byte), .int], some .byte⟩ := by decide +kernel
theorem pd_13 : parseMethodDescriptor "([CIILjava/lang/Void;)V" = some ⟨[(.array .char), .int, .int, (.object "java/lang/Void")], none⟩ := by decide +kernel
theorem pd_14 : parseMethodDescriptor "(IIILjava/util/function/BiFunction;)I" = some ⟨[.int, .int, .int, (.object "java/util/function/BiFunction")], some .int⟩ := by decide +kernel
theorem pn_15 : plainName "java/util/Arrays" = true := by first | (simp [plainName, overriddenIn]; done) | decide +kernel
theorem pn_16 : plainName "com/example/dvarapala/dvarapala/queue/QueueNode" = true := by first | (simp [plainName, overriddenIn]; done) | decide +kernel
theorem pd_17 : parseMethodDescriptor "(II)I" = some ⟨[.int, .int], some .int⟩ := by decide +kernel
theorem pd_18 : parseMethodDescriptor "(I)Z" = some ⟨[.int], some .boolean⟩ := by decide +kernel
theorem pd_19 : parseMethodDescriptor "([BII)I" = some ⟨[(.array .byte), .int, .int], some .int⟩ := by decide +kernel
theorem pd_20 : parseMethodDescriptor "()I" = some ⟨[], some .int⟩ := by decide +kernel
theorem pd_21 : parseMethodDescriptor "([BII)[B" = some ⟨[(.array .byte), .int, .int], some (.array .byte)⟩ := by decide +kernel
theorem pd_22 : parseMethodDescriptor "([BB)V" = some ⟨[(.array .byte), .byte], none⟩ := by decide +kernel
theorem pd_23 : parseMethodDescriptor "(III)V" = some ⟨[.int, .int, .int], none⟩ := by decide +kernel
theorem pd_24 : parseMethodDescriptor "(II)Ljava/lang/String;" = some ⟨[.int, .int], some (.object "java/lang/String")⟩ := by decide +kernel
theorem pd_25 : parseMethodDescriptor "([BII)Ljava/lang/String;" = some ⟨[(.array .byte), .int, .int], some (.object "java/lang/String")⟩ := by decide +kernel
theorem pd_26 : parseMethodDescriptor "(I)I" = some ⟨[.int], some .int⟩ := by decide +kernel
theorem pd_27 : parseMethodDescriptor "(I)Ljava/lang/String;" = some ⟨[.int], some (.object "java/lang/String")⟩ := by decide +kernel
theorem pd_28 : parseMethodDescriptor "(I)C" = some ⟨[.int], some .char⟩ := by decide +kernel
theorem pd_29 : parseMethodDescriptor "(ICCCC)[C" = some ⟨[.int, .char, .char, .char, .char], some (.array .char)⟩ := by decide +kernel
theorem pd_30 : parseMethodDescriptor "([C)V" = some ⟨[(.array .char)], none⟩ := by decide +kernel
theorem pd_31 : parseMethodDescriptor "(Ljava/lang/String;J)V" = some ⟨[(.object "java/lang/String"), .long], none⟩ := by decide +kernel
theorem pd_32 : parseMethodDescriptor "()Ljava/lang/String;" = some ⟨[], some (.object "java/lang/String")⟩ := by decide +kernel
theorem own_ncs {args : Array Value} {s : State} {t : Term} {x : Int32} (h : t.eval args s none [] s = some (.int x)) (n : (Cond.eq t (.int 0)).value args s none s [] = some (!true)) : ¬ x = (0 : Int32) := by
  rintro rfl
  rw [eq_i h (Term.int_eval 0) rfl] at n
  cases n
theorem own_c255 {y c : Int32} (e : c = ((y &&& (255 : Int32)).toUInt32.toUInt16.toUInt32.toInt32)) : ¬ (255 : Int32) < nar .char c := by
  have h1 := c_mask y 255 8 (by decide) (by decide)
  have h2 := c_i2c (y &&& (255 : Int32))
  have h3 := c_i2c c
  rw [← e] at h2
  rw [Int32.lt_iff_toInt_lt]
  show ¬ (255 : Int32).toInt < (c.toUInt32.toUInt16.toUInt32.toInt32).toInt
  have z : (255 : Int32).toInt = 255 := rfl
  omega
def own_ch (x : Int32) : Int32 := nar .char ((x &&& (255 : Int32)).toUInt32.toUInt16.toUInt32.toInt32)
theorem own_chn (x : Int32) : nar .char (own_ch x) = own_ch x := by
  have h : ∀ y : Int32, nar .char (nar .char y) = nar .char y := fun y => by
    have a := c_i2c y
    have b := c_i2c (y.toUInt32.toUInt16.toUInt32.toInt32)
    rw [← Int32.toInt_inj]
    show (y.toUInt32.toUInt16.toUInt32.toInt32.toUInt32.toUInt16.toUInt32.toInt32).toInt = (y.toUInt32.toUInt16.toUInt32.toInt32).toInt
    omega
  exact h _
theorem own_len {args : Array Value} {Z : State} {t : Term} {x : Addr} {cl : Cell} {ty : FieldType} {v : Int32} (ht : t.eval args Z none [] Z = some (.ref x)) (ha : Arr Z Z.heap x cl ty) (h : (Term.length t).eval args Z none [] Z = some (.int v)) : cl.slots.size < 2 ^ 31 ∧ cl.slots.size.toInt32 = v := by
  have q := ha.fin (Vm.Alike.refl _)
  simpa [Term.eval, ht, q] using h
abbrev own_EL : List (String × Nat) := [("java/lang/String", 7), ("java/lang/StringLatin1", 151)]
def own_li0 : Int32 := (-1 : Int32)
def own_li1 (x0 : Int32) : Int32 := if x0 = (47 : Int32) then (0 : Int32) else (-1 : Int32)
theorem own_lk1m {x0 : Int32} (h0 : ¬ x0 = (47 : Int32)) : own_li1 x0 + (1 : Int32) = (0 : Int32) := by
  have e : own_li1 x0 = (-1 : Int32) := by simp [own_li1, h0]
  rw [e]; decide
theorem own_lk10 {x0 : Int32} (h0 : x0 = (47 : Int32)) : own_li1 x0 + (1 : Int32) = (1 : Int32) := by
  have e : own_li1 x0 = (0 : Int32) := by simp [own_li1, h0]
  rw [e]; decide
def own_li2 (x0 x1 : Int32) : Int32 := if x1 = (47 : Int32) then (1 : Int32) else if x0 = (47 : Int32) then (0 : Int32) else (-1 : Int32)
theorem own_lk2m {x0 x1 : Int32} (h1 : ¬ x1 = (47 : Int32)) (h0 : ¬ x0 = (47 : Int32)) : own_li2 x0 x1 + (1 : Int32) = (0 : Int32) := by
  have e : own_li2 x0 x1 = (-1 : Int32) := by simp [own_li2, h1, h0]
  rw [e]; decide
theorem own_lk20 {x0 x1 : Int32} (h1 : ¬ x1 = (47 : Int32)) (h0 : x0 = (47 : Int32)) : own_li2 x0 x1 + (1 : Int32) = (1 : Int32) := by
  have e : own_li2 x0 x1 = (0 : Int32) := by simp [own_li2, h1, h0]
  rw [e]; decide
theorem own_lk21 {x0 x1 : Int32} (h1 : x1 = (47 : Int32)) : own_li2 x0 x1 + (1 : Int32) = (2 : Int32) := by
  have e : own_li2 x0 x1 = (1 : Int32) := by simp [own_li2, h1]
  rw [e]; decide
def own_li3 (x0 x1 x2 : Int32) : Int32 := if x2 = (47 : Int32) then (2 : Int32) else if x1 = (47 : Int32) then (1 : Int32) else if x0 = (47 : Int32) then (0 : Int32) else (-1 : Int32)
theorem own_lk3m {x0 x1 x2 : Int32} (h2 : ¬ x2 = (47 : Int32)) (h1 : ¬ x1 = (47 : Int32)) (h0 : ¬ x0 = (47 : Int32)) : own_li3 x0 x1 x2 + (1 : Int32) = (0 : Int32) := by
  have e : own_li3 x0 x1 x2 = (-1 : Int32) := by simp [own_li3, h2, h1, h0]
  rw [e]; decide
theorem own_lk30 {x0 x1 x2 : Int32} (h2 : ¬ x2 = (47 : Int32)) (h1 : ¬ x1 = (47 : Int32)) (h0 : x0 = (47 : Int32)) : own_li3 x0 x1 x2 + (1 : Int32) = (1 : Int32) := by
  have e : own_li3 x0 x1 x2 = (0 : Int32) := by simp [own_li3, h2, h1, h0]
  rw [e]; decide
theorem own_lk31 {x0 x1 x2 : Int32} (h2 : ¬ x2 = (47 : Int32)) (h1 : x1 = (47 : Int32)) : own_li3 x0 x1 x2 + (1 : Int32) = (2 : Int32) := by
  have e : own_li3 x0 x1 x2 = (1 : Int32) := by simp [own_li3, h2, h1]
  rw [e]; decide
theorem own_lk32 {x0 x1 x2 : Int32} (h2 : x2 = (47 : Int32)) : own_li3 x0 x1 x2 + (1 : Int32) = (3 : Int32) := by
  have e : own_li3 x0 x1 x2 = (2 : Int32) := by simp [own_li3, h2]
  rw [e]; decide
def own_li4 (x0 x1 x2 x3 : Int32) : Int32 := if x3 = (47 : Int32) then (3 : Int32) else if x2 = (47 : Int32) then (2 : Int32) else if x1 = (47 : Int32) then (1 : Int32) else if x0 = (47 : Int32) then (0 : Int32) else (-1 : Int32)
theorem own_lk4m {x0 x1 x2 x3 : Int32} (h3 : ¬ x3 = (47 : Int32)) (h2 : ¬ x2 = (47 : Int32)) (h1 : ¬ x1 = (47 : Int32)) (h0 : ¬ x0 = (47 : Int32)) : own_li4 x0 x1 x2 x3 + (1 : Int32) = (0 : Int32) := by
  have e : own_li4 x0 x1 x2 x3 = (-1 : Int32) := by simp [own_li4, h3, h2, h1, h0]
  rw [e]; decide
theorem own_lk40 {x0 x1 x2 x3 : Int32} (h3 : ¬ x3 = (47 : Int32)) (h2 : ¬ x2 = (47 : Int32)) (h1 : ¬ x1 = (47 : Int32)) (h0 : x0 = (47 : Int32)) : own_li4 x0 x1 x2 x3 + (1 : Int32) = (1 : Int32) := by
  have e : own_li4 x0 x1 x2 x3 = (0 : Int32) := by simp [own_li4, h3, h2, h1, h0]
  rw [e]; decide
theorem own_lk41 {x0 x1 x2 x3 : Int32} (h3 : ¬ x3 = (47 : Int32)) (h2 : ¬ x2 = (47 : Int32)) (h1 : x1 = (47 : Int32)) : own_li4 x0 x1 x2 x3 + (1 : Int32) = (2 : Int32) := by
  have e : own_li4 x0 x1 x2 x3 = (1 : Int32) := by simp [own_li4, h3, h2, h1]
  rw [e]; decide
theorem own_lk42 {x0 x1 x2 x3 : Int32} (h3 : ¬ x3 = (47 : Int32)) (h2 : x2 = (47 : Int32)) : own_li4 x0 x1 x2 x3 + (1 : Int32) = (3 : Int32) := by
  have e : own_li4 x0 x1 x2 x3 = (2 : Int32) := by simp [own_li4, h3, h2]
  rw [e]; decide
theorem own_lk43 {x0 x1 x2 x3 : Int32} (h3 : x3 = (47 : Int32)) : own_li4 x0 x1 x2 x3 + (1 : Int32) = (4 : Int32) := by
  have e : own_li4 x0 x1 x2 x3 = (3 : Int32) := by simp [own_li4, h3]
  rw [e]; decide
theorem own_ss (z : Int32) : z - z = (0 : Int32) := Int32.sub_self z
theorem own_irr (z : Int32) : ¬ z < z := Int32.lt_irrefl
theorem own_sh (z : Int32) : z >>> ((0 : Int32) &&& 31) = z := by
  have h : ((0 : Int32) &&& 31) = 0 := by decide
  rw [h]; exact Int32.shiftRight_zero
abbrev own_MS (l : Launch) (y : MethodName) (cd : List Cond) (rm : Room) (as' : Array Value) (Z : State) (h0 : Heap) (Q : Option Value → Heap → List Loc → Prop) : Prop := MetFree l y (head1 cd rm) (fun a U => a = as' ∧ Z.Warmed39 U.vm ∧ U.heap = h0 ∧ CHv Z own_EL U.vm h0) (fun _ _ _ _ _ => True) (fun _ U o U' => ∃ v L, o = .returned v ∧ Q v U'.heap L ∧ ReturnedEndW U o U' L rm.cells rm.slots)
theorem own_et : (∀ c ∈ "".toList, c.toNat < 256) ∧ "".toList.map (fun c => Value.int (Jvm.Lit.byteI c.toNat.toUInt16)) = [] := ⟨by simp, by simp⟩
theorem own_ew {a0 : Array Value} {Z : State} (hU : ∀ (i : Nat) (d : Jvm.Cond), tables_1[i]? = some d → d.before a0 Z = true) : EW Z a0 own_EL := EW.cons (hU 21 _ rfl) own_et.1 (EW.cons (hU 128 _ rfl) own_et.1 EW.nil)
theorem own_backS {p : Program} {l : Launch} {e : Env} {R : Room} {s : State} {args : Array Value} {below : List Frame} {Z : State} {a0 : Array Value} {EL : List (String × Nat)} {h : Heap} {vm0 : Vm} {y : MethodName} {bytes : ByteArray} {maxL : Nat} {ret : Option FieldType} {rm : Room} {len W : Nat} {as' : Array Value} {Q : Option Value → Heap → List Loc → Prop}
    (hM : MetFree l y (head1 [Cond.code y bytes maxL ret] rm) (fun a U => a = as' ∧ Z.Warmed39 U.vm ∧ U.heap = h ∧ CHv Z EL U.vm h) (fun _ _ _ _ _ => True) (fun _ U o U' => ∃ v L, o = .returned v ∧ Q v U'.heap L ∧ ReturnedEndW U o U' L rm.cells rm.slots))
    (hZ : Z.Warmed39 vm0) (wc : (Cond.code y bytes maxL ret).before a0 Z = true) (wz : (Cond.initialized y.cls).before a0 Z = true) (hf : rm.frames + 1 ≤ R.frames) (hl : W + (maxL + 11) + rm.locals ≤ R.locals) (hEL : EW Z a0 EL) (H : CHv Z EL vm0 h) :
    BackS l R p e below (s.setVm vm0) args y len W (fun A a => a = as' ∧ A.U.heap = h ∧ A.cells + rm.cells ≤ R.cells ∧ A.slots + rm.slots ≤ R.slots)
      (fun A _ v B => ∃ L, Q v B.U.heap L ∧ B.locs = A.locs ++ L ∧ B.cells = A.cells + rm.cells ∧ B.slots = A.slots + rm.slots) :=
  BackS.of_freeW (bytes := bytes) (maxL := maxL) (ret := ret) (E := fun _ _ o t L k n => k = rm.cells ∧ n = rm.slots ∧ ∃ v, o = .returned v ∧ Q v t.heap L) hM hf hl
    (fun m meth c A a Y hp => have hU : Z.Warmed39 A.U.vm := wtrans (s := s.setVm vm0) hZ Y.warmed
      ⟨by show (Cond.and _ .tt).before a A.U = true; rw [Cond.before_and, mv hU wc]; rfl, mv hU wc, mv hU wz, hp.2.2.1, hp.2.2.2⟩)
    (fun m meth c A a g mk Y hp => ⟨hp.1, wtrans (s := s.setVm vm0) hZ Y.warmed, hp.2.1, (CHv.at Y hZ hEL H).1⟩) (fun _ _ _ _ _ _ _ _ _ => trivial)
    (fun _ _ _ _ ⟨v, L, h1, h2, h3⟩ => ⟨L, _, _, h3, rfl, rfl, v, h1, h2⟩)
    (fun m meth c A a g mk v t L k n Y hp _ _ ⟨e1, e2, v', e3, e4⟩ => by cases e3; subst e1 e2; exact ⟨L, e4, rfl, rfl, rfl⟩)
theorem own_chr (y : Int32) : 0 ≤ (nar .char ((y &&& (255 : Int32)).toUInt32.toUInt16.toUInt32.toInt32)).toInt ∧ (nar .char ((y &&& (255 : Int32)).toUInt32.toUInt16.toUInt32.toInt32)).toInt ≤ 255 := by
  have h1 := c_mask y 255 8 (by decide) (by decide)
  have h2 := c_i2c (y &&& (255 : Int32))
  have h3 := c_i2c ((y &&& (255 : Int32)).toUInt32.toUInt16.toUInt32.toInt32)
  show 0 ≤ ((y &&& (255 : Int32)).toUInt32.toUInt16.toUInt32.toInt32.toUInt32.toUInt16.toUInt32.toInt32).toInt ∧ ((y &&& (255 : Int32)).toUInt32.toUInt16.toUInt32.toInt32.toUInt32.toUInt16.toUInt32.toInt32).toInt ≤ 255
  omega
theorem own_nc {r : Int32} (h : 0 ≤ r.toInt ∧ r.toInt ≤ 255) : nar .char r = r := by
  have h3 := c_i2c r
  rw [← Int32.toInt_inj]
  show (r.toUInt32.toUInt16.toUInt32.toInt32).toInt = r.toInt
  omega
theorem own_h255 {r : Int32} (h : 0 ≤ r.toInt ∧ r.toInt ≤ 255) : ¬ (255 : Int32) < nar .char r := by
  rw [own_nc h, Int32.lt_iff_toInt_lt]
  have z : (255 : Int32).toInt = 255 := rfl
  omega
theorem own_nb {r : Int32} (h : 0 ≤ r.toInt ∧ r.toInt ≤ 255) : (nar .byte ((nar .char r).toInt8.toInt32)).toInt = if r.toInt < 128 then r.toInt else r.toInt - 256 := by
  rw [own_nc h]
  have a := c_i2b r
  have b := c_i2b r.toInt8.toInt32
  show (r.toInt8.toInt32.toInt8.toInt32).toInt = _
  split <;> omega
theorem own_b47 {r : Int32} (h : r = (47 : Int32)) : nar .byte ((nar .char r).toInt8.toInt32) = (47 : Int32) := by subst h; decide
theorem own_n47 {r : Int32} (h : 0 ≤ r.toInt ∧ r.toInt ≤ 255) (n : ¬ r = (47 : Int32)) : ¬ nar .byte ((nar .char r).toInt8.toInt32) = (47 : Int32) := by
  have a := own_nb h
  rw [← Int32.toInt_inj] at n ⊢
  have z : (47 : Int32).toInt = 47 := rfl
  rw [a, z]
  rw [z] at n
  split <;> omega
theorem own_chb {r : Int32} (h : 0 ≤ r.toInt ∧ r.toInt ≤ 255) : own_ch (nar .byte ((nar .char r).toInt8.toInt32)) = nar .char r := by
  have a := own_nb h
  have h1 := c_mask (nar .byte ((nar .char r).toInt8.toInt32)) 255 8 (by decide) (by decide)
  have h2 := c_i2c (nar .byte ((nar .char r).toInt8.toInt32) &&& (255 : Int32))
  have h3 := c_i2c ((nar .byte ((nar .char r).toInt8.toInt32) &&& (255 : Int32)).toUInt32.toUInt16.toUInt32.toInt32)
  rw [← Int32.toInt_inj]
  show ((nar .byte ((nar .char r).toInt8.toInt32) &&& (255 : Int32)).toUInt32.toUInt16.toUInt32.toInt32.toUInt32.toUInt16.toUInt32.toInt32).toInt = (nar .char r).toInt
  have e : (nar .char r).toInt = r.toInt := by rw [own_nc h]
  rw [e]
  rw [a] at h1
  revert h1
  split <;> intro h1 <;> omega
theorem own_K1 (P : Prop) : P ∨ ¬ P := Classical.em P
theorem own_K2 (P Q : Prop) : P ∨ (¬ P ∧ Q) ∨ (¬ P ∧ ¬ Q) := by by_cases h : P <;> by_cases g : Q <;> simp [h, g]
theorem own_K3 (P Q R : Prop) : P ∨ (¬ P ∧ Q) ∨ (¬ P ∧ ¬ Q ∧ R) ∨ (¬ P ∧ ¬ Q ∧ ¬ R) := by by_cases h : P <;> by_cases g : Q <;> by_cases f : R <;> simp [h, g, f]
theorem own_K4 (P Q R S : Prop) : P ∨ (¬ P ∧ Q) ∨ (¬ P ∧ ¬ Q ∧ R) ∨ (¬ P ∧ ¬ Q ∧ ¬ R ∧ S) ∨ (¬ P ∧ ¬ Q ∧ ¬ R ∧ ¬ S) := by by_cases h : P <;> by_cases g : Q <;> by_cases f : R <;> by_cases k : S <;> simp [h, g, f, k]
theorem own_n5 {p a : Int32} (e : a = ((p &&& (7 : Int32)) % (5 : Int32))) : a = 0 ∨ a = 1 ∨ a = 2 ∨ a = 3 ∨ a = 4 := by
  have h1 := c_mask p 7 3 (by decide) (by decide)
  have h3 := (c_irem (p &&& (7 : Int32)) 5 5 rfl).1 (by omega)
  rw [← e] at h3
  simp only [← Int32.toInt_inj]
  have z0 : (0 : Int32).toInt = 0 := rfl
  have z1 : (1 : Int32).toInt = 1 := rfl
  have z2 : (2 : Int32).toInt = 2 := rfl
  have z3 : (3 : Int32).toInt = 3 := rfl
  have z4 : (4 : Int32).toInt = 4 := rfl
  omega
theorem own_gF {p : Program} {l : Launch} {e : Env} {R : Room} {s : State} {m : MethodId} {args : Array Value} {below : List Frame} {meth : Method} {c : Code} {T : State} {locs : List Loc} {cells slots : Nat} {Z : State} {a0 : Array Value} {h : Heap} {g : JFrame} {T0 : State} {f0 : JFrame} (Rk : ∀ t, own_S p e below T g t → own_S p e below T0 f0 t) (X : Stand p l e R s m args below meth c T locs cells slots) (hx : p.tables.exec = Jvm.exec) (hZ : Z.Warmed39 s.vm) {own R0 O n d host : String} {index : Nat} (hown : s.vm.findClass own = some m.cls) (w : (Cond.fieldLink own index R0 n d).before a0 Z = true ∨ (Cond.fieldLinkNest own index R0 n d host).before a0 Z = true) (via : Via Z R0 O n d)
    (eT : T.heap = h) {a : Addr} {v : Value} (F : Fld Z h a O n d v) (hg : g.method = m) {rest : List Value} (hs : g.stack = .ref a :: rest) (hd : decode c.code g.pc = .ok (.getfield index, 3)) : ∃ T', Stand p l e R s m args below meth c T' locs cells slots ∧ T'.heap = h ∧ ∀ t, own_S p e below T' { g with pc := g.pc + 3, stack := v :: rest } t → own_S p e below T0 f0 t := by
  obtain ⟨T', X', e', st⟩ := getF X hx hZ hown w via eT F hg hs hd
  exact ⟨T', X', e', fun t k => Rk t (st t k)⟩
abbrev own_R (p : Program) (e : Env) (below : List Frame) (T : State) (f : JFrame) (T0 : State) (f0 : JFrame) : Prop := ∀ t, own_S p e below T f t → own_S p e below T0 f0 t
abbrev fA0 (b16 : Addr) (b284 : Addr) (b400 : Addr) (p0 : Int32) (p1 : Int32) (p2 : Int32) (p3 : Int32) (p4 : Int32) (p5 : Int64) (r_10 : Int32) (r_13 : Int32) (r_4 : Int32) (r_7 : Int32) : Array Slot := #[iv p0, iv p1, iv p2, iv p3, iv p4, own_l p5, .second, iv 4, iv r_4, iv r_7, iv r_10, iv r_13, rv b16, rv b284, iv (-1), iv 4, rv b400, rv b284]
abbrev fA1 (b16 : Addr) (b172 : Addr) (b249 : Addr) (p0 : Int32) (p1 : Int32) (p2 : Int32) (p3 : Int32) (p4 : Int32) (p5 : Int64) (r_10 : Int32) (r_13 : Int32) (r_4 : Int32) (r_7 : Int32) : Array Slot := #[iv p0, iv p1, iv p2, iv p3, iv p4, own_l p5, .second, iv 3, iv r_4, iv r_7, iv r_10, iv r_13, rv b16, rv b172, iv (-1), iv 3, rv b249, rv b172]
abbrev fA2 (b16 : Addr) (b284 : Addr) (b365 : Addr) (p0 : Int32) (p1 : Int32) (p2 : Int32) (p3 : Int32) (p4 : Int32) (p5 : Int64) (r_10 : Int32) (r_13 : Int32) (r_371 : Addr) (r_4 : Int32) (r_7 : Int32) : Array Slot := #[iv p0, iv p1, iv p2, iv p3, iv p4, own_l p5, .second, iv 4, iv r_4, iv r_7, iv r_10, iv r_13, rv b16, rv b284, iv 0, iv 3, rv b365, rv r_371]
abbrev fA3 (b144 : Addr) (b16 : Addr) (b98 : Addr) (p0 : Int32) (p1 : Int32) (p2 : Int32) (p3 : Int32) (p4 : Int32) (p5 : Int64) (r_10 : Int32) (r_13 : Int32) (r_4 : Int32) (r_7 : Int32) : Array Slot := #[iv p0, iv p1, iv p2, iv p3, iv p4, own_l p5, .second, iv 2, iv r_4, iv r_7, iv r_10, iv r_13, rv b16, rv b98, iv (-1), iv 2, rv b144, rv b98]
abbrev fA4 (b16 : Addr) (b172 : Addr) (b221 : Addr) (p0 : Int32) (p1 : Int32) (p2 : Int32) (p3 : Int32) (p4 : Int32) (p5 : Int64) (r_10 : Int32) (r_13 : Int32) (r_227 : Addr) (r_4 : Int32) (r_7 : Int32) : Array Slot := #[iv p0, iv p1, iv p2, iv p3, iv p4, own_l p5, .second, iv 3, iv r_4, iv r_7, iv r_10, iv r_13, rv b16, rv b172, iv 0, iv 2, rv b221, rv r_227]
abbrev fA5 (b16 : Addr) (b284 : Addr) (b337 : Addr) (p0 : Int32) (p1 : Int32) (p2 : Int32) (p3 : Int32) (p4 : Int32) (p5 : Int64) (r_10 : Int32) (r_13 : Int32) (r_343 : Addr) (r_4 : Int32) (r_7 : Int32) : Array Slot := #[iv p0, iv p1, iv p2, iv p3, iv p4, own_l p5, .second, iv 4, iv r_4, iv r_7, iv r_10, iv r_13, rv b16, rv b284, iv 1, iv 2, rv b337, rv r_343]
abbrev fA6 (b16 : Addr) (b172 : Addr) (b200 : Addr) (p0 : Int32) (p1 : Int32) (p2 : Int32) (p3 : Int32) (p4 : Int32) (p5 : Int64) (r_10 : Int32) (r_13 : Int32) (r_206 : Addr) (r_4 : Int32) (r_7 : Int32) : Array Slot := #[iv p0, iv p1, iv p2, iv p3, iv p4, own_l p5, .second, iv 3, iv r_4, iv r_7, iv r_10, iv r_13, rv b16, rv b172, iv 1, iv 1, rv b200, rv r_206]
abbrev fA7 (b16 : Addr) (b284 : Addr) (b314 : Addr) (p0 : Int32) (p1 : Int32) (p2 : Int32) (p3 : Int32) (p4 : Int32) (p5 : Int64) (r_10 : Int32) (r_13 : Int32) (r_320 : Addr) (r_4 : Int32) (r_7 : Int32) : Array Slot := #[iv p0, iv p1, iv p2, iv p3, iv p4, own_l p5, .second, iv 4, iv r_4, iv r_7, iv r_10, iv r_13, rv b16, rv b284, iv 2, iv 1, rv b314, rv r_320]
abbrev fA8 (b16 : Addr) (b54 : Addr) (b77 : Addr) (p0 : Int32) (p1 : Int32) (p2 : Int32) (p3 : Int32) (p4 : Int32) (p5 : Int64) (r_10 : Int32) (r_13 : Int32) (r_4 : Int32) (r_7 : Int32) : Array Slot := #[iv p0, iv p1, iv p2, iv p3, iv p4, own_l p5, .second, iv 1, iv r_4, iv r_7, iv r_10, iv r_13, rv b16, rv b54, iv (-1), iv 1, rv b77, rv b54]
abbrev fA9 (b123 : Addr) (b16 : Addr) (b98 : Addr) (p0 : Int32) (p1 : Int32) (p2 : Int32) (p3 : Int32) (p4 : Int32) (p5 : Int64) (r_10 : Int32) (r_129 : Addr) (r_13 : Int32) (r_4 : Int32) (r_7 : Int32) : Array Slot := #[iv p0, iv p1, iv p2, iv p3, iv p4, own_l p5, .second, iv 2, iv r_4, iv r_7, iv r_10, iv r_13, rv b16, rv b98, iv 0, iv 1, rv b123, rv r_129]
abbrev fA10 (nn : Int32) (p0 : Int32) (p1 : Int32) (p2 : Int32) (p3 : Int32) (p4 : Int32) (p5 : Int64) (r_10 : Int32) (r_13 : Int32) (r_4 : Int32) (r_7 : Int32) : Array Slot := #[iv p0, iv p1, iv p2, iv p3, iv p4, own_l p5, .second, iv nn, iv r_4, iv r_7, iv r_10, iv r_13, .unset, .unset, .unset, .unset, .unset, .unset]
abbrev fA11 (b16 : Addr) (b284 : Addr) (p0 : Int32) (p1 : Int32) (p2 : Int32) (p3 : Int32) (p4 : Int32) (p5 : Int64) (r_10 : Int32) (r_13 : Int32) (r_4 : Int32) (r_7 : Int32) : Array Slot := #[iv p0, iv p1, iv p2, iv p3, iv p4, own_l p5, .second, iv 4, iv r_4, iv r_7, iv r_10, iv r_13, rv b16, rv b284, iv (-1), .unset, .unset, .unset]
abbrev fA12 (b16 : Addr) (b172 : Addr) (p0 : Int32) (p1 : Int32) (p2 : Int32) (p3 : Int32) (p4 : Int32) (p5 : Int64) (r_10 : Int32) (r_13 : Int32) (r_4 : Int32) (r_7 : Int32) : Array Slot := #[iv p0, iv p1, iv p2, iv p3, iv p4, own_l p5, .second, iv 3, iv r_4, iv r_7, iv r_10, iv r_13, rv b16, rv b172, iv (-1), .unset, .unset, .unset]
abbrev fA13 (b16 : Addr) (b172 : Addr) (b184 : Addr) (p0 : Int32) (p1 : Int32) (p2 : Int32) (p3 : Int32) (p4 : Int32) (p5 : Int64) (r_10 : Int32) (r_13 : Int32) (r_190 : Addr) (r_4 : Int32) (r_7 : Int32) : Array Slot := #[iv p0, iv p1, iv p2, iv p3, iv p4, own_l p5, .second, iv 3, iv r_4, iv r_7, iv r_10, iv r_13, rv b16, rv b172, iv 2, iv 0, rv b184, rv r_190]
abbrev fA14 (b16 : Addr) (b284 : Addr) (b297 : Addr) (p0 : Int32) (p1 : Int32) (p2 : Int32) (p3 : Int32) (p4 : Int32) (p5 : Int64) (r_10 : Int32) (r_13 : Int32) (r_303 : Addr) (r_4 : Int32) (r_7 : Int32) : Array Slot := #[iv p0, iv p1, iv p2, iv p3, iv p4, own_l p5, .second, iv 4, iv r_4, iv r_7, iv r_10, iv r_13, rv b16, rv b284, iv 3, iv 0, rv b297, rv r_303]
abbrev fA15 (b16 : Addr) (b32 : Addr) (b40 : Addr) (p0 : Int32) (p1 : Int32) (p2 : Int32) (p3 : Int32) (p4 : Int32) (p5 : Int64) (r_10 : Int32) (r_13 : Int32) (r_4 : Int32) (r_7 : Int32) : Array Slot := #[iv p0, iv p1, iv p2, iv p3, iv p4, own_l p5, .second, iv 0, iv r_4, iv r_7, iv r_10, iv r_13, rv b16, rv b32, iv (-1), iv 0, rv b40, rv b32]
abbrev fA16 (b109 : Addr) (b16 : Addr) (b98 : Addr) (p0 : Int32) (p1 : Int32) (p2 : Int32) (p3 : Int32) (p4 : Int32) (p5 : Int64) (r_10 : Int32) (r_115 : Addr) (r_13 : Int32) (r_4 : Int32) (r_7 : Int32) : Array Slot := #[iv p0, iv p1, iv p2, iv p3, iv p4, own_l p5, .second, iv 2, iv r_4, iv r_7, iv r_10, iv r_13, rv b16, rv b98, iv 1, iv 0, rv b109, rv r_115]
abbrev fA17 (b16 : Addr) (b54 : Addr) (b63 : Addr) (p0 : Int32) (p1 : Int32) (p2 : Int32) (p3 : Int32) (p4 : Int32) (p5 : Int64) (r_10 : Int32) (r_13 : Int32) (r_4 : Int32) (r_69 : Addr) (r_7 : Int32) : Array Slot := #[iv p0, iv p1, iv p2, iv p3, iv p4, own_l p5, .second, iv 1, iv r_4, iv r_7, iv r_10, iv r_13, rv b16, rv b54, iv 0, iv 0, rv b63, rv r_69]
abbrev fA18 (b16 : Addr) (b98 : Addr) (p0 : Int32) (p1 : Int32) (p2 : Int32) (p3 : Int32) (p4 : Int32) (p5 : Int64) (r_10 : Int32) (r_13 : Int32) (r_4 : Int32) (r_7 : Int32) : Array Slot := #[iv p0, iv p1, iv p2, iv p3, iv p4, own_l p5, .second, iv 2, iv r_4, iv r_7, iv r_10, iv r_13, rv b16, rv b98, iv (-1), .unset, .unset, .unset]
abbrev fA19 (b16 : Addr) (b284 : Addr) (p0 : Int32) (p1 : Int32) (p2 : Int32) (p3 : Int32) (p4 : Int32) (p5 : Int64) (r_10 : Int32) (r_13 : Int32) (r_4 : Int32) (r_7 : Int32) : Array Slot := #[iv p0, iv p1, iv p2, iv p3, iv p4, own_l p5, .second, iv 4, iv r_4, iv r_7, iv r_10, iv r_13, rv b16, rv b284, iv 0, .unset, .unset, .unset]
abbrev fA20 (b16 : Addr) (p0 : Int32) (p1 : Int32) (p2 : Int32) (p3 : Int32) (p4 : Int32) (p5 : Int64) (r_10 : Int32) (r_13 : Int32) (r_4 : Int32) (r_7 : Int32) : Array Slot := #[iv p0, iv p1, iv p2, iv p3, iv p4, own_l p5, .second, iv 0, iv r_4, iv r_7, iv r_10, iv r_13, rv b16, .unset, .unset, .unset, .unset, .unset]
abbrev fA21 (b16 : Addr) (p0 : Int32) (p1 : Int32) (p2 : Int32) (p3 : Int32) (p4 : Int32) (p5 : Int64) (r_10 : Int32) (r_13 : Int32) (r_4 : Int32) (r_7 : Int32) : Array Slot := #[iv p0, iv p1, iv p2, iv p3, iv p4, own_l p5, .second, iv 1, iv r_4, iv r_7, iv r_10, iv r_13, rv b16, .unset, .unset, .unset, .unset, .unset]
abbrev fA22 (b16 : Addr) (p0 : Int32) (p1 : Int32) (p2 : Int32) (p3 : Int32) (p4 : Int32) (p5 : Int64) (r_10 : Int32) (r_13 : Int32) (r_4 : Int32) (r_7 : Int32) : Array Slot := #[iv p0, iv p1, iv p2, iv p3, iv p4, own_l p5, .second, iv 2, iv r_4, iv r_7, iv r_10, iv r_13, rv b16, .unset, .unset, .unset, .unset, .unset]
abbrev fA23 (b16 : Addr) (p0 : Int32) (p1 : Int32) (p2 : Int32) (p3 : Int32) (p4 : Int32) (p5 : Int64) (r_10 : Int32) (r_13 : Int32) (r_4 : Int32) (r_7 : Int32) : Array Slot := #[iv p0, iv p1, iv p2, iv p3, iv p4, own_l p5, .second, iv 3, iv r_4, iv r_7, iv r_10, iv r_13, rv b16, .unset, .unset, .unset, .unset, .unset]
abbrev fA24 (b16 : Addr) (b172 : Addr) (p0 : Int32) (p1 : Int32) (p2 : Int32) (p3 : Int32) (p4 : Int32) (p5 : Int64) (r_10 : Int32) (r_13 : Int32) (r_4 : Int32) (r_7 : Int32) : Array Slot := #[iv p0, iv p1, iv p2, iv p3, iv p4, own_l p5, .second, iv 3, iv r_4, iv r_7, iv r_10, iv r_13, rv b16, rv b172, iv (-1), iv 3, .unset, .unset]
abbrev fA25 (b16 : Addr) (p0 : Int32) (p1 : Int32) (p2 : Int32) (p3 : Int32) (p4 : Int32) (p5 : Int64) (r_10 : Int32) (r_13 : Int32) (r_4 : Int32) (r_7 : Int32) : Array Slot := #[iv p0, iv p1, iv p2, iv p3, iv p4, own_l p5, .second, iv 4, iv r_4, iv r_7, iv r_10, iv r_13, rv b16, .unset, .unset, .unset, .unset, .unset]
abbrev fA26 (b16 : Addr) (b284 : Addr) (p0 : Int32) (p1 : Int32) (p2 : Int32) (p3 : Int32) (p4 : Int32) (p5 : Int64) (r_10 : Int32) (r_13 : Int32) (r_4 : Int32) (r_7 : Int32) : Array Slot := #[iv p0, iv p1, iv p2, iv p3, iv p4, own_l p5, .second, iv 4, iv r_4, iv r_7, iv r_10, iv r_13, rv b16, rv b284, iv (-1), iv 4, .unset, .unset]
abbrev fA27 (b16 : Addr) (b32 : Addr) (p0 : Int32) (p1 : Int32) (p2 : Int32) (p3 : Int32) (p4 : Int32) (p5 : Int64) (r_10 : Int32) (r_13 : Int32) (r_4 : Int32) (r_7 : Int32) : Array Slot := #[iv p0, iv p1, iv p2, iv p3, iv p4, own_l p5, .second, iv 0, iv r_4, iv r_7, iv r_10, iv r_13, rv b16, rv b32, iv (-1), iv 0, .unset, .unset]
abbrev fA28 (b16 : Addr) (b54 : Addr) (p0 : Int32) (p1 : Int32) (p2 : Int32) (p3 : Int32) (p4 : Int32) (p5 : Int64) (r_10 : Int32) (r_13 : Int32) (r_4 : Int32) (r_7 : Int32) : Array Slot := #[iv p0, iv p1, iv p2, iv p3, iv p4, own_l p5, .second, iv 1, iv r_4, iv r_7, iv r_10, iv r_13, rv b16, rv b54, iv (-1), iv 1, .unset, .unset]
abbrev fA29 (b16 : Addr) (b98 : Addr) (p0 : Int32) (p1 : Int32) (p2 : Int32) (p3 : Int32) (p4 : Int32) (p5 : Int64) (r_10 : Int32) (r_13 : Int32) (r_4 : Int32) (r_7 : Int32) : Array Slot := #[iv p0, iv p1, iv p2, iv p3, iv p4, own_l p5, .second, iv 2, iv r_4, iv r_7, iv r_10, iv r_13, rv b16, rv b98, iv (-1), iv 2, .unset, .unset]
abbrev fA30 (b16 : Addr) (b172 : Addr) (p0 : Int32) (p1 : Int32) (p2 : Int32) (p3 : Int32) (p4 : Int32) (p5 : Int64) (r_10 : Int32) (r_13 : Int32) (r_4 : Int32) (r_7 : Int32) : Array Slot := #[iv p0, iv p1, iv p2, iv p3, iv p4, own_l p5, .second, iv 3, iv r_4, iv r_7, iv r_10, iv r_13, rv b16, rv b172, iv 0, .unset, .unset, .unset]
abbrev fA31 (b16 : Addr) (b284 : Addr) (p0 : Int32) (p1 : Int32) (p2 : Int32) (p3 : Int32) (p4 : Int32) (p5 : Int64) (r_10 : Int32) (r_13 : Int32) (r_4 : Int32) (r_7 : Int32) : Array Slot := #[iv p0, iv p1, iv p2, iv p3, iv p4, own_l p5, .second, iv 4, iv r_4, iv r_7, iv r_10, iv r_13, rv b16, rv b284, iv 1, .unset, .unset, .unset]
abbrev fA32 (b16 : Addr) (b172 : Addr) (p0 : Int32) (p1 : Int32) (p2 : Int32) (p3 : Int32) (p4 : Int32) (p5 : Int64) (r_10 : Int32) (r_13 : Int32) (r_4 : Int32) (r_7 : Int32) : Array Slot := #[iv p0, iv p1, iv p2, iv p3, iv p4, own_l p5, .second, iv 3, iv r_4, iv r_7, iv r_10, iv r_13, rv b16, rv b172, iv 2, iv 0, .unset, .unset]
abbrev fA33 (b16 : Addr) (b172 : Addr) (p0 : Int32) (p1 : Int32) (p2 : Int32) (p3 : Int32) (p4 : Int32) (p5 : Int64) (r_10 : Int32) (r_13 : Int32) (r_4 : Int32) (r_7 : Int32) : Array Slot := #[iv p0, iv p1, iv p2, iv p3, iv p4, own_l p5, .second, iv 3, iv r_4, iv r_7, iv r_10, iv r_13, rv b16, rv b172, iv 1, iv 1, .unset, .unset]
abbrev fA34 (b16 : Addr) (b172 : Addr) (p0 : Int32) (p1 : Int32) (p2 : Int32) (p3 : Int32) (p4 : Int32) (p5 : Int64) (r_10 : Int32) (r_13 : Int32) (r_4 : Int32) (r_7 : Int32) : Array Slot := #[iv p0, iv p1, iv p2, iv p3, iv p4, own_l p5, .second, iv 3, iv r_4, iv r_7, iv r_10, iv r_13, rv b16, rv b172, iv 0, iv 2, .unset, .unset]
abbrev fA35 (b16 : Addr) (b284 : Addr) (p0 : Int32) (p1 : Int32) (p2 : Int32) (p3 : Int32) (p4 : Int32) (p5 : Int64) (r_10 : Int32) (r_13 : Int32) (r_4 : Int32) (r_7 : Int32) : Array Slot := #[iv p0, iv p1, iv p2, iv p3, iv p4, own_l p5, .second, iv 4, iv r_4, iv r_7, iv r_10, iv r_13, rv b16, rv b284, iv 3, iv 0, .unset, .unset]
abbrev fA36 (b16 : Addr) (b284 : Addr) (p0 : Int32) (p1 : Int32) (p2 : Int32) (p3 : Int32) (p4 : Int32) (p5 : Int64) (r_10 : Int32) (r_13 : Int32) (r_4 : Int32) (r_7 : Int32) : Array Slot := #[iv p0, iv p1, iv p2, iv p3, iv p4, own_l p5, .second, iv 4, iv r_4, iv r_7, iv r_10, iv r_13, rv b16, rv b284, iv 2, iv 1, .unset, .unset]
abbrev fA37 (b16 : Addr) (b284 : Addr) (p0 : Int32) (p1 : Int32) (p2 : Int32) (p3 : Int32) (p4 : Int32) (p5 : Int64) (r_10 : Int32) (r_13 : Int32) (r_4 : Int32) (r_7 : Int32) : Array Slot := #[iv p0, iv p1, iv p2, iv p3, iv p4, own_l p5, .second, iv 4, iv r_4, iv r_7, iv r_10, iv r_13, rv b16, rv b284, iv 1, iv 2, .unset, .unset]
abbrev fA38 (b16 : Addr) (b284 : Addr) (p0 : Int32) (p1 : Int32) (p2 : Int32) (p3 : Int32) (p4 : Int32) (p5 : Int64) (r_10 : Int32) (r_13 : Int32) (r_4 : Int32) (r_7 : Int32) : Array Slot := #[iv p0, iv p1, iv p2, iv p3, iv p4, own_l p5, .second, iv 4, iv r_4, iv r_7, iv r_10, iv r_13, rv b16, rv b284, iv 0, iv 3, .unset, .unset]
abbrev fA39 (b16 : Addr) (b54 : Addr) (p0 : Int32) (p1 : Int32) (p2 : Int32) (p3 : Int32) (p4 : Int32) (p5 : Int64) (r_10 : Int32) (r_13 : Int32) (r_4 : Int32) (r_7 : Int32) : Array Slot := #[iv p0, iv p1, iv p2, iv p3, iv p4, own_l p5, .second, iv 1, iv r_4, iv r_7, iv r_10, iv r_13, rv b16, rv b54, iv 0, iv 0, .unset, .unset]
abbrev fA40 (b16 : Addr) (b98 : Addr) (p0 : Int32) (p1 : Int32) (p2 : Int32) (p3 : Int32) (p4 : Int32) (p5 : Int64) (r_10 : Int32) (r_13 : Int32) (r_4 : Int32) (r_7 : Int32) : Array Slot := #[iv p0, iv p1, iv p2, iv p3, iv p4, own_l p5, .second, iv 2, iv r_4, iv r_7, iv r_10, iv r_13, rv b16, rv b98, iv 1, iv 0, .unset, .unset]
abbrev fA41 (b16 : Addr) (b98 : Addr) (p0 : Int32) (p1 : Int32) (p2 : Int32) (p3 : Int32) (p4 : Int32) (p5 : Int64) (r_10 : Int32) (r_13 : Int32) (r_4 : Int32) (r_7 : Int32) : Array Slot := #[iv p0, iv p1, iv p2, iv p3, iv p4, own_l p5, .second, iv 2, iv r_4, iv r_7, iv r_10, iv r_13, rv b16, rv b98, iv 0, iv 1, .unset, .unset]
abbrev fA42 (p0 : Int32) (p1 : Int32) (p2 : Int32) (p3 : Int32) (p4 : Int32) (p5 : Int64) : Array Slot := #[iv p0, iv p1, iv p2, iv p3, iv p4, own_l p5, .second, .unset, .unset, .unset, .unset, .unset, .unset, .unset, .unset, .unset, .unset, .unset]
abbrev fA43 (b16 : Addr) (b98 : Addr) (p0 : Int32) (p1 : Int32) (p2 : Int32) (p3 : Int32) (p4 : Int32) (p5 : Int64) (r_10 : Int32) (r_13 : Int32) (r_4 : Int32) (r_7 : Int32) : Array Slot := #[iv p0, iv p1, iv p2, iv p3, iv p4, own_l p5, .second, iv 2, iv r_4, iv r_7, iv r_10, iv r_13, rv b16, rv b98, iv 0, .unset, .unset, .unset]
abbrev fA44 (c0 : Int32) (c1 : Int32) (c2 : Int32) (c3 : Int32) : Array Slot := #[iv 4, iv c0, iv c1, iv c2, iv c3]
abbrev fA45 (c0 : Int32) (c1 : Int32) (c2 : Int32) (c3 : Int32) : Array Slot := #[iv 3, iv c0, iv c1, iv c2, iv c3]
abbrev fA46 (x0 : Addr) (x1 : Int32) (x2 : Int32) : Array Slot := #[rv x0, iv x1, iv x2, .unset, .unset]
abbrev fA47 (c0 : Int32) (c1 : Int32) (c2 : Int32) (c3 : Int32) : Array Slot := #[iv 2, iv c0, iv c1, iv c2, iv c3]
abbrev fA48 (a1 : Addr) (x1 : Addr) (zx : Int64) : Array Slot := #[rv a1, rv x1, own_l zx, .second]
abbrev fA49 (a1 : Addr) (p1 : Int32) (p2 : Int32) (z : Int32) : Array Slot := #[rv a1, iv p1, iv z, iv z, iv p2]
abbrev fA50 (c0 : Int32) (c1 : Int32) (c2 : Int32) (c3 : Int32) : Array Slot := #[iv 1, iv c0, iv c1, iv c2, iv c3]
abbrev fA51 (x0 : Addr) (x1 : Int32) (x2 : Addr) (x3 : Int32) (x4 : Int32) : Array Slot := #[rv x0, iv x1, rv x2, iv x3, iv x4, .unset, .unset]
abbrev fA52 (a1 : Addr) (a3 : Addr) : Array Slot := #[rv a1, iv 0, rv a3, iv 0, iv 4, iv 0, .unset]
abbrev fA53 (a1 : Addr) (a3 : Addr) : Array Slot := #[rv a1, iv 0, rv a3, iv 0, iv 3, iv 0, .unset]
abbrev fA54 (a1 : Addr) (a3 : Addr) : Array Slot := #[rv a1, iv 0, rv a3, iv 0, iv 2, iv 0, .unset]
abbrev fA55 (a1 : Addr) (a3 : Addr) : Array Slot := #[rv a1, iv 0, rv a3, iv 0, iv 1, iv 0, .unset]
abbrev fA56 (a1 : Addr) (p1 : Int32) (z : Int32) : Array Slot := #[rv a1, iv p1, iv z, .unset, .unset]
abbrev fA57 (a1 : Addr) (a3 : Addr) (x0 : Int32) : Array Slot := #[rv a1, iv 1, rv a3, iv 1, iv 4, iv 1, iv x0]
abbrev fA58 (a1 : Addr) (a3 : Addr) (x1 : Int32) : Array Slot := #[rv a1, iv 2, rv a3, iv 2, iv 4, iv 2, iv x1]
abbrev fA59 (a1 : Addr) (a3 : Addr) (x2 : Int32) : Array Slot := #[rv a1, iv 3, rv a3, iv 3, iv 4, iv 3, iv x2]
abbrev fA60 (x0 : Addr) (x1 : Int32) (x2 : Int32) : Array Slot := #[rv x0, iv x1, iv x2, .unset, .unset, .unset]
abbrev fA61 (a1 : Addr) (a3 : Addr) (x0 : Int32) : Array Slot := #[rv a1, iv 1, rv a3, iv 1, iv 3, iv 1, iv x0]
abbrev fA62 (a1 : Addr) (a3 : Addr) (x1 : Int32) : Array Slot := #[rv a1, iv 2, rv a3, iv 2, iv 3, iv 2, iv x1]
abbrev fA63 (a1 : Addr) (a3 : Addr) (x0 : Int32) : Array Slot := #[rv a1, iv 1, rv a3, iv 1, iv 2, iv 1, iv x0]
abbrev fA64 (x0 : Int32) (x1 : Int32) (x2 : Int32) (x3 : Int32) (x4 : Int32) : Array Slot := #[iv x0, iv x1, iv x2, iv x3, iv x4]
abbrev fA65 (a1 : Addr) (z : Int32) : Array Slot := #[rv a1, iv 0, iv z, .unset, .unset]
abbrev fA66 (a1 : Addr) (z : Int32) : Array Slot := #[rv a1, iv z, iv z, .unset, .unset]
abbrev fA67 (a1 : Addr) : Array Slot := #[rv a1, iv 0, iv 4, .unset, .unset, .unset]
abbrev fA68 (a1 : Addr) : Array Slot := #[rv a1, iv 0, iv 3, .unset, .unset, .unset]
abbrev fA69 (a1 : Addr) : Array Slot := #[rv a1, iv 0, iv 2, .unset, .unset, .unset]
abbrev fA70 (a1 : Addr) : Array Slot := #[rv a1, iv 0, iv 1, .unset, .unset, .unset]
abbrev fA71 (c0 : Int32) (c1 : Int32) (c2 : Int32) (c3 : Int32) : Array Slot := #[iv 0, iv c0, iv c1, iv c2, iv c3]
abbrev fA72 (a1 : Addr) (p1 : Int32) (z : Int32) : Array Slot := #[rv a1, iv p1, iv z, iv z, .unset]
abbrev fA73 (a1 : Addr) (z : Int32) : Array Slot := #[rv a1, iv 0, iv z, iv z, .unset]
abbrev fA74 (a1 : Addr) (z : Int32) : Array Slot := #[rv a1, iv z, iv z, iv z, .unset]
abbrev fA75 (b : Addr) : Array Slot := #[rv b, iv 1, iv 4, .unset, .unset]
abbrev fA76 (b : Addr) : Array Slot := #[rv b, iv 2, iv 4, .unset, .unset]
abbrev fA77 (b : Addr) : Array Slot := #[rv b, iv 3, iv 4, .unset, .unset]
abbrev fA78 (b : Addr) : Array Slot := #[rv b, iv 1, iv 3, .unset, .unset]
abbrev fA79 (b : Addr) : Array Slot := #[rv b, iv 2, iv 3, .unset, .unset]
abbrev fA80 (b : Addr) : Array Slot := #[rv b, iv 1, iv 2, .unset, .unset]
abbrev yN0 : MethodName := ⟨"java/lang/String", "length", "()I"⟩
abbrev yN1 : MethodName := ⟨"java/lang/String", "charAt", "(I)C"⟩
abbrev yN2 : MethodName := ⟨"com/example/dvarapala/dvarapala/queue/QueueNode", "name", "()Ljava/lang/String;"⟩
abbrev yN3 : MethodName := ⟨"java/util/Arrays", "copyOfRangeByte", "([BII)[B"⟩
abbrev yN4 : MethodName := ⟨"java/lang/StringLatin1", "lastIndexOf", "([BII)I"⟩
abbrev yN5 : MethodName := ⟨"com/example/dvarapala/dvarapala/queue/QueueNode", "<init>", "(Ljava/lang/String;J)V"⟩
abbrev yN6 : MethodName := ⟨"com/example/dvarapala/dvarapala/queue/QueueNodeNamePinLaw", "mk", "(ICCCC)[C"⟩
abbrev yN7 : MethodName := ⟨"java/lang/StringUTF16", "compress", "([CII)[B"⟩
abbrev yN8 : MethodName := ⟨"java/lang/Math", "min", "(II)I"⟩
abbrev yN9 : MethodName := ⟨"java/lang/StringUTF16", "compress", "([CI[BII)I"⟩
abbrev yN10 : MethodName := ⟨"java/lang/String", "substring", "(II)Ljava/lang/String;"⟩
abbrev yN11 : MethodName := ⟨"java/lang/String", "substring", "(I)Ljava/lang/String;"⟩
abbrev yN12 : MethodName := ⟨"java/lang/String", "isLatin1", "()Z"⟩
abbrev yN13 : MethodName := ⟨"java/lang/String", "<init>", "([C)V"⟩
abbrev yN14 : MethodName := ⟨"java/util/Arrays", "checkLength", "(II)V"⟩
abbrev yN15 : MethodName := ⟨"java/lang/String", "lastIndexOf", "(I)I"⟩
abbrev yN16 : MethodName := ⟨"java/lang/StringLatin1", "canEncode", "(I)Z"⟩
abbrev yN17 : MethodName := ⟨"com/example/dvarapala/dvarapala/queue/QueueNodeNamePinLaw", "ch", "(I)C"⟩
abbrev yN18 : MethodName := ⟨"jdk/internal/util/Preconditions", "checkIndex", "(IILjava/util/function/BiFunction;)I"⟩
abbrev yN19 : MethodName := ⟨"java/lang/String", "<init>", "([CIILjava/lang/Void;)V"⟩
abbrev yN20 : MethodName := ⟨"jdk/internal/util/Preconditions", "checkFromToIndex", "(IIILjava/util/function/BiFunction;)I"⟩
abbrev yN21 : MethodName := ⟨"java/lang/StringLatin1", "newString", "([BII)Ljava/lang/String;"⟩
abbrev yN22 : MethodName := ⟨"java/lang/String", "checkBoundsBeginEnd", "(III)V"⟩
abbrev yN23 : MethodName := ⟨"java/lang/String", "coder", "()B"⟩
abbrev yN24 : MethodName := ⟨"java/lang/String", "lastIndexOf", "(II)I"⟩
abbrev yN25 : MethodName := ⟨"java/lang/String", "checkIndex", "(II)V"⟩
abbrev yN26 : MethodName := ⟨"java/lang/StringLatin1", "charAt", "([BI)C"⟩
abbrev yN27 : MethodName := ⟨"java/lang/StringUTF16", "coderFromArrayLen", "([BI)B"⟩
abbrev yN28 : MethodName := ⟨"java/lang/String", "<init>", "([BB)V"⟩
abbrev yN29 : MethodName := ⟨"java/util/Arrays", "copyOfRange", "([BII)[B"⟩
abbrev sN0 : String := "com/example/dvarapala/dvarapala/queue/QueueNode"
abbrev sN1 : String := "com/example/dvarapala/dvarapala/queue/QueueNodeNamePinLaw"
abbrev sN2 : String := "jdk/internal/util/Preconditions"
abbrev sN3 : String := "Ljava/util/function/BiFunction;"
theorem ef_rmCh (m : MethodId) (x0 : Int32) : entryFrame m #[(.int x0)] 1 = mkF m 0 #[iv x0] [] := by first | (simp [entryFrame, mkF, argsToLocals, Value.category]; done) | rfl
def Q_rmCh (Z : State) (p1 : Int32) (h0 : Heap) (n0 : Nat) (v : Option Value) (h : Heap) (L : List Loc) : Prop := ∃ r : Int32, v = some (.int r) ∧ Fr n0 L ∧ h = h0 ∧ (0 ≤ r.toInt ∧ r.toInt ≤ 255)
set_option maxRecDepth 65536 in
set_option maxHeartbeats 40000000 in
theorem rmCh (l : Launch) (Z : State) (a0 : Array Value) (hw : ∀ d ∈ tables_1, d.before a0 Z = true) (ws : List Jvm.Cond) (p1 : Int32) (h0 : Heap) (n0 : Nat) (Z0 : n0 ≤ h0.size) :
  own_M l yN17 (Jvm.Cond.code yN17 method_2_code 1 (some .char) :: ws) ({ frames := 0, cells := 0, slots := 0, locals := 0 } : Room) #[(.int p1)] Z h0 (Q_rmCh Z p1 h0 n0) := by
 refine MetFree.of_bodySF (plainFor_of_name pn_0) hisR ?_
 intro p e s m args below meth c s₁ Bd hml0 hP hK
 obtain ⟨rfl, hZ, hh⟩ := hP
 have hx := Bd.exec
 have hby := Bd.bytes
 have hml : c.maxLocals = 1 := hml0
 have hown : s.vm.findClass sN1 = some m.cls := findClass_of_methodNamed Bd.named
 have hnm := (name_of_methodNamed Bd.named Bd.method).1
 have X0 : Stand p l e ({ frames := 0, cells := 0, slots := 0, locals := 0 } : Room) s m #[(.int p1)] below meth c s₁ [] 0 0 := Stand.of_body Bd
 have hU : ∀ (i : Nat) (d : Jvm.Cond), tables_1[i]? = some d → d.before a0 Z = true := fun i d h => hw d (List.mem_of_getElem? h)
 have e0 : s₁.heap = h0 := by rw [← hh, Bd.state]; rfl
 have N0 := Fr.nil n0
 obtain ⟨f0, hf0⟩ : ∃ f : JFrame, f = mkF m 0 #[iv p1] [] := ⟨_, rfl⟩
 have pre0 : ∀ t, own_S p e below s₁ f0 t → Steps p.tables e below (s₁.setTop (entryFrame m #[(.int p1)] 1)) t := fun t k => castTop ((ef_rmCh m p1).trans hf0.symm) k
 have R0 : own_R p e below s₁ (mkF m 0 #[iv p1] []) s₁ f0 := by rw [hf0]; exact fun t k => k
 have R1 : own_R p e below s₁ (mkF m 6 #[iv p1] [(.int (((p1.toUInt32 >>> ((8 : Int32) &&& 31).toUInt32).toInt32) &&& (1 : Int32)))]) s₁ f0 := fun t k => R0 t (by
  refine XS.iloadN X0.here hx rfl (hb hby d1_0) rfl ?_
  refine XS.bipush X0.here hx rfl (hb hby d1_1) ?_
  refine XS.iushr X0.here hx rfl (hb hby d1_3) rfl ?_
  refine XS.iconst X0.here hx rfl (hb hby d1_4) ?_
  refine XS.iand X0.here hx rfl (hb hby d1_5) rfl ?_
  exact k)
 by_cases hs1 : (((p1.toUInt32 >>> ((8 : Int32) &&& 31).toUInt32).toInt32) &&& (1 : Int32)) = (0 : Int32)
 ·
  have R2 : own_R p e below s₁ (mkF m 18 #[iv p1] [(.int ((p1 &&& (255 : Int32)).toUInt32.toUInt16.toUInt32.toInt32))]) s₁ f0 := fun t k => R1 t (by
   refine XS.ifYes X0.here hx rfl (pc0 := 6) (pc' := 12) rfl (hb hby d1_6) rfl ((if0 _ _).trans (teq hs1).1) (by decide) (by decide) ?_
   refine XS.iloadN X0.here hx rfl (hb hby d1_12) rfl ?_
   refine XS.sipush X0.here hx rfl (hb hby d1_13) ?_
   refine XS.iand X0.here hx rfl (hb hby d1_16) rfl ?_
   refine XS.i2c X0.here hx rfl (hb hby d1_17) rfl ?_
   exact k)
  obtain ⟨fs, hr, hrun, hended, hW, hsame⟩ := X0.leave (v := some (.int (nar .char ((p1 &&& (255 : Int32)).toUInt32.toUInt16.toUInt32.toInt32)))) (fun h => by rw [Bd.returns] at h; cases h)
  refine ⟨_, _, pre0 _ (R2 _ ?_), hrun, hended, _, _, rfl, ?_, ⟨_, rfl⟩, hW, hsame.mono (by decide) (by decide)⟩
  ·
   show own_S p e below s₁ (mkF m 18 #[iv p1] [(.int ((p1 &&& (255 : Int32)).toUInt32.toUInt16.toUInt32.toInt32))]) _
   exact retN X0 hx (t := .char) Bd.returns (by simp) (hb hby d1_18) hr
  ·
   show Q_rmCh Z p1 h0 n0 _ s₁.heap _
   rw [e0]
   exact ⟨(nar .char ((p1 &&& (255 : Int32)).toUInt32.toUInt16.toUInt32.toInt32)), rfl, N0, rfl, (own_chr p1)⟩
 ·
  have R3 : own_R p e below s₁ (mkF m 11 #[iv p1] [(.int 47)]) s₁ f0 := fun t k => R1 t (by
   refine XS.ifNo X0.here hx rfl (hb hby d1_6) rfl ((if0 _ _).trans (feq hs1).1) ?_
   refine XS.bipush X0.here hx rfl (hb hby d1_9) ?_
   exact k)
  obtain ⟨fs, hr, hrun, hended, hW, hsame⟩ := X0.leave (v := some (.int 47)) (fun h => by rw [Bd.returns] at h; cases h)
  refine ⟨_, _, pre0 _ (R3 _ ?_), hrun, hended, _, _, rfl, ?_, ⟨_, rfl⟩, hW, hsame.mono (by decide) (by decide)⟩
  ·
   show own_S p e below s₁ (mkF m 11 #[iv p1] [(.int 47)]) _
   exact retN X0 hx (t := .char) Bd.returns (by simp) (hb hby d1_11) hr
  ·
   show Q_rmCh Z p1 h0 n0 _ s₁.heap _
   rw [e0]
   exact ⟨(47 : Int32), rfl, N0, rfl, ⟨by decide, by decide⟩⟩
theorem ef_rmMk0 (m : MethodId) (x0 : Int32) (x1 : Int32) (x2 : Int32) (x3 : Int32) (x4 : Int32) : entryFrame m #[(.int x0), (.int x1), (.int x2), (.int x3), (.int x4)] 5 = mkF m 0 (fA64 x0 x1 x2 x3 x4) [] := by first | (simp [entryFrame, mkF, argsToLocals, Value.category]; done) | rfl
def Q_rmMk0 (Z : State) (c0 : Int32) (c1 : Int32) (c2 : Int32) (c3 : Int32) (h0 : Heap) (n0 : Nat) (v : Option Value) (h : Heap) (L : List Loc) : Prop := ∃ b : Addr, ∃ kb : ClassId, v = some (.ref b) ∧ Fr n0 L ∧ Keep h0 h [] ∧ (Arv Z h b kb .char (0 : Int32) [] (.int 0)) ∧ (h0.size ≤ b)
set_option maxRecDepth 65536 in
set_option maxHeartbeats 40000000 in
theorem rmMk0 (l : Launch) (Z : State) (a0 : Array Value) (hw : ∀ d ∈ tables_1, d.before a0 Z = true) (ws : List Jvm.Cond) (c0 : Int32) (c1 : Int32) (c2 : Int32) (c3 : Int32) (h0 : Heap) (n0 : Nat) (Z0 : n0 ≤ h0.size) :
  own_M l yN6 (Jvm.Cond.code yN6 method_3_code 5 (some (.array .char)) :: ws) ({ frames := 0, cells := 1, slots := 0, locals := 0 } : Room) #[(.int 0), (.int c0), (.int c1), (.int c2), (.int c3)] Z h0 (Q_rmMk0 Z c0 c1 c2 c3 h0 n0) := by
 refine MetFree.of_bodySF (plainFor_of_name pn_0) hisR ?_
 intro p e s m args below meth c s₁ Bd hml0 hP hK
 obtain ⟨rfl, hZ, hh⟩ := hP
 have hx := Bd.exec
 have hby := Bd.bytes
 have hml : c.maxLocals = 5 := hml0
 have hown : s.vm.findClass sN1 = some m.cls := findClass_of_methodNamed Bd.named
 have hnm := (name_of_methodNamed Bd.named Bd.method).1
 have X0 : Stand p l e ({ frames := 0, cells := 1, slots := 0, locals := 0 } : Room) s m #[(.int 0), (.int c0), (.int c1), (.int c2), (.int c3)] below meth c s₁ [] 0 0 := Stand.of_body Bd
 have hU : ∀ (i : Nat) (d : Jvm.Cond), tables_1[i]? = some d → d.before a0 Z = true := fun i d h => hw d (List.mem_of_getElem? h)
 have e0 : s₁.heap = h0 := by rw [← hh, Bd.state]; rfl
 have N0 := Fr.nil n0
 obtain ⟨f0, hf0⟩ : ∃ f : JFrame, f = mkF m 0 (fA71 c0 c1 c2 c3) [] := ⟨_, rfl⟩
 have pre0 : ∀ t, own_S p e below s₁ f0 t → Steps p.tables e below (s₁.setTop (entryFrame m #[(.int 0), (.int c0), (.int c1), (.int c2), (.int c3)] 5)) t := fun t k => castTop ((ef_rmMk0 m (0 : Int32) c0 c1 c2 c3).trans hf0.symm) k
 have R0 : own_R p e below s₁ (mkF m 0 (fA71 c0 c1 c2 c3) []) s₁ f0 := by rw [hf0]; exact fun t k => k
 have R1 : own_R p e below s₁ (mkF m 5 (fA71 c0 c1 c2 c3) [(.int 0)]) s₁ f0 := fun t k => R0 t (by
  refine XS.iloadN X0.here hx rfl (hb hby d2_0) rfl ?_
  refine XS.ifNo X0.here hx rfl (hb hby d2_1) rfl ((if0 _ _).trans (teq (by decide : (0 : Int32) = (0 : Int32))).2) ?_
  refine XS.iconst X0.here hx rfl (hb hby d2_4) ?_
  exact k)
 obtain ⟨T2, h2, k2, X2, e2, E2, A2, st2⟩ := newP X0 hx hZ (hU 4 _ rfl) e0 (g := (mkF m 5 (fA71 c0 c1 c2 c3) [(.int 0)])) rfl (hb hby d2_5) rfl (by decide) (cap := 0) (by decide) (by decide) (by decide) (by decide)
 obtain ⟨b2, g2⟩ : ∃ z, z = h0.size := ⟨_, rfl⟩
 rw [← g2] at A2 st2
 have g_b2 : n0 ≤ b2 := Nat.le_trans Z0 (Nat.le_of_eq g2.symm)
 have sz_b2 : h0.size ≤ b2 := Nat.le_trans (Keep.refl h0 []).1 (Nat.le_of_eq g2.symm)
 have z2 : n0 ≤ h2.size := Nat.le_trans Z0 E2.1
 have K2 : Keep h0 h2 [] := (Keep.refl h0 []).ext E2
 have v2 : Arv Z h2 b2 k2 .char (0 : Int32) [] (.int 0) := Arv.new A2 (by decide)
 have R3 := fun t k => R1 t (st2 t k)
 obtain ⟨fs, hr, hrun, hended, hW, hsame⟩ := X2.leave (v := some (.ref b2)) (fun h => by rw [Bd.returns] at h; cases h)
 refine ⟨_, _, pre0 _ (R3 _ ?_), hrun, hended, _, _, rfl, ?_, ⟨_, rfl⟩, hW, hsame.mono (by decide) (by decide)⟩
 ·
  show own_S p e below T2 (mkF m 7 (fA71 c0 c1 c2 c3) [(.ref b2)]) _
  exact retOut X2 hx (t := (.array .char)) Bd.returns rfl (Or.inr (Or.inr (Or.inr (Or.inr ⟨rfl, rfl, rfl⟩)))) (hb hby d2_7) hr
 ·
  show Q_rmMk0 Z c0 c1 c2 c3 h0 n0 _ T2.heap _
  rw [e2]
  exact ⟨b2, k2, rfl, N0, K2, v2, sz_b2⟩
theorem ef_rmMk1 (m : MethodId) (x0 : Int32) (x1 : Int32) (x2 : Int32) (x3 : Int32) (x4 : Int32) : entryFrame m #[(.int x0), (.int x1), (.int x2), (.int x3), (.int x4)] 5 = mkF m 0 (fA64 x0 x1 x2 x3 x4) [] := by first | (simp [entryFrame, mkF, argsToLocals, Value.category]; done) | rfl
def Q_rmMk1 (Z : State) (c0 : Int32) (c1 : Int32) (c2 : Int32) (c3 : Int32) (h0 : Heap) (n0 : Nat) (v : Option Value) (h : Heap) (L : List Loc) : Prop := ∃ b : Addr, ∃ kb : ClassId, v = some (.ref b) ∧ Fr n0 L ∧ Keep h0 h [] ∧ (Arv Z h b kb .char (1 : Int32) [(.int (nar .char c0))] (.int 0)) ∧ (h0.size ≤ b)
set_option maxRecDepth 65536 in
set_option maxHeartbeats 40000000 in
theorem rmMk1 (l : Launch) (Z : State) (a0 : Array Value) (hw : ∀ d ∈ tables_1, d.before a0 Z = true) (ws : List Jvm.Cond) (c0 : Int32) (c1 : Int32) (c2 : Int32) (c3 : Int32) (h0 : Heap) (n0 : Nat) (Z0 : n0 ≤ h0.size) :
  own_M l yN6 (Jvm.Cond.code yN6 method_3_code 5 (some (.array .char)) :: ws) ({ frames := 0, cells := 1, slots := 1, locals := 0 } : Room) #[(.int 1), (.int c0), (.int c1), (.int c2), (.int c3)] Z h0 (Q_rmMk1 Z c0 c1 c2 c3 h0 n0) := by
 refine MetFree.of_bodySF (plainFor_of_name pn_0) hisR ?_
 intro p e s m args below meth c s₁ Bd hml0 hP hK
 obtain ⟨rfl, hZ, hh⟩ := hP
 have hx := Bd.exec
 have hby := Bd.bytes
 have hml : c.maxLocals = 5 := hml0
 have hown : s.vm.findClass sN1 = some m.cls := findClass_of_methodNamed Bd.named
 have hnm := (name_of_methodNamed Bd.named Bd.method).1
 have X0 : Stand p l e ({ frames := 0, cells := 1, slots := 1, locals := 0 } : Room) s m #[(.int 1), (.int c0), (.int c1), (.int c2), (.int c3)] below meth c s₁ [] 0 0 := Stand.of_body Bd
 have hU : ∀ (i : Nat) (d : Jvm.Cond), tables_1[i]? = some d → d.before a0 Z = true := fun i d h => hw d (List.mem_of_getElem? h)
 have e0 : s₁.heap = h0 := by rw [← hh, Bd.state]; rfl
 have N0 := Fr.nil n0
 obtain ⟨f0, hf0⟩ : ∃ f : JFrame, f = mkF m 0 (fA50 c0 c1 c2 c3) [] := ⟨_, rfl⟩
 have pre0 : ∀ t, own_S p e below s₁ f0 t → Steps p.tables e below (s₁.setTop (entryFrame m #[(.int 1), (.int c0), (.int c1), (.int c2), (.int c3)] 5)) t := fun t k => castTop ((ef_rmMk1 m (1 : Int32) c0 c1 c2 c3).trans hf0.symm) k
 have R0 : own_R p e below s₁ (mkF m 0 (fA50 c0 c1 c2 c3) []) s₁ f0 := by rw [hf0]; exact fun t k => k
 have R1 : own_R p e below s₁ (mkF m 14 (fA50 c0 c1 c2 c3) [(.int 1)]) s₁ f0 := fun t k => R0 t (by
  refine XS.iloadN X0.here hx rfl (hb hby d2_0) rfl ?_
  refine XS.ifYes X0.here hx rfl (pc0 := 1) (pc' := 8) rfl (hb hby d2_1) rfl ((if0 _ _).trans (feq (by decide : ¬ ((1 : Int32) = (0 : Int32)))).2) (by decide) (by decide) ?_
  refine XS.iloadN X0.here hx rfl (hb hby d2_8) rfl ?_
  refine XS.iconst X0.here hx rfl (hb hby d2_9) ?_
  refine XS.icmpNo X0.here hx rfl (hb hby d2_10) rfl (teq (by decide : (1 : Int32) = (1 : Int32))).2 ?_
  refine XS.iconst X0.here hx rfl (hb hby d2_13) ?_
  exact k)
 obtain ⟨T2, h2, k2, X2, e2, E2, A2, st2⟩ := newP X0 hx hZ (hU 4 _ rfl) e0 (g := (mkF m 14 (fA50 c0 c1 c2 c3) [(.int 1)])) rfl (hb hby d2_14) rfl (by decide) (cap := 1) (by decide) (by decide) (by decide) (by decide)
 obtain ⟨b2, g2⟩ : ∃ z, z = h0.size := ⟨_, rfl⟩
 rw [← g2] at A2 st2
 have g_b2 : n0 ≤ b2 := Nat.le_trans Z0 (Nat.le_of_eq g2.symm)
 have sz_b2 : h0.size ≤ b2 := Nat.le_trans (Keep.refl h0 []).1 (Nat.le_of_eq g2.symm)
 have z2 : n0 ≤ h2.size := Nat.le_trans Z0 E2.1
 have K2 : Keep h0 h2 [] := (Keep.refl h0 []).ext E2
 have v2 : Arv Z h2 b2 k2 .char (1 : Int32) [(.int 0)] (.int 0) := (Arv.new A2 (by decide)).pad (pad_rep [] (.int 0) 1)
 have R3 := fun t k => R1 t (st2 t k)
 have R4 : own_R p e below T2 (mkF m 19 (fA50 c0 c1 c2 c3) [(.int c0), (.int 0), (.ref b2), (.ref b2)]) s₁ f0 := fun t k => R3 t (by
  refine XS.dup X2.here hx rfl (hb hby d2_16) rfl rfl ?_
  refine XS.iconst X2.here hx rfl (hb hby d2_17) ?_
  refine XS.iloadN X2.here hx rfl (hb hby d2_18) rfl ?_
  exact k)
 obtain ⟨cl5, Ar5, q5, S5, n5_, H5, G5⟩ := id v2
 have hin5 : ¬ ((0 : Int32) < 0 ∨ cl5.slots.size ≤ ((0 : Int32)).toNatClampNeg) := inb_of S5 ⟨by decide, by decide⟩
 obtain ⟨T5, h5, X5, e5, W5, st5⟩ := stC X2 hx hZ e2 Ar5 (j := (0 : Int32)) hin5 (g := (mkF m 19 (fA50 c0 c1 c2 c3) [(.int c0), (.int 0), (.ref b2), (.ref b2)])) rfl rfl (hb hby d2_19)
 have z5 : n0 ≤ h5.size := by rw [W5.size]; exact z2
 have K5 : Keep h0 h5 [] := K2.wr W5 (Or.inr sz_b2)
 have v5 : Arv Z h5 b2 k2 .char (1 : Int32) [(.int (nar .char c0))] (.int 0) := Arv.set Ar5 q5 S5 n5_ H5 G5 (fits_nar_char _) W5 0 rfl (Nat.le_of_ble_eq_true rfl)
 have N5 := Fr.snoc X5 N0 g_b2
 have R6 := fun t k => R4 t (st5 t k)
 obtain ⟨fs, hr, hrun, hended, hW, hsame⟩ := X5.leave (v := some (.ref b2)) (fun h => by rw [Bd.returns] at h; cases h)
 refine ⟨_, _, pre0 _ (R6 _ ?_), hrun, hended, _, _, rfl, ?_, ⟨_, rfl⟩, hW, hsame.mono (by decide) (by decide)⟩
 ·
  show own_S p e below T5 (mkF m 20 (fA50 c0 c1 c2 c3) [(.ref b2)]) _
  exact retOut X5 hx (t := (.array .char)) Bd.returns rfl (Or.inr (Or.inr (Or.inr (Or.inr ⟨rfl, rfl, rfl⟩)))) (hb hby d2_20) hr
 ·
  show Q_rmMk1 Z c0 c1 c2 c3 h0 n0 _ T5.heap _
  rw [e5]
  exact ⟨b2, k2, rfl, N5, K5, v5, sz_b2⟩
theorem ef_rmMk2 (m : MethodId) (x0 : Int32) (x1 : Int32) (x2 : Int32) (x3 : Int32) (x4 : Int32) : entryFrame m #[(.int x0), (.int x1), (.int x2), (.int x3), (.int x4)] 5 = mkF m 0 (fA64 x0 x1 x2 x3 x4) [] := by first | (simp [entryFrame, mkF, argsToLocals, Value.category]; done) | rfl
def Q_rmMk2 (Z : State) (c0 : Int32) (c1 : Int32) (c2 : Int32) (c3 : Int32) (h0 : Heap) (n0 : Nat) (v : Option Value) (h : Heap) (L : List Loc) : Prop := ∃ b : Addr, ∃ kb : ClassId, v = some (.ref b) ∧ Fr n0 L ∧ Keep h0 h [] ∧ (Arv Z h b kb .char (2 : Int32) [(.int (nar .char c0)), (.int (nar .char c1))] (.int 0)) ∧ (h0.size ≤ b)
set_option maxRecDepth 65536 in
set_option maxHeartbeats 40000000 in
theorem rmMk2 (l : Launch) (Z : State) (a0 : Array Value) (hw : ∀ d ∈ tables_1, d.before a0 Z = true) (ws : List Jvm.Cond) (c0 : Int32) (c1 : Int32) (c2 : Int32) (c3 : Int32) (h0 : Heap) (n0 : Nat) (Z0 : n0 ≤ h0.size) :
  own_M l yN6 (Jvm.Cond.code yN6 method_3_code 5 (some (.array .char)) :: ws) ({ frames := 0, cells := 1, slots := 2, locals := 0 } : Room) #[(.int 2), (.int c0), (.int c1), (.int c2), (.int c3)] Z h0 (Q_rmMk2 Z c0 c1 c2 c3 h0 n0) := by
 refine MetFree.of_bodySF (plainFor_of_name pn_0) hisR ?_
 intro p e s m args below meth c s₁ Bd hml0 hP hK
 obtain ⟨rfl, hZ, hh⟩ := hP
 have hx := Bd.exec
 have hby := Bd.bytes
 have hml : c.maxLocals = 5 := hml0
 have hown : s.vm.findClass sN1 = some m.cls := findClass_of_methodNamed Bd.named
 have hnm := (name_of_methodNamed Bd.named Bd.method).1
 have X0 : Stand p l e ({ frames := 0, cells := 1, slots := 2, locals := 0 } : Room) s m #[(.int 2), (.int c0), (.int c1), (.int c2), (.int c3)] below meth c s₁ [] 0 0 := Stand.of_body Bd
 have hU : ∀ (i : Nat) (d : Jvm.Cond), tables_1[i]? = some d → d.before a0 Z = true := fun i d h => hw d (List.mem_of_getElem? h)
 have e0 : s₁.heap = h0 := by rw [← hh, Bd.state]; rfl
 have N0 := Fr.nil n0
 obtain ⟨f0, hf0⟩ : ∃ f : JFrame, f = mkF m 0 (fA47 c0 c1 c2 c3) [] := ⟨_, rfl⟩
 have pre0 : ∀ t, own_S p e below s₁ f0 t → Steps p.tables e below (s₁.setTop (entryFrame m #[(.int 2), (.int c0), (.int c1), (.int c2), (.int c3)] 5)) t := fun t k => castTop ((ef_rmMk2 m (2 : Int32) c0 c1 c2 c3).trans hf0.symm) k
 have R0 : own_R p e below s₁ (mkF m 0 (fA47 c0 c1 c2 c3) []) s₁ f0 := by rw [hf0]; exact fun t k => k
 have R1 : own_R p e below s₁ (mkF m 27 (fA47 c0 c1 c2 c3) [(.int 2)]) s₁ f0 := fun t k => R0 t (by
  refine XS.iloadN X0.here hx rfl (hb hby d2_0) rfl ?_
  refine XS.ifYes X0.here hx rfl (pc0 := 1) (pc' := 8) rfl (hb hby d2_1) rfl ((if0 _ _).trans (feq (by decide : ¬ ((2 : Int32) = (0 : Int32)))).2) (by decide) (by decide) ?_
  refine XS.iloadN X0.here hx rfl (hb hby d2_8) rfl ?_
  refine XS.iconst X0.here hx rfl (hb hby d2_9) ?_
  refine XS.icmpYes X0.here hx rfl (pc0 := 10) (pc' := 21) rfl (hb hby d2_10) rfl (feq (by decide : ¬ ((2 : Int32) = (1 : Int32)))).2 (by decide) (by decide) ?_
  refine XS.iloadN X0.here hx rfl (hb hby d2_21) rfl ?_
  refine XS.iconst X0.here hx rfl (hb hby d2_22) ?_
  refine XS.icmpNo X0.here hx rfl (hb hby d2_23) rfl (teq (by decide : (2 : Int32) = (2 : Int32))).2 ?_
  refine XS.iconst X0.here hx rfl (hb hby d2_26) ?_
  exact k)
 obtain ⟨T2, h2, k2, X2, e2, E2, A2, st2⟩ := newP X0 hx hZ (hU 4 _ rfl) e0 (g := (mkF m 27 (fA47 c0 c1 c2 c3) [(.int 2)])) rfl (hb hby d2_27) rfl (by decide) (cap := 2) (by decide) (by decide) (by decide) (by decide)
 obtain ⟨b2, g2⟩ : ∃ z, z = h0.size := ⟨_, rfl⟩
 rw [← g2] at A2 st2
 have g_b2 : n0 ≤ b2 := Nat.le_trans Z0 (Nat.le_of_eq g2.symm)
 have sz_b2 : h0.size ≤ b2 := Nat.le_trans (Keep.refl h0 []).1 (Nat.le_of_eq g2.symm)
 have z2 : n0 ≤ h2.size := Nat.le_trans Z0 E2.1
 have K2 : Keep h0 h2 [] := (Keep.refl h0 []).ext E2
 have v2 : Arv Z h2 b2 k2 .char (2 : Int32) [(.int 0), (.int 0)] (.int 0) := (Arv.new A2 (by decide)).pad (pad_rep [] (.int 0) 2)
 have R3 := fun t k => R1 t (st2 t k)
 have R4 : own_R p e below T2 (mkF m 32 (fA47 c0 c1 c2 c3) [(.int c0), (.int 0), (.ref b2), (.ref b2)]) s₁ f0 := fun t k => R3 t (by
  refine XS.dup X2.here hx rfl (hb hby d2_29) rfl rfl ?_
  refine XS.iconst X2.here hx rfl (hb hby d2_30) ?_
  refine XS.iloadN X2.here hx rfl (hb hby d2_31) rfl ?_
  exact k)
 obtain ⟨cl5, Ar5, q5, S5, n5_, H5, G5⟩ := id v2
 have hin5 : ¬ ((0 : Int32) < 0 ∨ cl5.slots.size ≤ ((0 : Int32)).toNatClampNeg) := inb_of S5 ⟨by decide, by decide⟩
 obtain ⟨T5, h5, X5, e5, W5, st5⟩ := stC X2 hx hZ e2 Ar5 (j := (0 : Int32)) hin5 (g := (mkF m 32 (fA47 c0 c1 c2 c3) [(.int c0), (.int 0), (.ref b2), (.ref b2)])) rfl rfl (hb hby d2_32)
 have z5 : n0 ≤ h5.size := by rw [W5.size]; exact z2
 have K5 : Keep h0 h5 [] := K2.wr W5 (Or.inr sz_b2)
 have v5 : Arv Z h5 b2 k2 .char (2 : Int32) [(.int (nar .char c0)), (.int 0)] (.int 0) := Arv.set Ar5 q5 S5 n5_ H5 G5 (fits_nar_char _) W5 0 rfl (Nat.le_of_ble_eq_true rfl)
 have N5 := Fr.snoc X5 N0 g_b2
 have R6 := fun t k => R4 t (st5 t k)
 have R7 : own_R p e below T5 (mkF m 36 (fA47 c0 c1 c2 c3) [(.int c1), (.int 1), (.ref b2), (.ref b2)]) s₁ f0 := fun t k => R6 t (by
  refine XS.dup X5.here hx rfl (hb hby d2_33) rfl rfl ?_
  refine XS.iconst X5.here hx rfl (hb hby d2_34) ?_
  refine XS.iloadN X5.here hx rfl (hb hby d2_35) rfl ?_
  exact k)
 obtain ⟨cl8, Ar8, q8, S8, n8_, H8, G8⟩ := id v5
 have hin8 : ¬ ((1 : Int32) < 0 ∨ cl8.slots.size ≤ ((1 : Int32)).toNatClampNeg) := inb_of S8 ⟨by decide, by decide⟩
 obtain ⟨T8, h8, X8, e8, W8, st8⟩ := stC X5 hx hZ e5 Ar8 (j := (1 : Int32)) hin8 (g := (mkF m 36 (fA47 c0 c1 c2 c3) [(.int c1), (.int 1), (.ref b2), (.ref b2)])) rfl rfl (hb hby d2_36)
 have z8 : n0 ≤ h8.size := by rw [W8.size]; exact z5
 have K8 : Keep h0 h8 [] := K5.wr W8 (Or.inr sz_b2)
 have v8 : Arv Z h8 b2 k2 .char (2 : Int32) [(.int (nar .char c0)), (.int (nar .char c1))] (.int 0) := Arv.set Ar8 q8 S8 n8_ H8 G8 (fits_nar_char _) W8 1 rfl (Nat.le_of_ble_eq_true rfl)
 have N8 := Fr.snoc X8 N5 g_b2
 have R9 := fun t k => R7 t (st8 t k)
 obtain ⟨fs, hr, hrun, hended, hW, hsame⟩ := X8.leave (v := some (.ref b2)) (fun h => by rw [Bd.returns] at h; cases h)
 refine ⟨_, _, pre0 _ (R9 _ ?_), hrun, hended, _, _, rfl, ?_, ⟨_, rfl⟩, hW, hsame.mono (by decide) (by decide)⟩
 ·
  show own_S p e below T8 (mkF m 37 (fA47 c0 c1 c2 c3) [(.ref b2)]) _
  exact retOut X8 hx (t := (.array .char)) Bd.returns rfl (Or.inr (Or.inr (Or.inr (Or.inr ⟨rfl, rfl, rfl⟩)))) (hb hby d2_37) hr
 ·
  show Q_rmMk2 Z c0 c1 c2 c3 h0 n0 _ T8.heap _
  rw [e8]
  exact ⟨b2, k2, rfl, N8, K8, v8, sz_b2⟩
theorem ef_rmMk3 (m : MethodId) (x0 : Int32) (x1 : Int32) (x2 : Int32) (x3 : Int32) (x4 : Int32) : entryFrame m #[(.int x0), (.int x1), (.int x2), (.int x3), (.int x4)] 5 = mkF m 0 (fA64 x0 x1 x2 x3 x4) [] := by first | (simp [entryFrame, mkF, argsToLocals, Value.category]; done) | rfl
def Q_rmMk3 (Z : State) (c0 : Int32) (c1 : Int32) (c2 : Int32) (c3 : Int32) (h0 : Heap) (n0 : Nat) (v : Option Value) (h : Heap) (L : List Loc) : Prop := ∃ b : Addr, ∃ kb : ClassId, v = some (.ref b) ∧ Fr n0 L ∧ Keep h0 h [] ∧ (Arv Z h b kb .char (3 : Int32) [(.int (nar .char c0)), (.int (nar .char c1)), (.int (nar .char c2))] (.int 0)) ∧ (h0.size ≤ b)
set_option maxRecDepth 65536 in
set_option maxHeartbeats 40000000 in
theorem rmMk3 (l : Launch) (Z : State) (a0 : Array Value) (hw : ∀ d ∈ tables_1, d.before a0 Z = true) (ws : List Jvm.Cond) (c0 : Int32) (c1 : Int32) (c2 : Int32) (c3 : Int32) (h0 : Heap) (n0 : Nat) (Z0 : n0 ≤ h0.size) :
  own_M l yN6 (Jvm.Cond.code yN6 method_3_code 5 (some (.array .char)) :: ws) ({ frames := 0, cells := 1, slots := 3, locals := 0 } : Room) #[(.int 3), (.int c0), (.int c1), (.int c2), (.int c3)] Z h0 (Q_rmMk3 Z c0 c1 c2 c3 h0 n0) := by
 refine MetFree.of_bodySF (plainFor_of_name pn_0) hisR ?_
 intro p e s m args below meth c s₁ Bd hml0 hP hK
 obtain ⟨rfl, hZ, hh⟩ := hP
 have hx := Bd.exec
 have hby := Bd.bytes
 have hml : c.maxLocals = 5 := hml0
 have hown : s.vm.findClass sN1 = some m.cls := findClass_of_methodNamed Bd.named
 have hnm := (name_of_methodNamed Bd.named Bd.method).1
 have X0 : Stand p l e ({ frames := 0, cells := 1, slots := 3, locals := 0 } : Room) s m #[(.int 3), (.int c0), (.int c1), (.int c2), (.int c3)] below meth c s₁ [] 0 0 := Stand.of_body Bd
 have hU : ∀ (i : Nat) (d : Jvm.Cond), tables_1[i]? = some d → d.before a0 Z = true := fun i d h => hw d (List.mem_of_getElem? h)
 have e0 : s₁.heap = h0 := by rw [← hh, Bd.state]; rfl
 have N0 := Fr.nil n0
 obtain ⟨f0, hf0⟩ : ∃ f : JFrame, f = mkF m 0 (fA45 c0 c1 c2 c3) [] := ⟨_, rfl⟩
 have pre0 : ∀ t, own_S p e below s₁ f0 t → Steps p.tables e below (s₁.setTop (entryFrame m #[(.int 3), (.int c0), (.int c1), (.int c2), (.int c3)] 5)) t := fun t k => castTop ((ef_rmMk3 m (3 : Int32) c0 c1 c2 c3).trans hf0.symm) k
 have R0 : own_R p e below s₁ (mkF m 0 (fA45 c0 c1 c2 c3) []) s₁ f0 := by rw [hf0]; exact fun t k => k
 have R1 : own_R p e below s₁ (mkF m 44 (fA45 c0 c1 c2 c3) [(.int 3)]) s₁ f0 := fun t k => R0 t (by
  refine XS.iloadN X0.here hx rfl (hb hby d2_0) rfl ?_
  refine XS.ifYes X0.here hx rfl (pc0 := 1) (pc' := 8) rfl (hb hby d2_1) rfl ((if0 _ _).trans (feq (by decide : ¬ ((3 : Int32) = (0 : Int32)))).2) (by decide) (by decide) ?_
  refine XS.iloadN X0.here hx rfl (hb hby d2_8) rfl ?_
  refine XS.iconst X0.here hx rfl (hb hby d2_9) ?_
  refine XS.icmpYes X0.here hx rfl (pc0 := 10) (pc' := 21) rfl (hb hby d2_10) rfl (feq (by decide : ¬ ((3 : Int32) = (1 : Int32)))).2 (by decide) (by decide) ?_
  refine XS.iloadN X0.here hx rfl (hb hby d2_21) rfl ?_
  refine XS.iconst X0.here hx rfl (hb hby d2_22) ?_
  refine XS.icmpYes X0.here hx rfl (pc0 := 23) (pc' := 38) rfl (hb hby d2_23) rfl (feq (by decide : ¬ ((3 : Int32) = (2 : Int32)))).2 (by decide) (by decide) ?_
  refine XS.iloadN X0.here hx rfl (hb hby d2_38) rfl ?_
  refine XS.iconst X0.here hx rfl (hb hby d2_39) ?_
  refine XS.icmpNo X0.here hx rfl (hb hby d2_40) rfl (teq (by decide : (3 : Int32) = (3 : Int32))).2 ?_
  refine XS.iconst X0.here hx rfl (hb hby d2_43) ?_
  exact k)
 obtain ⟨T2, h2, k2, X2, e2, E2, A2, st2⟩ := newP X0 hx hZ (hU 4 _ rfl) e0 (g := (mkF m 44 (fA45 c0 c1 c2 c3) [(.int 3)])) rfl (hb hby d2_44) rfl (by decide) (cap := 3) (by decide) (by decide) (by decide) (by decide)
 obtain ⟨b2, g2⟩ : ∃ z, z = h0.size := ⟨_, rfl⟩
 rw [← g2] at A2 st2
 have g_b2 : n0 ≤ b2 := Nat.le_trans Z0 (Nat.le_of_eq g2.symm)
 have sz_b2 : h0.size ≤ b2 := Nat.le_trans (Keep.refl h0 []).1 (Nat.le_of_eq g2.symm)
 have z2 : n0 ≤ h2.size := Nat.le_trans Z0 E2.1
 have K2 : Keep h0 h2 [] := (Keep.refl h0 []).ext E2
 have v2 : Arv Z h2 b2 k2 .char (3 : Int32) [(.int 0), (.int 0), (.int 0)] (.int 0) := (Arv.new A2 (by decide)).pad (pad_rep [] (.int 0) 3)
 have R3 := fun t k => R1 t (st2 t k)
 have R4 : own_R p e below T2 (mkF m 49 (fA45 c0 c1 c2 c3) [(.int c0), (.int 0), (.ref b2), (.ref b2)]) s₁ f0 := fun t k => R3 t (by
  refine XS.dup X2.here hx rfl (hb hby d2_46) rfl rfl ?_
  refine XS.iconst X2.here hx rfl (hb hby d2_47) ?_
  refine XS.iloadN X2.here hx rfl (hb hby d2_48) rfl ?_
  exact k)
 obtain ⟨cl5, Ar5, q5, S5, n5_, H5, G5⟩ := id v2
 have hin5 : ¬ ((0 : Int32) < 0 ∨ cl5.slots.size ≤ ((0 : Int32)).toNatClampNeg) := inb_of S5 ⟨by decide, by decide⟩
 obtain ⟨T5, h5, X5, e5, W5, st5⟩ := stC X2 hx hZ e2 Ar5 (j := (0 : Int32)) hin5 (g := (mkF m 49 (fA45 c0 c1 c2 c3) [(.int c0), (.int 0), (.ref b2), (.ref b2)])) rfl rfl (hb hby d2_49)
 have z5 : n0 ≤ h5.size := by rw [W5.size]; exact z2
 have K5 : Keep h0 h5 [] := K2.wr W5 (Or.inr sz_b2)
 have v5 : Arv Z h5 b2 k2 .char (3 : Int32) [(.int (nar .char c0)), (.int 0), (.int 0)] (.int 0) := Arv.set Ar5 q5 S5 n5_ H5 G5 (fits_nar_char _) W5 0 rfl (Nat.le_of_ble_eq_true rfl)
 have N5 := Fr.snoc X5 N0 g_b2
 have R6 := fun t k => R4 t (st5 t k)
 have R7 : own_R p e below T5 (mkF m 53 (fA45 c0 c1 c2 c3) [(.int c1), (.int 1), (.ref b2), (.ref b2)]) s₁ f0 := fun t k => R6 t (by
  refine XS.dup X5.here hx rfl (hb hby d2_50) rfl rfl ?_
  refine XS.iconst X5.here hx rfl (hb hby d2_51) ?_
  refine XS.iloadN X5.here hx rfl (hb hby d2_52) rfl ?_
  exact k)
 obtain ⟨cl8, Ar8, q8, S8, n8_, H8, G8⟩ := id v5
 have hin8 : ¬ ((1 : Int32) < 0 ∨ cl8.slots.size ≤ ((1 : Int32)).toNatClampNeg) := inb_of S8 ⟨by decide, by decide⟩
 obtain ⟨T8, h8, X8, e8, W8, st8⟩ := stC X5 hx hZ e5 Ar8 (j := (1 : Int32)) hin8 (g := (mkF m 53 (fA45 c0 c1 c2 c3) [(.int c1), (.int 1), (.ref b2), (.ref b2)])) rfl rfl (hb hby d2_53)
 have z8 : n0 ≤ h8.size := by rw [W8.size]; exact z5
 have K8 : Keep h0 h8 [] := K5.wr W8 (Or.inr sz_b2)
 have v8 : Arv Z h8 b2 k2 .char (3 : Int32) [(.int (nar .char c0)), (.int (nar .char c1)), (.int 0)] (.int 0) := Arv.set Ar8 q8 S8 n8_ H8 G8 (fits_nar_char _) W8 1 rfl (Nat.le_of_ble_eq_true rfl)
 have N8 := Fr.snoc X8 N5 g_b2
 have R9 := fun t k => R7 t (st8 t k)
 have R10 : own_R p e below T8 (mkF m 57 (fA45 c0 c1 c2 c3) [(.int c2), (.int 2), (.ref b2), (.ref b2)]) s₁ f0 := fun t k => R9 t (by
  refine XS.dup X8.here hx rfl (hb hby d2_54) rfl rfl ?_
  refine XS.iconst X8.here hx rfl (hb hby d2_55) ?_
  refine XS.iloadN X8.here hx rfl (hb hby d2_56) rfl ?_
  exact k)
 obtain ⟨cl11, Ar11, q11, S11, n11_, H11, G11⟩ := id v8
 have hin11 : ¬ ((2 : Int32) < 0 ∨ cl11.slots.size ≤ ((2 : Int32)).toNatClampNeg) := inb_of S11 ⟨by decide, by decide⟩
 obtain ⟨T11, h11, X11, e11, W11, st11⟩ := stC X8 hx hZ e8 Ar11 (j := (2 : Int32)) hin11 (g := (mkF m 57 (fA45 c0 c1 c2 c3) [(.int c2), (.int 2), (.ref b2), (.ref b2)])) rfl rfl (hb hby d2_57)
 have z11 : n0 ≤ h11.size := by rw [W11.size]; exact z8
 have K11 : Keep h0 h11 [] := K8.wr W11 (Or.inr sz_b2)
 have v11 : Arv Z h11 b2 k2 .char (3 : Int32) [(.int (nar .char c0)), (.int (nar .char c1)), (.int (nar .char c2))] (.int 0) := Arv.set Ar11 q11 S11 n11_ H11 G11 (fits_nar_char _) W11 2 rfl (Nat.le_of_ble_eq_true rfl)
 have N11 := Fr.snoc X11 N8 g_b2
 have R12 := fun t k => R10 t (st11 t k)
 obtain ⟨fs, hr, hrun, hended, hW, hsame⟩ := X11.leave (v := some (.ref b2)) (fun h => by rw [Bd.returns] at h; cases h)
 refine ⟨_, _, pre0 _ (R12 _ ?_), hrun, hended, _, _, rfl, ?_, ⟨_, rfl⟩, hW, hsame.mono (by decide) (by decide)⟩
 ·
  show own_S p e below T11 (mkF m 58 (fA45 c0 c1 c2 c3) [(.ref b2)]) _
  exact retOut X11 hx (t := (.array .char)) Bd.returns rfl (Or.inr (Or.inr (Or.inr (Or.inr ⟨rfl, rfl, rfl⟩)))) (hb hby d2_58) hr
 ·
  show Q_rmMk3 Z c0 c1 c2 c3 h0 n0 _ T11.heap _
  rw [e11]
  exact ⟨b2, k2, rfl, N11, K11, v11, sz_b2⟩
theorem ef_rmMk4 (m : MethodId) (x0 : Int32) (x1 : Int32) (x2 : Int32) (x3 : Int32) (x4 : Int32) : entryFrame m #[(.int x0), (.int x1), (.int x2), (.int x3), (.int x4)] 5 = mkF m 0 (fA64 x0 x1 x2 x3 x4) [] := by first | (simp [entryFrame, mkF, argsToLocals, Value.category]; done) | rfl
def Q_rmMk4 (Z : State) (c0 : Int32) (c1 : Int32) (c2 : Int32) (c3 : Int32) (h0 : Heap) (n0 : Nat) (v : Option Value) (h : Heap) (L : List Loc) : Prop := ∃ b : Addr, ∃ kb : ClassId, v = some (.ref b) ∧ Fr n0 L ∧ Keep h0 h [] ∧ (Arv Z h b kb .char (4 : Int32) [(.int (nar .char c0)), (.int (nar .char c1)), (.int (nar .char c2)), (.int (nar .char c3))] (.int 0)) ∧ (h0.size ≤ b)
set_option maxRecDepth 65536 in
set_option maxHeartbeats 40000000 in
theorem rmMk4 (l : Launch) (Z : State) (a0 : Array Value) (hw : ∀ d ∈ tables_1, d.before a0 Z = true) (ws : List Jvm.Cond) (c0 : Int32) (c1 : Int32) (c2 : Int32) (c3 : Int32) (h0 : Heap) (n0 : Nat) (Z0 : n0 ≤ h0.size) :
  own_M l yN6 (Jvm.Cond.code yN6 method_3_code 5 (some (.array .char)) :: ws) ({ frames := 0, cells := 1, slots := 4, locals := 0 } : Room) #[(.int 4), (.int c0), (.int c1), (.int c2), (.int c3)] Z h0 (Q_rmMk4 Z c0 c1 c2 c3 h0 n0) := by
 refine MetFree.of_bodySF (plainFor_of_name pn_0) hisR ?_
 intro p e s m args below meth c s₁ Bd hml0 hP hK
 obtain ⟨rfl, hZ, hh⟩ := hP
 have hx := Bd.exec
 have hby := Bd.bytes
 have hml : c.maxLocals = 5 := hml0
 have hown : s.vm.findClass sN1 = some m.cls := findClass_of_methodNamed Bd.named
 have hnm := (name_of_methodNamed Bd.named Bd.method).1
 have X0 : Stand p l e ({ frames := 0, cells := 1, slots := 4, locals := 0 } : Room) s m #[(.int 4), (.int c0), (.int c1), (.int c2), (.int c3)] below meth c s₁ [] 0 0 := Stand.of_body Bd
 have hU : ∀ (i : Nat) (d : Jvm.Cond), tables_1[i]? = some d → d.before a0 Z = true := fun i d h => hw d (List.mem_of_getElem? h)
 have e0 : s₁.heap = h0 := by rw [← hh, Bd.state]; rfl
 have N0 := Fr.nil n0
 obtain ⟨f0, hf0⟩ : ∃ f : JFrame, f = mkF m 0 (fA44 c0 c1 c2 c3) [] := ⟨_, rfl⟩
 have pre0 : ∀ t, own_S p e below s₁ f0 t → Steps p.tables e below (s₁.setTop (entryFrame m #[(.int 4), (.int c0), (.int c1), (.int c2), (.int c3)] 5)) t := fun t k => castTop ((ef_rmMk4 m (4 : Int32) c0 c1 c2 c3).trans hf0.symm) k
 have R0 : own_R p e below s₁ (mkF m 0 (fA44 c0 c1 c2 c3) []) s₁ f0 := by rw [hf0]; exact fun t k => k
 have R1 : own_R p e below s₁ (mkF m 60 (fA44 c0 c1 c2 c3) [(.int 4)]) s₁ f0 := fun t k => R0 t (by
  refine XS.iloadN X0.here hx rfl (hb hby d2_0) rfl ?_
  refine XS.ifYes X0.here hx rfl (pc0 := 1) (pc' := 8) rfl (hb hby d2_1) rfl ((if0 _ _).trans (feq (by decide : ¬ ((4 : Int32) = (0 : Int32)))).2) (by decide) (by decide) ?_
  refine XS.iloadN X0.here hx rfl (hb hby d2_8) rfl ?_
  refine XS.iconst X0.here hx rfl (hb hby d2_9) ?_
  refine XS.icmpYes X0.here hx rfl (pc0 := 10) (pc' := 21) rfl (hb hby d2_10) rfl (feq (by decide : ¬ ((4 : Int32) = (1 : Int32)))).2 (by decide) (by decide) ?_
  refine XS.iloadN X0.here hx rfl (hb hby d2_21) rfl ?_
  refine XS.iconst X0.here hx rfl (hb hby d2_22) ?_
  refine XS.icmpYes X0.here hx rfl (pc0 := 23) (pc' := 38) rfl (hb hby d2_23) rfl (feq (by decide : ¬ ((4 : Int32) = (2 : Int32)))).2 (by decide) (by decide) ?_
  refine XS.iloadN X0.here hx rfl (hb hby d2_38) rfl ?_
  refine XS.iconst X0.here hx rfl (hb hby d2_39) ?_
  refine XS.icmpYes X0.here hx rfl (pc0 := 40) (pc' := 59) rfl (hb hby d2_40) rfl (feq (by decide : ¬ ((4 : Int32) = (3 : Int32)))).2 (by decide) (by decide) ?_
  refine XS.iconst X0.here hx rfl (hb hby d2_59) ?_
  exact k)
 obtain ⟨T2, h2, k2, X2, e2, E2, A2, st2⟩ := newP X0 hx hZ (hU 4 _ rfl) e0 (g := (mkF m 60 (fA44 c0 c1 c2 c3) [(.int 4)])) rfl (hb hby d2_60) rfl (by decide) (cap := 4) (by decide) (by decide) (by decide) (by decide)
 obtain ⟨b2, g2⟩ : ∃ z, z = h0.size := ⟨_, rfl⟩
 rw [← g2] at A2 st2
 have g_b2 : n0 ≤ b2 := Nat.le_trans Z0 (Nat.le_of_eq g2.symm)
 have sz_b2 : h0.size ≤ b2 := Nat.le_trans (Keep.refl h0 []).1 (Nat.le_of_eq g2.symm)
 have z2 : n0 ≤ h2.size := Nat.le_trans Z0 E2.1
 have K2 : Keep h0 h2 [] := (Keep.refl h0 []).ext E2
 have v2 : Arv Z h2 b2 k2 .char (4 : Int32) [(.int 0), (.int 0), (.int 0), (.int 0)] (.int 0) := (Arv.new A2 (by decide)).pad (pad_rep [] (.int 0) 4)
 have R3 := fun t k => R1 t (st2 t k)
 have R4 : own_R p e below T2 (mkF m 65 (fA44 c0 c1 c2 c3) [(.int c0), (.int 0), (.ref b2), (.ref b2)]) s₁ f0 := fun t k => R3 t (by
  refine XS.dup X2.here hx rfl (hb hby d2_62) rfl rfl ?_
  refine XS.iconst X2.here hx rfl (hb hby d2_63) ?_
  refine XS.iloadN X2.here hx rfl (hb hby d2_64) rfl ?_
  exact k)
 obtain ⟨cl5, Ar5, q5, S5, n5_, H5, G5⟩ := id v2
 have hin5 : ¬ ((0 : Int32) < 0 ∨ cl5.slots.size ≤ ((0 : Int32)).toNatClampNeg) := inb_of S5 ⟨by decide, by decide⟩
 obtain ⟨T5, h5, X5, e5, W5, st5⟩ := stC X2 hx hZ e2 Ar5 (j := (0 : Int32)) hin5 (g := (mkF m 65 (fA44 c0 c1 c2 c3) [(.int c0), (.int 0), (.ref b2), (.ref b2)])) rfl rfl (hb hby d2_65)
 have z5 : n0 ≤ h5.size := by rw [W5.size]; exact z2
 have K5 : Keep h0 h5 [] := K2.wr W5 (Or.inr sz_b2)
 have v5 : Arv Z h5 b2 k2 .char (4 : Int32) [(.int (nar .char c0)), (.int 0), (.int 0), (.int 0)] (.int 0) := Arv.set Ar5 q5 S5 n5_ H5 G5 (fits_nar_char _) W5 0 rfl (Nat.le_of_ble_eq_true rfl)
 have N5 := Fr.snoc X5 N0 g_b2
 have R6 := fun t k => R4 t (st5 t k)
 have R7 : own_R p e below T5 (mkF m 69 (fA44 c0 c1 c2 c3) [(.int c1), (.int 1), (.ref b2), (.ref b2)]) s₁ f0 := fun t k => R6 t (by
  refine XS.dup X5.here hx rfl (hb hby d2_66) rfl rfl ?_
  refine XS.iconst X5.here hx rfl (hb hby d2_67) ?_
  refine XS.iloadN X5.here hx rfl (hb hby d2_68) rfl ?_
  exact k)
 obtain ⟨cl8, Ar8, q8, S8, n8_, H8, G8⟩ := id v5
 have hin8 : ¬ ((1 : Int32) < 0 ∨ cl8.slots.size ≤ ((1 : Int32)).toNatClampNeg) := inb_of S8 ⟨by decide, by decide⟩
 obtain ⟨T8, h8, X8, e8, W8, st8⟩ := stC X5 hx hZ e5 Ar8 (j := (1 : Int32)) hin8 (g := (mkF m 69 (fA44 c0 c1 c2 c3) [(.int c1), (.int 1), (.ref b2), (.ref b2)])) rfl rfl (hb hby d2_69)
 have z8 : n0 ≤ h8.size := by rw [W8.size]; exact z5
 have K8 : Keep h0 h8 [] := K5.wr W8 (Or.inr sz_b2)
 have v8 : Arv Z h8 b2 k2 .char (4 : Int32) [(.int (nar .char c0)), (.int (nar .char c1)), (.int 0), (.int 0)] (.int 0) := Arv.set Ar8 q8 S8 n8_ H8 G8 (fits_nar_char _) W8 1 rfl (Nat.le_of_ble_eq_true rfl)
 have N8 := Fr.snoc X8 N5 g_b2
 have R9 := fun t k => R7 t (st8 t k)
 have R10 : own_R p e below T8 (mkF m 73 (fA44 c0 c1 c2 c3) [(.int c2), (.int 2), (.ref b2), (.ref b2)]) s₁ f0 := fun t k => R9 t (by
  refine XS.dup X8.here hx rfl (hb hby d2_70) rfl rfl ?_
  refine XS.iconst X8.here hx rfl (hb hby d2_71) ?_
  refine XS.iloadN X8.here hx rfl (hb hby d2_72) rfl ?_
  exact k)
 obtain ⟨cl11, Ar11, q11, S11, n11_, H11, G11⟩ := id v8
 have hin11 : ¬ ((2 : Int32) < 0 ∨ cl11.slots.size ≤ ((2 : Int32)).toNatClampNeg) := inb_of S11 ⟨by decide, by decide⟩
 obtain ⟨T11, h11, X11, e11, W11, st11⟩ := stC X8 hx hZ e8 Ar11 (j := (2 : Int32)) hin11 (g := (mkF m 73 (fA44 c0 c1 c2 c3) [(.int c2), (.int 2), (.ref b2), (.ref b2)])) rfl rfl (hb hby d2_73)
 have z11 : n0 ≤ h11.size := by rw [W11.size]; exact z8
 have K11 : Keep h0 h11 [] := K8.wr W11 (Or.inr sz_b2)
 have v11 : Arv Z h11 b2 k2 .char (4 : Int32) [(.int (nar .char c0)), (.int (nar .char c1)), (.int (nar .char c2)), (.int 0)] (.int 0) := Arv.set Ar11 q11 S11 n11_ H11 G11 (fits_nar_char _) W11 2 rfl (Nat.le_of_ble_eq_true rfl)
 have N11 := Fr.snoc X11 N8 g_b2
 have R12 := fun t k => R10 t (st11 t k)
 have R13 : own_R p e below T11 (mkF m 78 (fA44 c0 c1 c2 c3) [(.int c3), (.int 3), (.ref b2), (.ref b2)]) s₁ f0 := fun t k => R12 t (by
  refine XS.dup X11.here hx rfl (hb hby d2_74) rfl rfl ?_
  refine XS.iconst X11.here hx rfl (hb hby d2_75) ?_
  refine XS.iload X11.here hx rfl (hb hby d2_76) rfl ?_
  exact k)
 obtain ⟨cl14, Ar14, q14, S14, n14_, H14, G14⟩ := id v11
 have hin14 : ¬ ((3 : Int32) < 0 ∨ cl14.slots.size ≤ ((3 : Int32)).toNatClampNeg) := inb_of S14 ⟨by decide, by decide⟩
 obtain ⟨T14, h14, X14, e14, W14, st14⟩ := stC X11 hx hZ e11 Ar14 (j := (3 : Int32)) hin14 (g := (mkF m 78 (fA44 c0 c1 c2 c3) [(.int c3), (.int 3), (.ref b2), (.ref b2)])) rfl rfl (hb hby d2_78)
 have z14 : n0 ≤ h14.size := by rw [W14.size]; exact z11
 have K14 : Keep h0 h14 [] := K11.wr W14 (Or.inr sz_b2)
 have v14 : Arv Z h14 b2 k2 .char (4 : Int32) [(.int (nar .char c0)), (.int (nar .char c1)), (.int (nar .char c2)), (.int (nar .char c3))] (.int 0) := Arv.set Ar14 q14 S14 n14_ H14 G14 (fits_nar_char _) W14 3 rfl (Nat.le_of_ble_eq_true rfl)
 have N14 := Fr.snoc X14 N11 g_b2
 have R15 := fun t k => R13 t (st14 t k)
 obtain ⟨fs, hr, hrun, hended, hW, hsame⟩ := X14.leave (v := some (.ref b2)) (fun h => by rw [Bd.returns] at h; cases h)
 refine ⟨_, _, pre0 _ (R15 _ ?_), hrun, hended, _, _, rfl, ?_, ⟨_, rfl⟩, hW, hsame.mono (by decide) (by decide)⟩
 ·
  show own_S p e below T14 (mkF m 79 (fA44 c0 c1 c2 c3) [(.ref b2)]) _
  exact retOut X14 hx (t := (.array .char)) Bd.returns rfl (Or.inr (Or.inr (Or.inr (Or.inr ⟨rfl, rfl, rfl⟩)))) (hb hby d2_79) hr
 ·
  show Q_rmMk4 Z c0 c1 c2 c3 h0 n0 _ T14.heap _
  rw [e14]
  exact ⟨b2, k2, rfl, N14, K14, v14, sz_b2⟩
theorem ef_rmCoder (m : MethodId) (x0 : Addr) : entryFrame m #[(.ref x0)] 1 = mkF m 0 #[rv x0] [] := by first | (simp [entryFrame, mkF, argsToLocals, Value.category]; done) | rfl
def Q_rmCoder (Z : State) (a1 : Addr) (cs : Int32) (h0 : Heap) (n0 : Nat) (v : Option Value) (h : Heap) (L : List Loc) : Prop := v = some (.int 0) ∧ Fr n0 L ∧ h = h0
set_option maxRecDepth 65536 in
set_option maxHeartbeats 40000000 in
theorem rmCoder (l : Launch) (Z : State) (a0 : Array Value) (hw : ∀ d ∈ tables_1, d.before a0 Z = true) (ws : List Jvm.Cond) (a1 : Addr) (cs : Int32) (h0 : Heap) (n0 : Nat) (Z0 : n0 ≤ h0.size) (S_String_COMPACT_STRINGS : Sta Z h0 "java/lang/String" "COMPACT_STRINGS" "Z" (.int cs)) (hcs : ¬ cs = (0 : Int32)) (F_coder_a1 : Fld Z h0 a1 "java/lang/String" "coder" "B" (.int 0)) :
  own_M l yN23 (Jvm.Cond.code yN23 jdk_42_method_152_code 1 (some .byte) :: ws) ({ frames := 0, cells := 0, slots := 0, locals := 0 } : Room) #[(.ref a1)] Z h0 (Q_rmCoder Z a1 cs h0 n0) := by
 refine MetFree.of_bodySF (plainFor_of_name pn_1) hisR ?_
 intro p e s m args below meth c s₁ Bd hml0 hP hK
 obtain ⟨rfl, hZ, hh⟩ := hP
 have hx := Bd.exec
 have hby := Bd.bytes
 have hml : c.maxLocals = 1 := hml0
 have hown : s.vm.findClass "java/lang/String" = some m.cls := findClass_of_methodNamed Bd.named
 have hnm := (name_of_methodNamed Bd.named Bd.method).1
 have X0 : Stand p l e ({ frames := 0, cells := 0, slots := 0, locals := 0 } : Room) s m #[(.ref a1)] below meth c s₁ [] 0 0 := Stand.of_body Bd
 have hU : ∀ (i : Nat) (d : Jvm.Cond), tables_1[i]? = some d → d.before a0 Z = true := fun i d h => hw d (List.mem_of_getElem? h)
 have e0 : s₁.heap = h0 := by rw [← hh, Bd.state]; rfl
 have N0 := Fr.nil n0
 obtain ⟨f0, hf0⟩ : ∃ f : JFrame, f = mkF m 0 #[rv a1] [] := ⟨_, rfl⟩
 have pre0 : ∀ t, own_S p e below s₁ f0 t → Steps p.tables e below (s₁.setTop (entryFrame m #[(.ref a1)] 1)) t := fun t k => castTop ((ef_rmCoder m a1).trans hf0.symm) k
 have R0 : own_R p e below s₁ (mkF m 0 #[rv a1] []) s₁ f0 := by rw [hf0]; exact fun t k => k
 obtain ⟨T1, X1, e1, st1⟩ := getS2 X0 hx hZ hown (host := "") (Or.inl (hU 60 _ rfl)) Via.refl e0 S_String_COMPACT_STRINGS (g := (mkF m 0 #[rv a1] [])) rfl (hb hby d10_0)
 have R2 := fun t k => R0 t (st1 t k)
 have R3 : own_R p e below T1 (mkF m 7 #[rv a1] [(.ref a1)]) s₁ f0 := fun t k => R2 t (by
  refine XS.ifNo X1.here hx rfl (hb hby d10_3) rfl ((if0 _ _).trans (feq hcs).1) ?_
  refine XS.aloadN X1.here hx rfl (hb hby d10_6) rfl rfl ?_
  exact k)
 obtain ⟨T4, X4, e4, R5⟩ := own_gF R3 X1 hx hZ hown (host := "") (Or.inl (hU 28 _ rfl)) Via.refl e1 F_coder_a1 rfl rfl (hb hby d10_7)
 have R6 : own_R p e below T4 (mkF m 14 #[rv a1] [(.int 0)]) s₁ f0 := fun t k => R5 t (by
  refine XS.goto X4.here hx rfl (pc0 := 10) (pc' := 14) rfl (hb hby d10_10) (by decide) (by decide) ?_
  exact k)
 obtain ⟨fs, hr, hrun, hended, hW, hsame⟩ := X4.leave (v := some (.int 0)) (fun h => by rw [Bd.returns] at h; cases h)
 refine ⟨_, _, pre0 _ (R6 _ ?_), hrun, hended, _, _, rfl, ?_, ⟨_, rfl⟩, hW, hsame.mono (by decide) (by decide)⟩
 ·
  show own_S p e below T4 (mkF m 14 #[rv a1] [(.int 0)]) _
  exact retN X4 hx (t := .byte) Bd.returns (by simp) (hb hby d10_14) hr
 ·
  show Q_rmCoder Z a1 cs h0 n0 _ T4.heap _
  rw [e4]
  exact ⟨rfl, N0, rfl⟩
theorem ef_rmLat (m : MethodId) (x0 : Addr) : entryFrame m #[(.ref x0)] 1 = mkF m 0 #[rv x0] [] := by first | (simp [entryFrame, mkF, argsToLocals, Value.category]; done) | rfl
def Q_rmLat (Z : State) (a1 : Addr) (cs : Int32) (h0 : Heap) (n0 : Nat) (v : Option Value) (h : Heap) (L : List Loc) : Prop := v = some (.int 1) ∧ Fr n0 L ∧ h = h0
set_option maxRecDepth 65536 in
set_option maxHeartbeats 40000000 in
theorem rmLat (l : Launch) (Z : State) (a0 : Array Value) (hw : ∀ d ∈ tables_1, d.before a0 Z = true) (ws : List Jvm.Cond) (a1 : Addr) (cs : Int32) (h0 : Heap) (n0 : Nat) (Z0 : n0 ≤ h0.size) (S_String_COMPACT_STRINGS : Sta Z h0 "java/lang/String" "COMPACT_STRINGS" "Z" (.int cs)) (hcs : ¬ cs = (0 : Int32)) (F_coder_a1 : Fld Z h0 a1 "java/lang/String" "coder" "B" (.int 0)) :
  own_M l yN12 (Jvm.Cond.code yN12 jdk_42_method_154_code 1 (some .boolean) :: ws) ({ frames := 0, cells := 0, slots := 0, locals := 0 } : Room) #[(.ref a1)] Z h0 (Q_rmLat Z a1 cs h0 n0) := by
 refine MetFree.of_bodySF (plainFor_of_name pn_1) hisR ?_
 intro p e s m args below meth c s₁ Bd hml0 hP hK
 obtain ⟨rfl, hZ, hh⟩ := hP
 have hx := Bd.exec
 have hby := Bd.bytes
 have hml : c.maxLocals = 1 := hml0
 have hown : s.vm.findClass "java/lang/String" = some m.cls := findClass_of_methodNamed Bd.named
 have hnm := (name_of_methodNamed Bd.named Bd.method).1
 have X0 : Stand p l e ({ frames := 0, cells := 0, slots := 0, locals := 0 } : Room) s m #[(.ref a1)] below meth c s₁ [] 0 0 := Stand.of_body Bd
 have hU : ∀ (i : Nat) (d : Jvm.Cond), tables_1[i]? = some d → d.before a0 Z = true := fun i d h => hw d (List.mem_of_getElem? h)
 have e0 : s₁.heap = h0 := by rw [← hh, Bd.state]; rfl
 have N0 := Fr.nil n0
 obtain ⟨f0, hf0⟩ : ∃ f : JFrame, f = mkF m 0 #[rv a1] [] := ⟨_, rfl⟩
 have pre0 : ∀ t, own_S p e below s₁ f0 t → Steps p.tables e below (s₁.setTop (entryFrame m #[(.ref a1)] 1)) t := fun t k => castTop ((ef_rmLat m a1).trans hf0.symm) k
 have R0 : own_R p e below s₁ (mkF m 0 #[rv a1] []) s₁ f0 := by rw [hf0]; exact fun t k => k
 obtain ⟨T1, X1, e1, st1⟩ := getS2 X0 hx hZ hown (host := "") (Or.inl (hU 60 _ rfl)) Via.refl e0 S_String_COMPACT_STRINGS (g := (mkF m 0 #[rv a1] [])) rfl (hb hby d12_0)
 have R2 := fun t k => R0 t (st1 t k)
 have R3 : own_R p e below T1 (mkF m 7 #[rv a1] [(.ref a1)]) s₁ f0 := fun t k => R2 t (by
  refine XS.ifNo X1.here hx rfl (hb hby d12_3) rfl ((if0 _ _).trans (feq hcs).1) ?_
  refine XS.aloadN X1.here hx rfl (hb hby d12_6) rfl rfl ?_
  exact k)
 obtain ⟨T4, X4, e4, R5⟩ := own_gF R3 X1 hx hZ hown (host := "") (Or.inl (hU 28 _ rfl)) Via.refl e1 F_coder_a1 rfl rfl (hb hby d12_7)
 have R6 : own_R p e below T4 (mkF m 18 #[rv a1] [(.int 1)]) s₁ f0 := fun t k => R5 t (by
  refine XS.ifNo X4.here hx rfl (hb hby d12_10) rfl ((if0 _ _).trans (teq (by decide : (0 : Int32) = (0 : Int32))).2) ?_
  refine XS.iconst X4.here hx rfl (hb hby d12_13) ?_
  refine XS.goto X4.here hx rfl (pc0 := 14) (pc' := 18) rfl (hb hby d12_14) (by decide) (by decide) ?_
  exact k)
 obtain ⟨fs, hr, hrun, hended, hW, hsame⟩ := X4.leave (v := some (.int 1)) (fun h => by rw [Bd.returns] at h; cases h)
 refine ⟨_, _, pre0 _ (R6 _ ?_), hrun, hended, _, _, rfl, ?_, ⟨_, rfl⟩, hW, hsame.mono (by decide) (by decide)⟩
 ·
  show own_S p e below T4 (mkF m 18 #[rv a1] [(.int 1)]) _
  exact retN X4 hx (t := .boolean) Bd.returns (by simp) (hb hby d12_18) hr
 ·
  show Q_rmLat Z a1 cs h0 n0 _ T4.heap _
  rw [e4]
  exact ⟨rfl, N0, rfl⟩
theorem ef_rmLen (m : MethodId) (x0 : Addr) : entryFrame m #[(.ref x0)] 1 = mkF m 0 #[rv x0] [] := by first | (simp [entryFrame, mkF, argsToLocals, Value.category]; done) | rfl
def Q_rmLen (Z : State) (a1 : Addr) (b : Addr) (k : ClassId) (z : Int32) (vs : List Value) (dv : Value) (cs : Int32) (h0 : Heap) (n0 : Nat) (v : Option Value) (h : Heap) (L : List Loc) : Prop := v = some (.int (z >>> ((0 : Int32) &&& 31))) ∧ Fr n0 L ∧ h = h0
set_option maxRecDepth 65536 in
set_option maxHeartbeats 40000000 in
theorem rmLen (l : Launch) (Z : State) (a0 : Array Value) (hw : ∀ d ∈ tables_1, d.before a0 Z = true) (ws : List Jvm.Cond) (a1 : Addr) (b : Addr) (k : ClassId) (z : Int32) (vs : List Value) (dv : Value) (cs : Int32) (h0 : Heap) (n0 : Nat) (Z0 : n0 ≤ h0.size) (E_a1 : Exa Z h0 a1 "java/lang/String") (F_coder_a1 : Fld Z h0 a1 "java/lang/String" "coder" "B" (.int 0)) (F_value_a1 : Fld Z h0 a1 "java/lang/String" "value" "[B" (.ref b)) (A_b : Arv Z h0 b k .byte z vs dv) (S_String_COMPACT_STRINGS : Sta Z h0 "java/lang/String" "COMPACT_STRINGS" "Z" (.int cs)) (hcs : ¬ cs = (0 : Int32)) :
  own_M l yN0 (Jvm.Cond.code yN0 jdk_42_method_54_code 1 (some .int) :: ws) ({ frames := 1, cells := 0, slots := 0, locals := 13 } : Room) #[(.ref a1)] Z h0 (Q_rmLen Z a1 b k z vs dv cs h0 n0) := by
 refine MetFree.of_bodySF (plainFor_of_name pn_1) hisR ?_
 intro p e s m args below meth c s₁ Bd hml0 hP hK
 obtain ⟨rfl, hZ, hh⟩ := hP
 have hx := Bd.exec
 have hby := Bd.bytes
 have hml : c.maxLocals = 1 := hml0
 have hown : s.vm.findClass "java/lang/String" = some m.cls := findClass_of_methodNamed Bd.named
 have hnm := (name_of_methodNamed Bd.named Bd.method).1
 have X0 : Stand p l e ({ frames := 1, cells := 0, slots := 0, locals := 13 } : Room) s m #[(.ref a1)] below meth c s₁ [] 0 0 := Stand.of_body Bd
 have hU : ∀ (i : Nat) (d : Jvm.Cond), tables_1[i]? = some d → d.before a0 Z = true := fun i d h => hw d (List.mem_of_getElem? h)
 have e0 : s₁.heap = h0 := by rw [← hh, Bd.state]; rfl
 have N0 := Fr.nil n0
 obtain ⟨f0, hf0⟩ : ∃ f : JFrame, f = mkF m 0 #[rv a1] [] := ⟨_, rfl⟩
 have pre0 : ∀ t, own_S p e below s₁ f0 t → Steps p.tables e below (s₁.setTop (entryFrame m #[(.ref a1)] 1)) t := fun t k => castTop ((ef_rmLen m a1).trans hf0.symm) k
 have R0 : own_R p e below s₁ (mkF m 0 #[rv a1] []) s₁ f0 := by rw [hf0]; exact fun t k => k
 have R1 : own_R p e below s₁ (mkF m 1 #[rv a1] [(.ref a1)]) s₁ f0 := fun t k => R0 t (by
  refine XS.aloadN X0.here hx rfl (hb hby d9_0) rfl rfl ?_
  exact k)
 obtain ⟨T2, X2, e2, R3⟩ := own_gF R1 X0 hx hZ hown (host := "") (Or.inl (hU 27 _ rfl)) Via.refl e0 F_value_a1 rfl rfl (hb hby d9_1)
 obtain ⟨cl4, Ar4, -, S4, N4_, -, -⟩ := id A_b
 have R5 : own_R p e below T2 (mkF m 5 #[rv a1] [(.int z)]) s₁ f0 := fun t k => R3 t (X2.arraylength hx (by rw [e2]; exact Ar4.1) (State.isArrayOf_alike hZ.alike Ar4.2.1) (g := (mkF m 4 #[rv a1] [(.ref b)])) rfl rfl (hb hby d9_4) _ (by rw [len_of S4 N4_]; exact k))
 have R6 : own_R p e below T2 (mkF m 6 #[rv a1] [(.ref a1), (.int z)]) s₁ f0 := fun t k => R5 t (by
  refine XS.aloadN X2.here hx rfl (hb hby d9_5) rfl rfl ?_
  exact k)
 obtain ⟨cq7, kq7, q7a, q7b, q7c⟩ := isOf hZ e2 E_a1
 obtain ⟨_, _, ⟨T7, L7, k7, n7⟩, -, X7, ⟨Lc7, hQ7, l7, y7, z7⟩, st7⟩ := X2.virtualBack hx (y := yN23) (z := yN23) hown (mvT hZ (hU 55 _ rfl)) (mvT hZ (hU 56 _ rfl)) (notFace_of_selects (args := #[]) (mvT hZ (hU 58 _ rfl))) (mvT hZ (hU 58 _ rfl)) (mvT hZ (hU 57 _ rfl)) (by decide) (backOf (W := 1) (rmCoder l Z a0 hw [] a1 cs h0 n0 Z0 S_String_COMPACT_STRINGS hcs F_coder_a1) hZ (hU 59 _ rfl) (hU 7 _ rfl) (by decide) (by decide)) q7a q7c (g := (mkF m 6 #[rv a1] [(.ref a1), (.int z)])) rfl (by rw [hml]; rfl) (Steps.refl _) (argsL := []) (rest := [(.int z)]) (lenOf pd_2 rfl) rfl (Nat.le_of_eq rfl) (hb hby d9_6) (fun _ _ => ⟨rfl, e2, (by decide : 0 + 0 ≤ _), (by decide : 0 + 0 ≤ _)⟩)
 dsimp only [Pt.U, Pt.locs, Pt.cells, Pt.slots] at X7 l7 y7 z7 st7 hQ7
 subst l7 y7 z7
 obtain ⟨rfl, N7q, p7_0⟩ := hQ7
 have N7 := Fr.app N0 N7q
 have R8 := fun t k => R6 t (st7.trans k)
 have R9 : own_R p e below T7 (mkF m 10 #[rv a1] [(.int (z >>> ((0 : Int32) &&& 31)))]) s₁ f0 := fun t k => R8 t (by
  refine XS.ishr X7.here hx rfl (hb hby d9_9) rfl ?_
  exact k)
 obtain ⟨fs, hr, hrun, hended, hW, hsame⟩ := X7.leave (v := some (.int (z >>> ((0 : Int32) &&& 31)))) (fun h => by rw [Bd.returns] at h; cases h)
 refine ⟨_, _, pre0 _ (R9 _ ?_), hrun, hended, _, _, rfl, ?_, ⟨_, rfl⟩, hW, hsame.mono (by decide) (by decide)⟩
 ·
  show own_S p e below T7 (mkF m 10 #[rv a1] [(.int (z >>> ((0 : Int32) &&& 31)))]) _
  exact retI X7 hx Bd.returns (hb hby d9_10) hr
 ·
  show Q_rmLen Z a1 b k z vs dv cs h0 n0 _ T7.heap _
  rw [p7_0]
  exact ⟨rfl, N7, rfl⟩
theorem ef_rmPreN (m : MethodId) (x0 : Int32) (x1 : Int32) : entryFrame m #[(.int x0), (.int x1), .null] 3 = mkF m 0 #[iv x0, iv x1, .val .null] [] := by first | (simp [entryFrame, mkF, argsToLocals, Value.category]; done) | rfl
def Q_rmPreN (Z : State) (p1 : Int32) (p2 : Int32) (h0 : Heap) (n0 : Nat) (v : Option Value) (h : Heap) (L : List Loc) : Prop := v = some (.int p1) ∧ Fr n0 L ∧ h = h0
set_option maxRecDepth 65536 in
set_option maxHeartbeats 40000000 in
theorem rmPreN (l : Launch) (Z : State) (a0 : Array Value) (hw : ∀ d ∈ tables_1, d.before a0 Z = true) (ws : List Jvm.Cond) (p1 : Int32) (p2 : Int32) (h0 : Heap) (n0 : Nat) (Z0 : n0 ≤ h0.size) (hlo : ¬ p1 < (0 : Int32)) (hhi : p1 < p2) :
  own_M l yN18 (Jvm.Cond.code yN18 jdk_41_method_11_code 3 (some .int) :: ws) ({ frames := 0, cells := 0, slots := 0, locals := 0 } : Room) #[(.int p1), (.int p2), .null] Z h0 (Q_rmPreN Z p1 p2 h0 n0) := by
 refine MetFree.of_bodySF (plainFor_of_name pn_3) hisR ?_
 intro p e s m args below meth c s₁ Bd hml0 hP hK
 obtain ⟨rfl, hZ, hh⟩ := hP
 have hx := Bd.exec
 have hby := Bd.bytes
 have hml : c.maxLocals = 3 := hml0
 have hown : s.vm.findClass sN2 = some m.cls := findClass_of_methodNamed Bd.named
 have hnm := (name_of_methodNamed Bd.named Bd.method).1
 have X0 : Stand p l e ({ frames := 0, cells := 0, slots := 0, locals := 0 } : Room) s m #[(.int p1), (.int p2), .null] below meth c s₁ [] 0 0 := Stand.of_body Bd
 have hU : ∀ (i : Nat) (d : Jvm.Cond), tables_1[i]? = some d → d.before a0 Z = true := fun i d h => hw d (List.mem_of_getElem? h)
 have e0 : s₁.heap = h0 := by rw [← hh, Bd.state]; rfl
 have N0 := Fr.nil n0
 obtain ⟨f0, hf0⟩ : ∃ f : JFrame, f = mkF m 0 #[iv p1, iv p2, .val .null] [] := ⟨_, rfl⟩
 have pre0 : ∀ t, own_S p e below s₁ f0 t → Steps p.tables e below (s₁.setTop (entryFrame m #[(.int p1), (.int p2), .null] 3)) t := fun t k => castTop ((ef_rmPreN m p1 p2).trans hf0.symm) k
 have R0 : own_R p e below s₁ (mkF m 0 #[iv p1, iv p2, .val .null] []) s₁ f0 := by rw [hf0]; exact fun t k => k
 have R1 : own_R p e below s₁ (mkF m 17 #[iv p1, iv p2, .val .null] [(.int p1)]) s₁ f0 := fun t k => R0 t (by
  refine XS.iloadN X0.here hx rfl (hb hby d26_0) rfl ?_
  refine XS.ifNo X0.here hx rfl (hb hby d26_1) rfl ((if0 _ _).trans (flt hlo).1) ?_
  refine XS.iloadN X0.here hx rfl (hb hby d26_4) rfl ?_
  refine XS.iloadN X0.here hx rfl (hb hby d26_5) rfl ?_
  refine XS.icmpYes X0.here hx rfl (pc0 := 6) (pc' := 16) rfl (hb hby d26_6) rfl (tlt hhi).1 (by decide) (by decide) ?_
  refine XS.iloadN X0.here hx rfl (hb hby d26_16) rfl ?_
  exact k)
 obtain ⟨fs, hr, hrun, hended, hW, hsame⟩ := X0.leave (v := some (.int p1)) (fun h => by rw [Bd.returns] at h; cases h)
 refine ⟨_, _, pre0 _ (R1 _ ?_), hrun, hended, _, _, rfl, ?_, ⟨_, rfl⟩, hW, hsame.mono (by decide) (by decide)⟩
 ·
  show own_S p e below s₁ (mkF m 17 #[iv p1, iv p2, .val .null] [(.int p1)]) _
  exact retI X0 hx Bd.returns (hb hby d26_17) hr
 ·
  show Q_rmPreN Z p1 p2 h0 n0 _ s₁.heap _
  rw [e0]
  exact ⟨rfl, N0, rfl⟩
theorem ef_rmPreR (m : MethodId) (x0 : Int32) (x1 : Int32) (x2 : Addr) : entryFrame m #[(.int x0), (.int x1), (.ref x2)] 3 = mkF m 0 #[iv x0, iv x1, rv x2] [] := by first | (simp [entryFrame, mkF, argsToLocals, Value.category]; done) | rfl
def Q_rmPreR (Z : State) (p1 : Int32) (p2 : Int32) (a3 : Addr) (h0 : Heap) (n0 : Nat) (v : Option Value) (h : Heap) (L : List Loc) : Prop := v = some (.int p1) ∧ Fr n0 L ∧ h = h0
set_option maxRecDepth 65536 in
set_option maxHeartbeats 40000000 in
theorem rmPreR (l : Launch) (Z : State) (a0 : Array Value) (hw : ∀ d ∈ tables_1, d.before a0 Z = true) (ws : List Jvm.Cond) (p1 : Int32) (p2 : Int32) (a3 : Addr) (h0 : Heap) (n0 : Nat) (Z0 : n0 ≤ h0.size) (hlo : ¬ p1 < (0 : Int32)) (hhi : p1 < p2) :
  own_M l yN18 (Jvm.Cond.code yN18 jdk_41_method_11_code 3 (some .int) :: ws) ({ frames := 0, cells := 0, slots := 0, locals := 0 } : Room) #[(.int p1), (.int p2), (.ref a3)] Z h0 (Q_rmPreR Z p1 p2 a3 h0 n0) := by
 refine MetFree.of_bodySF (plainFor_of_name pn_3) hisR ?_
 intro p e s m args below meth c s₁ Bd hml0 hP hK
 obtain ⟨rfl, hZ, hh⟩ := hP
 have hx := Bd.exec
 have hby := Bd.bytes
 have hml : c.maxLocals = 3 := hml0
 have hown : s.vm.findClass sN2 = some m.cls := findClass_of_methodNamed Bd.named
 have hnm := (name_of_methodNamed Bd.named Bd.method).1
 have X0 : Stand p l e ({ frames := 0, cells := 0, slots := 0, locals := 0 } : Room) s m #[(.int p1), (.int p2), (.ref a3)] below meth c s₁ [] 0 0 := Stand.of_body Bd
 have hU : ∀ (i : Nat) (d : Jvm.Cond), tables_1[i]? = some d → d.before a0 Z = true := fun i d h => hw d (List.mem_of_getElem? h)
 have e0 : s₁.heap = h0 := by rw [← hh, Bd.state]; rfl
 have N0 := Fr.nil n0
 obtain ⟨f0, hf0⟩ : ∃ f : JFrame, f = mkF m 0 #[iv p1, iv p2, rv a3] [] := ⟨_, rfl⟩
 have pre0 : ∀ t, own_S p e below s₁ f0 t → Steps p.tables e below (s₁.setTop (entryFrame m #[(.int p1), (.int p2), (.ref a3)] 3)) t := fun t k => castTop ((ef_rmPreR m p1 p2 a3).trans hf0.symm) k
 have R0 : own_R p e below s₁ (mkF m 0 #[iv p1, iv p2, rv a3] []) s₁ f0 := by rw [hf0]; exact fun t k => k
 have R1 : own_R p e below s₁ (mkF m 17 #[iv p1, iv p2, rv a3] [(.int p1)]) s₁ f0 := fun t k => R0 t (by
  refine XS.iloadN X0.here hx rfl (hb hby d26_0) rfl ?_
  refine XS.ifNo X0.here hx rfl (hb hby d26_1) rfl ((if0 _ _).trans (flt hlo).1) ?_
  refine XS.iloadN X0.here hx rfl (hb hby d26_4) rfl ?_
  refine XS.iloadN X0.here hx rfl (hb hby d26_5) rfl ?_
  refine XS.icmpYes X0.here hx rfl (pc0 := 6) (pc' := 16) rfl (hb hby d26_6) rfl (tlt hhi).1 (by decide) (by decide) ?_
  refine XS.iloadN X0.here hx rfl (hb hby d26_16) rfl ?_
  exact k)
 obtain ⟨fs, hr, hrun, hended, hW, hsame⟩ := X0.leave (v := some (.int p1)) (fun h => by rw [Bd.returns] at h; cases h)
 refine ⟨_, _, pre0 _ (R1 _ ?_), hrun, hended, _, _, rfl, ?_, ⟨_, rfl⟩, hW, hsame.mono (by decide) (by decide)⟩
 ·
  show own_S p e below s₁ (mkF m 17 #[iv p1, iv p2, rv a3] [(.int p1)]) _
  exact retI X0 hx Bd.returns (hb hby d26_17) hr
 ·
  show Q_rmPreR Z p1 p2 a3 h0 n0 _ s₁.heap _
  rw [e0]
  exact ⟨rfl, N0, rfl⟩
theorem ef_rmChk (m : MethodId) (x0 : Int32) (x1 : Int32) : entryFrame m #[(.int x0), (.int x1)] 2 = mkF m 0 #[iv x0, iv x1] [] := by first | (simp [entryFrame, mkF, argsToLocals, Value.category]; done) | rfl
def Q_rmChk (Z : State) (p1 : Int32) (p2 : Int32) (sf : Value) (h0 : Heap) (n0 : Nat) (v : Option Value) (h : Heap) (L : List Loc) : Prop := v = none ∧ Fr n0 L ∧ h = h0
set_option maxRecDepth 65536 in
set_option maxHeartbeats 40000000 in
theorem rmChk (l : Launch) (Z : State) (a0 : Array Value) (hw : ∀ d ∈ tables_1, d.before a0 Z = true) (ws : List Jvm.Cond) (p1 : Int32) (p2 : Int32) (sf : Value) (h0 : Heap) (n0 : Nat) (Z0 : n0 ≤ h0.size) (S_Preconditions_SIOOBE_FORMATTER : Sta Z h0 sN2 "SIOOBE_FORMATTER" sN3 sf) (hsf : sf.isRef = true) (hlo : ¬ p1 < (0 : Int32)) (hhi : p1 < p2) :
  own_M l yN25 (Jvm.Cond.code yN25 jdk_42_method_155_code 2 none :: ws) ({ frames := 1, cells := 0, slots := 0, locals := 14 } : Room) #[(.int p1), (.int p2)] Z h0 (Q_rmChk Z p1 p2 sf h0 n0) := by
 refine MetFree.of_bodySF (plainFor_of_name pn_1) hisR ?_
 intro p e s m args below meth c s₁ Bd hml0 hP hK
 obtain ⟨rfl, hZ, hh⟩ := hP
 have hx := Bd.exec
 have hby := Bd.bytes
 have hml : c.maxLocals = 2 := hml0
 have hown : s.vm.findClass "java/lang/String" = some m.cls := findClass_of_methodNamed Bd.named
 have hnm := (name_of_methodNamed Bd.named Bd.method).1
 have X0 : Stand p l e ({ frames := 1, cells := 0, slots := 0, locals := 14 } : Room) s m #[(.int p1), (.int p2)] below meth c s₁ [] 0 0 := Stand.of_body Bd
 have hU : ∀ (i : Nat) (d : Jvm.Cond), tables_1[i]? = some d → d.before a0 Z = true := fun i d h => hw d (List.mem_of_getElem? h)
 have e0 : s₁.heap = h0 := by rw [← hh, Bd.state]; rfl
 have N0 := Fr.nil n0
 obtain ⟨f0, hf0⟩ : ∃ f : JFrame, f = mkF m 0 #[iv p1, iv p2] [] := ⟨_, rfl⟩
 have pre0 : ∀ t, own_S p e below s₁ f0 t → Steps p.tables e below (s₁.setTop (entryFrame m #[(.int p1), (.int p2)] 2)) t := fun t k => castTop ((ef_rmChk m p1 p2).trans hf0.symm) k
 have R0 : own_R p e below s₁ (mkF m 0 #[iv p1, iv p2] []) s₁ f0 := by rw [hf0]; exact fun t k => k
 rcases ref_cases hsf with rfl | ⟨sfa, rfl⟩
 ·
  have R1 : own_R p e below s₁ (mkF m 2 #[iv p1, iv p2] [(.int p2), (.int p1)]) s₁ f0 := fun t k => R0 t (by
   refine XS.iloadN X0.here hx rfl (hb hby d25_0) rfl ?_
   refine XS.iloadN X0.here hx rfl (hb hby d25_1) rfl ?_
   exact k)
  obtain ⟨T2, X2, e2, st2⟩ := getS2 X0 hx hZ hown (host := "") (Or.inl (hU 95 _ rfl)) Via.refl e0 S_Preconditions_SIOOBE_FORMATTER (g := (mkF m 2 #[iv p1, iv p2] [(.int p2), (.int p1)])) rfl (hb hby d25_2)
  have R3 := fun t k => R1 t (st2 t k)
  obtain ⟨_, _, ⟨T4, L4, k4, n4⟩, -, X4, ⟨Lc4, hQ4, l4, y4, z4⟩, st4⟩ := Jvm.LawKit.callS X2 hx (y := yN18) hown (mvT hZ (hU 122 _ rfl)) (mvT hZ (hU 123 _ rfl)) (mvT hZ (hU 96 _ rfl)) (mvT hZ (hU 124 _ rfl)) (by decide) (backOf (W := 0) (rmPreN l Z a0 hw [] p1 p2 h0 n0 Z0 hlo hhi) hZ (hU 124 _ rfl) (hU 96 _ rfl) (by decide) (by decide)) (g := (mkF m 5 #[iv p1, iv p2] [.null, (.int p2), (.int p1)])) rfl (by rw [hml]; rfl) (argsL := [(.int p1), (.int p2), .null]) (rest := []) (lenOf pd_4 rfl) rfl (Nat.le_of_eq rfl) (hb hby d25_5) (fun _ _ => ⟨rfl, e2, (by decide : 0 + 0 ≤ _), (by decide : 0 + 0 ≤ _)⟩)
  dsimp only [Pt.U, Pt.locs, Pt.cells, Pt.slots] at X4 l4 y4 z4 st4 hQ4
  subst l4 y4 z4
  obtain ⟨rfl, N4q, p4_0⟩ := hQ4
  have N4 := Fr.app N0 N4q
  have R5 := fun t k => R3 t (st4 t k)
  have R6 : own_R p e below T4 (mkF m 9 #[iv p1, iv p2] []) s₁ f0 := fun t k => R5 t (by
   refine XS.pop X4.here hx rfl (hb hby d25_8) rfl rfl ?_
   exact k)
  obtain ⟨fs, hr, hrun, hended, hW, hsame⟩ := X4.leave (v := none) (fun _ => rfl)
  refine ⟨_, _, pre0 _ (R6 _ ?_), hrun, hended, _, _, rfl, ?_, ⟨_, rfl⟩, hW, hsame.mono (by decide) (by decide)⟩
  ·
   show own_S p e below T4 (mkF m 9 #[iv p1, iv p2] []) _
   exact X4.returnOut hx Bd.returns (hb hby d25_9) hr
  ·
   show Q_rmChk Z p1 p2 .null h0 n0 _ T4.heap _
   rw [p4_0]
   exact ⟨rfl, N4, rfl⟩
 ·
  have R7 : own_R p e below s₁ (mkF m 2 #[iv p1, iv p2] [(.int p2), (.int p1)]) s₁ f0 := fun t k => R0 t (by
   refine XS.iloadN X0.here hx rfl (hb hby d25_0) rfl ?_
   refine XS.iloadN X0.here hx rfl (hb hby d25_1) rfl ?_
   exact k)
  obtain ⟨T8, X8, e8, st8⟩ := getS2 X0 hx hZ hown (host := "") (Or.inl (hU 95 _ rfl)) Via.refl e0 S_Preconditions_SIOOBE_FORMATTER (g := (mkF m 2 #[iv p1, iv p2] [(.int p2), (.int p1)])) rfl (hb hby d25_2)
  have R9 := fun t k => R7 t (st8 t k)
  obtain ⟨_, _, ⟨T10, L10, k10, n10⟩, -, X10, ⟨Lc10, hQ10, l10, y10, z10⟩, st10⟩ := Jvm.LawKit.callS X8 hx (y := yN18) hown (mvT hZ (hU 122 _ rfl)) (mvT hZ (hU 123 _ rfl)) (mvT hZ (hU 96 _ rfl)) (mvT hZ (hU 124 _ rfl)) (by decide) (backOf (W := 0) (rmPreR l Z a0 hw [] p1 p2 sfa h0 n0 Z0 hlo hhi) hZ (hU 124 _ rfl) (hU 96 _ rfl) (by decide) (by decide)) (g := (mkF m 5 #[iv p1, iv p2] [(.ref sfa), (.int p2), (.int p1)])) rfl (by rw [hml]; rfl) (argsL := [(.int p1), (.int p2), (.ref sfa)]) (rest := []) (lenOf pd_4 rfl) rfl (Nat.le_of_eq rfl) (hb hby d25_5) (fun _ _ => ⟨rfl, e8, (by decide : 0 + 0 ≤ _), (by decide : 0 + 0 ≤ _)⟩)
  dsimp only [Pt.U, Pt.locs, Pt.cells, Pt.slots] at X10 l10 y10 z10 st10 hQ10
  subst l10 y10 z10
  obtain ⟨rfl, N10q, p10_0⟩ := hQ10
  have N10 := Fr.app N0 N10q
  have R11 := fun t k => R9 t (st10 t k)
  have R12 : own_R p e below T10 (mkF m 9 #[iv p1, iv p2] []) s₁ f0 := fun t k => R11 t (by
   refine XS.pop X10.here hx rfl (hb hby d25_8) rfl rfl ?_
   exact k)
  obtain ⟨fs, hr, hrun, hended, hW, hsame⟩ := X10.leave (v := none) (fun _ => rfl)
  refine ⟨_, _, pre0 _ (R12 _ ?_), hrun, hended, _, _, rfl, ?_, ⟨_, rfl⟩, hW, hsame.mono (by decide) (by decide)⟩
  ·
   show own_S p e below T10 (mkF m 9 #[iv p1, iv p2] []) _
   exact X10.returnOut hx Bd.returns (hb hby d25_9) hr
  ·
   show Q_rmChk Z p1 p2 (.ref sfa) h0 n0 _ T10.heap _
   rw [p10_0]
   exact ⟨rfl, N10, rfl⟩
theorem ef_rmLca (m : MethodId) (x0 : Addr) (x1 : Int32) : entryFrame m #[(.ref x0), (.int x1)] 2 = mkF m 0 #[rv x0, iv x1] [] := by first | (simp [entryFrame, mkF, argsToLocals, Value.category]; done) | rfl
def Q_rmLca (Z : State) (b : Addr) (p2 : Int32) (k : ClassId) (z : Int32) (vs : List Value) (dv : Value) (x : Int32) (sf : Value) (h0 : Heap) (n0 : Nat) (v : Option Value) (h : Heap) (L : List Loc) : Prop := v = some (.int (own_ch x)) ∧ Fr n0 L ∧ h = h0
set_option maxRecDepth 65536 in
set_option maxHeartbeats 40000000 in
theorem rmLca (l : Launch) (Z : State) (a0 : Array Value) (hw : ∀ d ∈ tables_1, d.before a0 Z = true) (ws : List Jvm.Cond) (b : Addr) (p2 : Int32) (k : ClassId) (z : Int32) (vs : List Value) (dv : Value) (x : Int32) (sf : Value) (h0 : Heap) (n0 : Nat) (Z0 : n0 ≤ h0.size) (A_b : Arv Z h0 b k .byte z vs dv) (S_Preconditions_SIOOBE_FORMATTER : Sta Z h0 sN2 "SIOOBE_FORMATTER" sN3 sf) (hsf : sf.isRef = true) (hlo : ¬ p2 < (0 : Int32)) (hhi : p2 < z) (hat : vs.getD (p2).toNatClampNeg dv = .int x) :
  own_M l yN26 (Jvm.Cond.code yN26 jdk_43_method_2_code 2 (some .char) :: ws) ({ frames := 2, cells := 0, slots := 0, locals := 27 } : Room) #[(.ref b), (.int p2)] Z h0 (Q_rmLca Z b p2 k z vs dv x sf h0 n0) := by
 refine MetFree.of_bodySF (plainFor_of_name pn_5) hisR ?_
 intro p e s m args below meth c s₁ Bd hml0 hP hK
 obtain ⟨rfl, hZ, hh⟩ := hP
 have hx := Bd.exec
 have hby := Bd.bytes
 have hml : c.maxLocals = 2 := hml0
 have hown : s.vm.findClass "java/lang/StringLatin1" = some m.cls := findClass_of_methodNamed Bd.named
 have hnm := (name_of_methodNamed Bd.named Bd.method).1
 have X0 : Stand p l e ({ frames := 2, cells := 0, slots := 0, locals := 27 } : Room) s m #[(.ref b), (.int p2)] below meth c s₁ [] 0 0 := Stand.of_body Bd
 have hU : ∀ (i : Nat) (d : Jvm.Cond), tables_1[i]? = some d → d.before a0 Z = true := fun i d h => hw d (List.mem_of_getElem? h)
 have e0 : s₁.heap = h0 := by rw [← hh, Bd.state]; rfl
 have N0 := Fr.nil n0
 obtain ⟨f0, hf0⟩ : ∃ f : JFrame, f = mkF m 0 #[rv b, iv p2] [] := ⟨_, rfl⟩
 have pre0 : ∀ t, own_S p e below s₁ f0 t → Steps p.tables e below (s₁.setTop (entryFrame m #[(.ref b), (.int p2)] 2)) t := fun t k => castTop ((ef_rmLca m b p2).trans hf0.symm) k
 have R0 : own_R p e below s₁ (mkF m 0 #[rv b, iv p2] []) s₁ f0 := by rw [hf0]; exact fun t k => k
 have R1 : own_R p e below s₁ (mkF m 2 #[rv b, iv p2] [(.ref b), (.int p2)]) s₁ f0 := fun t k => R0 t (by
  refine XS.iloadN X0.here hx rfl (hb hby d24_0) rfl ?_
  refine XS.aloadN X0.here hx rfl (hb hby d24_1) rfl rfl ?_
  exact k)
 obtain ⟨cl2, Ar2, -, S2, N2_, -, -⟩ := id A_b
 have R3 : own_R p e below s₁ (mkF m 3 #[rv b, iv p2] [(.int z), (.int p2)]) s₁ f0 := fun t k => R1 t (X0.arraylength hx (by rw [e0]; exact Ar2.1) (State.isArrayOf_alike hZ.alike Ar2.2.1) (g := (mkF m 2 #[rv b, iv p2] [(.ref b), (.int p2)])) rfl rfl (hb hby d24_2) _ (by rw [len_of S2 N2_]; exact k))
 obtain ⟨_, _, ⟨T4, L4, k4, n4⟩, -, X4, ⟨Lc4, hQ4, l4, y4, z4⟩, st4⟩ := Jvm.LawKit.callS X0 hx (y := yN25) hown (mvT hZ (hU 119 _ rfl)) (mvT hZ (hU 120 _ rfl)) (mvT hZ (hU 7 _ rfl)) (mvT hZ (hU 121 _ rfl)) (by decide) (backOf (W := 0) (rmChk l Z a0 hw [] p2 z sf h0 n0 Z0 S_Preconditions_SIOOBE_FORMATTER hsf hlo hhi) hZ (hU 121 _ rfl) (hU 7 _ rfl) (by decide) (by decide)) (g := (mkF m 3 #[rv b, iv p2] [(.int z), (.int p2)])) rfl (by rw [hml]; rfl) (argsL := [(.int p2), (.int z)]) (rest := []) (lenOf pd_6 rfl) rfl (Nat.le_of_eq rfl) (hb hby d24_3) (fun _ _ => ⟨rfl, e0, (by decide : 0 + 0 ≤ _), (by decide : 0 + 0 ≤ _)⟩)
 dsimp only [Pt.U, Pt.locs, Pt.cells, Pt.slots] at X4 l4 y4 z4 st4 hQ4
 subst l4 y4 z4
 obtain ⟨rfl, N4q, p4_0⟩ := hQ4
 have N4 := Fr.app N0 N4q
 have R5 := fun t k => R3 t (st4 t k)
 have R6 : own_R p e below T4 (mkF m 8 #[rv b, iv p2] [(.int p2), (.ref b)]) s₁ f0 := fun t k => R5 t (by
  refine XS.aloadN X4.here hx rfl (hb hby d24_6) rfl rfl ?_
  refine XS.iloadN X4.here hx rfl (hb hby d24_7) rfl ?_
  exact k)
 obtain ⟨cl7, Ar7, q7, S7, n7_, H7, G7⟩ := id A_b
 have hin7 : ¬ (p2 < 0 ∨ cl7.slots.size ≤ (p2).toNatClampNeg) := inb_of S7 ⟨hlo, hhi⟩
 have hat7 : cl7.slots[(p2).toNatClampNeg]? = some (.int x) := Has.at H7 hin7 hat
 have R8 : own_R p e below T4 (mkF m 9 #[rv b, iv p2] [(.int x)]) s₁ f0 := fun t k => R6 t (X4.baloadBytes hx (j := p2) (v := (.int x)) (by rw [p4_0]; exact Ar7.1) (State.isArrayOf_alike hZ.alike Ar7.2.1) Ar7.2.2 hin7 hat7 (g := (mkF m 8 #[rv b, iv p2] [(.int p2), (.ref b)])) rfl rfl (hb hby d24_8) _ k)
 have R9 : own_R p e below T4 (mkF m 14 #[rv b, iv p2] [(.int ((x &&& (255 : Int32)).toUInt32.toUInt16.toUInt32.toInt32))]) s₁ f0 := fun t k => R8 t (by
  refine XS.sipush X4.here hx rfl (hb hby d24_9) ?_
  refine XS.iand X4.here hx rfl (hb hby d24_12) rfl ?_
  refine XS.i2c X4.here hx rfl (hb hby d24_13) rfl ?_
  exact k)
 obtain ⟨fs, hr, hrun, hended, hW, hsame⟩ := X4.leave (v := some (.int (nar .char ((x &&& (255 : Int32)).toUInt32.toUInt16.toUInt32.toInt32)))) (fun h => by rw [Bd.returns] at h; cases h)
 refine ⟨_, _, pre0 _ (R9 _ ?_), hrun, hended, _, _, rfl, ?_, ⟨_, rfl⟩, hW, hsame.mono (by decide) (by decide)⟩
 ·
  show own_S p e below T4 (mkF m 14 #[rv b, iv p2] [(.int ((x &&& (255 : Int32)).toUInt32.toUInt16.toUInt32.toInt32))]) _
  exact retN X4 hx (t := .char) Bd.returns (by simp) (hb hby d24_14) hr
 ·
  show Q_rmLca Z b p2 k z vs dv x sf h0 n0 _ T4.heap _
  rw [p4_0]
  exact ⟨rfl, N4, rfl⟩
theorem ef_rmCa (m : MethodId) (x0 : Addr) (x1 : Int32) : entryFrame m #[(.ref x0), (.int x1)] 2 = mkF m 0 #[rv x0, iv x1] [] := by first | (simp [entryFrame, mkF, argsToLocals, Value.category]; done) | rfl
def Q_rmCa (Z : State) (a1 : Addr) (p2 : Int32) (b : Addr) (k : ClassId) (z : Int32) (vs : List Value) (dv : Value) (x : Int32) (cs : Int32) (sf : Value) (h0 : Heap) (n0 : Nat) (v : Option Value) (h : Heap) (L : List Loc) : Prop := v = some (.int (own_ch x)) ∧ Fr n0 L ∧ h = h0
set_option maxRecDepth 65536 in
set_option maxHeartbeats 40000000 in
theorem rmCa (l : Launch) (Z : State) (a0 : Array Value) (hw : ∀ d ∈ tables_1, d.before a0 Z = true) (ws : List Jvm.Cond) (a1 : Addr) (p2 : Int32) (b : Addr) (k : ClassId) (z : Int32) (vs : List Value) (dv : Value) (x : Int32) (cs : Int32) (sf : Value) (h0 : Heap) (n0 : Nat) (Z0 : n0 ≤ h0.size) (E_a1 : Exa Z h0 a1 "java/lang/String") (F_coder_a1 : Fld Z h0 a1 "java/lang/String" "coder" "B" (.int 0)) (F_value_a1 : Fld Z h0 a1 "java/lang/String" "value" "[B" (.ref b)) (A_b : Arv Z h0 b k .byte z vs dv) (S_String_COMPACT_STRINGS : Sta Z h0 "java/lang/String" "COMPACT_STRINGS" "Z" (.int cs)) (hcs : ¬ cs = (0 : Int32)) (S_Preconditions_SIOOBE_FORMATTER : Sta Z h0 sN2 "SIOOBE_FORMATTER" sN3 sf) (hsf : sf.isRef = true) (hlo : ¬ p2 < (0 : Int32)) (hhi : p2 < z) (hat : vs.getD (p2).toNatClampNeg dv = .int x) :
  own_M l yN1 (Jvm.Cond.code yN1 jdk_42_method_56_code 2 (some .char) :: ws) ({ frames := 3, cells := 0, slots := 0, locals := 40 } : Room) #[(.ref a1), (.int p2)] Z h0 (Q_rmCa Z a1 p2 b k z vs dv x cs sf h0 n0) := by
 refine MetFree.of_bodySF (plainFor_of_name pn_1) hisR ?_
 intro p e s m args below meth c s₁ Bd hml0 hP hK
 obtain ⟨rfl, hZ, hh⟩ := hP
 have hx := Bd.exec
 have hby := Bd.bytes
 have hml : c.maxLocals = 2 := hml0
 have hown : s.vm.findClass "java/lang/String" = some m.cls := findClass_of_methodNamed Bd.named
 have hnm := (name_of_methodNamed Bd.named Bd.method).1
 have X0 : Stand p l e ({ frames := 3, cells := 0, slots := 0, locals := 40 } : Room) s m #[(.ref a1), (.int p2)] below meth c s₁ [] 0 0 := Stand.of_body Bd
 have hU : ∀ (i : Nat) (d : Jvm.Cond), tables_1[i]? = some d → d.before a0 Z = true := fun i d h => hw d (List.mem_of_getElem? h)
 have e0 : s₁.heap = h0 := by rw [← hh, Bd.state]; rfl
 have N0 := Fr.nil n0
 obtain ⟨f0, hf0⟩ : ∃ f : JFrame, f = mkF m 0 #[rv a1, iv p2] [] := ⟨_, rfl⟩
 have pre0 : ∀ t, own_S p e below s₁ f0 t → Steps p.tables e below (s₁.setTop (entryFrame m #[(.ref a1), (.int p2)] 2)) t := fun t k => castTop ((ef_rmCa m a1 p2).trans hf0.symm) k
 have R0 : own_R p e below s₁ (mkF m 0 #[rv a1, iv p2] []) s₁ f0 := by rw [hf0]; exact fun t k => k
 have R1 : own_R p e below s₁ (mkF m 1 #[rv a1, iv p2] [(.ref a1)]) s₁ f0 := fun t k => R0 t (by
  refine XS.aloadN X0.here hx rfl (hb hby d23_0) rfl rfl ?_
  exact k)
 obtain ⟨cq2, kq2, q2a, q2b, q2c⟩ := isOf hZ e0 E_a1
 obtain ⟨_, _, ⟨T2, L2, k2, n2⟩, -, X2, ⟨Lc2, hQ2, l2, y2, z2⟩, st2⟩ := X0.virtualBack hx (y := yN12) (z := yN12) hown (mvT hZ (hU 66 _ rfl)) (mvT hZ (hU 67 _ rfl)) (notFace_of_selects (args := #[]) (mvT hZ (hU 69 _ rfl))) (mvT hZ (hU 69 _ rfl)) (mvT hZ (hU 68 _ rfl)) (by decide) (backOf (W := 0) (rmLat l Z a0 hw [] a1 cs h0 n0 Z0 S_String_COMPACT_STRINGS hcs F_coder_a1) hZ (hU 70 _ rfl) (hU 7 _ rfl) (by decide) (by decide)) q2a q2c (g := (mkF m 1 #[rv a1, iv p2] [(.ref a1)])) rfl (by rw [hml]; rfl) (Steps.refl _) (argsL := []) (rest := []) (lenOf pd_7 rfl) rfl (Nat.le_of_eq rfl) (hb hby d23_1) (fun _ _ => ⟨rfl, e0, (by decide : 0 + 0 ≤ _), (by decide : 0 + 0 ≤ _)⟩)
 dsimp only [Pt.U, Pt.locs, Pt.cells, Pt.slots] at X2 l2 y2 z2 st2 hQ2
 subst l2 y2 z2
 obtain ⟨rfl, N2q, p2_0⟩ := hQ2
 have N2 := Fr.app N0 N2q
 have R3 := fun t k => R1 t (st2.trans k)
 have R4 : own_R p e below T2 (mkF m 8 #[rv a1, iv p2] [(.ref a1)]) s₁ f0 := fun t k => R3 t (by
  refine XS.ifNo X2.here hx rfl (hb hby d23_4) rfl ((if0 _ _).trans (feq (by decide : ¬ ((1 : Int32) = (0 : Int32)))).1) ?_
  refine XS.aloadN X2.here hx rfl (hb hby d23_7) rfl rfl ?_
  exact k)
 obtain ⟨T5, X5, e5, R6⟩ := own_gF R4 X2 hx hZ hown (host := "") (Or.inl (hU 27 _ rfl)) Via.refl p2_0 F_value_a1 rfl rfl (hb hby d23_8)
 have R7 : own_R p e below T5 (mkF m 12 #[rv a1, iv p2] [(.int p2), (.ref b)]) s₁ f0 := fun t k => R6 t (by
  refine XS.iloadN X5.here hx rfl (hb hby d23_11) rfl ?_
  exact k)
 obtain ⟨_, _, ⟨T8, L8, k8, n8⟩, -, X8, ⟨Lc8, hQ8, l8, y8, z8⟩, st8⟩ := Jvm.LawKit.callS X5 hx (y := yN26) hown (mvT hZ (hU 116 _ rfl)) (mvT hZ (hU 117 _ rfl)) (mvT hZ (hU 73 _ rfl)) (mvT hZ (hU 118 _ rfl)) (by decide) (backOf (W := 0) (rmLca l Z a0 hw [] b p2 k z vs dv x sf h0 n0 Z0 A_b S_Preconditions_SIOOBE_FORMATTER hsf hlo hhi hat) hZ (hU 118 _ rfl) (hU 73 _ rfl) (by decide) (by decide)) (g := (mkF m 12 #[rv a1, iv p2] [(.int p2), (.ref b)])) rfl (by rw [hml]; rfl) (argsL := [(.ref b), (.int p2)]) (rest := []) (lenOf pd_8 rfl) rfl (Nat.le_of_eq rfl) (hb hby d23_12) (fun _ _ => ⟨rfl, e5, (by decide : 0 + 0 ≤ _), (by decide : 0 + 0 ≤ _)⟩)
 dsimp only [Pt.U, Pt.locs, Pt.cells, Pt.slots] at X8 l8 y8 z8 st8 hQ8
 subst l8 y8 z8
 obtain ⟨rfl, N8q, p8_0⟩ := hQ8
 have N8 := Fr.app N2 N8q
 have R9 := fun t k => R7 t (st8 t k)
 obtain ⟨fs, hr, hrun, hended, hW, hsame⟩ := X8.leave (v := some (.int (nar .char (own_ch x)))) (fun h => by rw [Bd.returns] at h; cases h)
 refine ⟨_, _, pre0 _ (R9 _ ?_), hrun, hended, _, _, rfl, ?_, ⟨_, rfl⟩, hW, hsame.mono (by decide) (by decide)⟩
 ·
  show own_S p e below T8 (mkF m 15 #[rv a1, iv p2] [(.int (own_ch x))]) _
  exact retN X8 hx (t := .char) Bd.returns (by simp) (hb hby d23_15) hr
 ·
  show Q_rmCa Z a1 p2 b k z vs dv x cs sf h0 n0 _ T8.heap _
  rw [p8_0]
  exact ⟨(by rw [own_chn]), N8, rfl⟩
def Q_rmCp (Z : State) (p2 : Int32) (ys : List Value) (h0 : Heap) (n0 : Nat) (v : Option Value) (h : Heap) (L : List Loc) : Prop := ∃ b2 : Addr, ∃ kb2 : ClassId, v = some (.ref b2) ∧ Fr n0 L ∧ Keep h0 h [] ∧ (Arv Z h b2 kb2 .byte p2 ys (.int 0)) ∧ (h0.size ≤ b2)
def Q_rmNw (Z : State) (p2 : Int32) (ys : List Value) (h0 : Heap) (n0 : Nat) (v : Option Value) (h : Heap) (L : List Loc) : Prop := ∃ r : Addr, ∃ b2 : Addr, ∃ kb2 : ClassId, v = some (.ref r) ∧ Fr n0 L ∧ Keep h0 h [] ∧ (Exa Z h r "java/lang/String") ∧ (Fld Z h r "java/lang/String" "coder" "B" (.int 0)) ∧ (Fld Z h r "java/lang/String" "value" "[B" (.ref b2)) ∧ (Arv Z h b2 kb2 .byte p2 ys (.int 0)) ∧ (h0.size ≤ r) ∧ (h0.size ≤ b2)
def Q_rmNe (Z : State)  (h0 : Heap) (n0 : Nat) (v : Option Value) (h : Heap) (L : List Loc) : Prop := ∃ r : Addr, ∃ b2 : Addr, ∃ kb2 : ClassId, v = some (.ref r) ∧ Fr n0 L ∧ Keep h0 h [] ∧ (Exa Z h r "java/lang/String") ∧ (Fld Z h r "java/lang/String" "coder" "B" (.int 0)) ∧ (Fld Z h r "java/lang/String" "value" "[B" (.ref b2)) ∧ (Arv Z h b2 kb2 .byte (0 : Int32) [] (.int 0))
def Q_rmId (Z : State) (a1 : Addr) (h0 : Heap) (n0 : Nat) (v : Option Value) (h : Heap) (L : List Loc) : Prop := v = some (.ref a1) ∧ Fr n0 L ∧ h = h0
def Q_rmI (Z : State) (kk : Int32) (h0 : Heap) (n0 : Nat) (v : Option Value) (h : Heap) (L : List Loc) : Prop := v = some (.int kk) ∧ Fr n0 L ∧ h = h0
theorem ef_rmCompI4 (m : MethodId) (x0 : Addr) (x1 : Int32) (x2 : Addr) (x3 : Int32) (x4 : Int32) : entryFrame m #[(.ref x0), (.int x1), (.ref x2), (.int x3), (.int x4)] 7 = mkF m 0 (fA51 x0 x1 x2 x3 x4) [] := by first | (simp [entryFrame, mkF, argsToLocals, Value.category]; done) | rfl
def Q_rmCompI4 (Z : State) (a1 : Addr) (k1 : ClassId) (a3 : Addr) (k3 : ClassId) (x0 : Int32) (x1 : Int32) (x2 : Int32) (x3 : Int32) (h0 : Heap) (n0 : Nat) (v : Option Value) (h : Heap) (L : List Loc) : Prop := v = some (.int 4) ∧ Fr n0 L ∧ Keep h0 h [a3] ∧ (Arv Z h a3 k3 .byte (4 : Int32) [(.int (nar .byte (x0.toInt8.toInt32))), (.int (nar .byte (x1.toInt8.toInt32))), (.int (nar .byte (x2.toInt8.toInt32))), (.int (nar .byte (x3.toInt8.toInt32)))] (.int 0))
set_option maxRecDepth 65536 in
set_option maxHeartbeats 40000000 in
theorem rmCompI4 (l : Launch) (Z : State) (a0 : Array Value) (hw : ∀ d ∈ tables_1, d.before a0 Z = true) (ws : List Jvm.Cond) (a1 : Addr) (k1 : ClassId) (a3 : Addr) (k3 : ClassId) (x0 : Int32) (x1 : Int32) (x2 : Int32) (x3 : Int32) (h0 : Heap) (n0 : Nat) (Z0 : n0 ≤ h0.size) (A_a1 : Arv Z h0 a1 k1 .char (4 : Int32) [(.int x0), (.int x1), (.int x2), (.int x3)] (.int 0)) (A_a3 : Arv Z h0 a3 k3 .byte (4 : Int32) [(.int 0), (.int 0), (.int 0), (.int 0)] (.int 0)) (g_a3 : n0 ≤ a3) (ne_a1_a3 : a1 ≠ a3) (hx0 : ¬ (255 : Int32) < x0) (hx1 : ¬ (255 : Int32) < x1) (hx2 : ¬ (255 : Int32) < x2) (hx3 : ¬ (255 : Int32) < x3) :
  own_M l yN9 (Jvm.Cond.code yN9 jdk_52_method_21_code 7 (some .int) :: ws) ({ frames := 0, cells := 0, slots := 0, locals := 0 } : Room) #[(.ref a1), (.int 0), (.ref a3), (.int 0), (.int 4)] Z h0 (Q_rmCompI4 Z a1 k1 a3 k3 x0 x1 x2 x3 h0 n0) := by
 refine MetFree.of_bodySF (plainFor_of_name pn_9) hisR ?_
 intro p e s m args below meth c s₁ Bd hml0 hP hK
 obtain ⟨rfl, hZ, hh⟩ := hP
 have hx := Bd.exec
 have hby := Bd.bytes
 have hml : c.maxLocals = 7 := hml0
 have hown : s.vm.findClass "java/lang/StringUTF16" = some m.cls := findClass_of_methodNamed Bd.named
 have hnm := (name_of_methodNamed Bd.named Bd.method).1
 have X0 : Stand p l e ({ frames := 0, cells := 0, slots := 0, locals := 0 } : Room) s m #[(.ref a1), (.int 0), (.ref a3), (.int 0), (.int 4)] below meth c s₁ [] 0 0 := Stand.of_body Bd
 have hU : ∀ (i : Nat) (d : Jvm.Cond), tables_1[i]? = some d → d.before a0 Z = true := fun i d h => hw d (List.mem_of_getElem? h)
 have e0 : s₁.heap = h0 := by rw [← hh, Bd.state]; rfl
 have N0 := Fr.nil n0
 obtain ⟨f0, hf0⟩ : ∃ f : JFrame, f = mkF m 0 #[rv a1, iv 0, rv a3, iv 0, iv 4, .unset, .unset] [] := ⟨_, rfl⟩
 have pre0 : ∀ t, own_S p e below s₁ f0 t → Steps p.tables e below (s₁.setTop (entryFrame m #[(.ref a1), (.int 0), (.ref a3), (.int 0), (.int 4)] 7)) t := fun t k => castTop ((ef_rmCompI4 m a1 (0 : Int32) a3 (0 : Int32) (4 : Int32)).trans hf0.symm) k
 have R0 : own_R p e below s₁ (mkF m 0 #[rv a1, iv 0, rv a3, iv 0, iv 4, .unset, .unset] []) s₁ f0 := by rw [hf0]; exact fun t k => k
 have R1 : own_R p e below s₁ (mkF m 12 (fA52 a1 a3) [(.int 0), (.ref a1)]) s₁ f0 := fun t k => R0 t (by
  refine XS.iconst X0.here hx rfl (hb hby d21_0) ?_
  refine XS.istore X0.here hx rfl (hb hby d21_1) rfl (l' := (fA52 a1 a3)) rfl ?_
  refine XS.iload X0.here hx rfl (hb hby d21_3) rfl ?_
  refine XS.iload X0.here hx rfl (hb hby d21_5) rfl ?_
  refine XS.icmpNo X0.here hx rfl (hb hby d21_7) rfl (tlt (by decide : (0 : Int32) < (4 : Int32))).2.1 ?_
  refine XS.aloadN X0.here hx rfl (hb hby d21_10) rfl rfl ?_
  refine XS.iloadN X0.here hx rfl (hb hby d21_11) rfl ?_
  exact k)
 obtain ⟨cl2, Ar2, q2, S2, n2_, H2, G2⟩ := id A_a1
 have hin2 : ¬ ((0 : Int32) < 0 ∨ cl2.slots.size ≤ ((0 : Int32)).toNatClampNeg) := inb_of S2 ⟨by decide, by decide⟩
 have hat2 : cl2.slots[((0 : Int32)).toNatClampNeg]? = some (.int x0) := Has.at H2 hin2 rfl
 have R3 : own_R p e below s₁ (mkF m 13 (fA52 a1 a3) [(.int x0)]) s₁ f0 := fun t k => R1 t (X0.caload hx (j := (0 : Int32)) (v := (.int x0)) (by rw [e0]; exact Ar2.1) (State.isArrayOf_alike hZ.alike Ar2.2.1) Ar2.2.2 hin2 hat2 (g := (mkF m 12 (fA52 a1 a3) [(.int 0), (.ref a1)])) rfl rfl (hb hby d21_12) _ k)
 have R4 : own_R p e below s₁ (mkF m 31 #[rv a1, iv 0, rv a3, iv 0, iv 4, iv 0, iv x0] [(.int (x0.toInt8.toInt32)), (.int 0), (.ref a3)]) s₁ f0 := fun t k => R3 t (by
  refine XS.istore X0.here hx rfl (hb hby d21_13) rfl (l' := #[rv a1, iv 0, rv a3, iv 0, iv 4, iv 0, iv x0]) rfl ?_
  refine XS.iload X0.here hx rfl (hb hby d21_15) rfl ?_
  refine XS.sipush X0.here hx rfl (hb hby d21_17) ?_
  refine XS.icmpYes X0.here hx rfl (pc0 := 20) (pc' := 26) rfl (hb hby d21_20) rfl (flt hx0).2.2.2 (by decide) (by decide) ?_
  refine XS.aloadN X0.here hx rfl (hb hby d21_26) rfl rfl ?_
  refine XS.iloadN X0.here hx rfl (hb hby d21_27) rfl ?_
  refine XS.iload X0.here hx rfl (hb hby d21_28) rfl ?_
  refine XS.i2b X0.here hx rfl (hb hby d21_30) rfl ?_
  exact k)
 obtain ⟨cl5, Ar5, q5, S5, n5_, H5, G5⟩ := id A_a3
 have hin5 : ¬ ((0 : Int32) < 0 ∨ cl5.slots.size ≤ ((0 : Int32)).toNatClampNeg) := inb_of S5 ⟨by decide, by decide⟩
 obtain ⟨T5, h5, X5, e5, W5, st5⟩ := stB X0 hx hZ e0 Ar5 (j := (0 : Int32)) hin5 (g := (mkF m 31 #[rv a1, iv 0, rv a3, iv 0, iv 4, iv 0, iv x0] [(.int (x0.toInt8.toInt32)), (.int 0), (.ref a3)])) rfl rfl (hb hby d21_31)
 have f5_A_a1 := A_a1.other W5 ne_a1_a3
 have z5 : n0 ≤ h5.size := by rw [W5.size]; exact Z0
 have K5 : Keep h0 h5 [a3] := (Keep.refl h0 [a3]).wr W5 (Or.inl (List.mem_of_getElem? (i := 0) rfl))
 have v5 : Arv Z h5 a3 k3 .byte (4 : Int32) [(.int (nar .byte (x0.toInt8.toInt32))), (.int 0), (.int 0), (.int 0)] (.int 0) := Arv.set Ar5 q5 S5 n5_ H5 G5 (fits_nar_byte _) W5 0 rfl (Nat.le_of_ble_eq_true rfl)
 have N5 := Fr.snoc X5 N0 g_a3
 have R6 := fun t k => R4 t (st5 t k)
 have R7 : own_R p e below T5 (mkF m 12 (fA57 a1 a3 x0) [(.int 1), (.ref a1)]) s₁ f0 := fun t k => R6 t (by
  refine XS.iinc X5.here hx rfl (hb hby d21_32) rfl (l' := #[rv a1, iv 1, rv a3, iv 0, iv 4, iv 0, iv x0]) rfl ?_
  refine XS.iinc X5.here hx rfl (hb hby d21_35) rfl (l' := #[rv a1, iv 1, rv a3, iv 1, iv 4, iv 0, iv x0]) rfl ?_
  refine XS.iinc X5.here hx rfl (hb hby d21_38) rfl (l' := (fA57 a1 a3 x0)) rfl ?_
  refine XS.goto X5.here hx rfl (pc0 := 41) (pc' := 3) rfl (hb hby d21_41) (by decide) (by decide) ?_
  refine XS.iload X5.here hx rfl (hb hby d21_3) rfl ?_
  refine XS.iload X5.here hx rfl (hb hby d21_5) rfl ?_
  refine XS.icmpNo X5.here hx rfl (hb hby d21_7) rfl (tlt (by decide : (1 : Int32) < (4 : Int32))).2.1 ?_
  refine XS.aloadN X5.here hx rfl (hb hby d21_10) rfl rfl ?_
  refine XS.iloadN X5.here hx rfl (hb hby d21_11) rfl ?_
  exact k)
 obtain ⟨cl8, Ar8, q8, S8, n8_, H8, G8⟩ := id f5_A_a1
 have hin8 : ¬ ((1 : Int32) < 0 ∨ cl8.slots.size ≤ ((1 : Int32)).toNatClampNeg) := inb_of S8 ⟨by decide, by decide⟩
 have hat8 : cl8.slots[((1 : Int32)).toNatClampNeg]? = some (.int x1) := Has.at H8 hin8 rfl
 have R9 : own_R p e below T5 (mkF m 13 (fA57 a1 a3 x0) [(.int x1)]) s₁ f0 := fun t k => R7 t (X5.caload hx (j := (1 : Int32)) (v := (.int x1)) (by rw [e5]; exact Ar8.1) (State.isArrayOf_alike hZ.alike Ar8.2.1) Ar8.2.2 hin8 hat8 (g := (mkF m 12 (fA57 a1 a3 x0) [(.int 1), (.ref a1)])) rfl rfl (hb hby d21_12) _ k)
 have R10 : own_R p e below T5 (mkF m 31 #[rv a1, iv 1, rv a3, iv 1, iv 4, iv 1, iv x1] [(.int (x1.toInt8.toInt32)), (.int 1), (.ref a3)]) s₁ f0 := fun t k => R9 t (by
  refine XS.istore X5.here hx rfl (hb hby d21_13) rfl (l' := #[rv a1, iv 1, rv a3, iv 1, iv 4, iv 1, iv x1]) rfl ?_
  refine XS.iload X5.here hx rfl (hb hby d21_15) rfl ?_
  refine XS.sipush X5.here hx rfl (hb hby d21_17) ?_
  refine XS.icmpYes X5.here hx rfl (pc0 := 20) (pc' := 26) rfl (hb hby d21_20) rfl (flt hx1).2.2.2 (by decide) (by decide) ?_
  refine XS.aloadN X5.here hx rfl (hb hby d21_26) rfl rfl ?_
  refine XS.iloadN X5.here hx rfl (hb hby d21_27) rfl ?_
  refine XS.iload X5.here hx rfl (hb hby d21_28) rfl ?_
  refine XS.i2b X5.here hx rfl (hb hby d21_30) rfl ?_
  exact k)
 obtain ⟨cl11, Ar11, q11, S11, n11_, H11, G11⟩ := id v5
 have hin11 : ¬ ((1 : Int32) < 0 ∨ cl11.slots.size ≤ ((1 : Int32)).toNatClampNeg) := inb_of S11 ⟨by decide, by decide⟩
 obtain ⟨T11, h11, X11, e11, W11, st11⟩ := stB X5 hx hZ e5 Ar11 (j := (1 : Int32)) hin11 (g := (mkF m 31 #[rv a1, iv 1, rv a3, iv 1, iv 4, iv 1, iv x1] [(.int (x1.toInt8.toInt32)), (.int 1), (.ref a3)])) rfl rfl (hb hby d21_31)
 have f11_A_a1 := f5_A_a1.other W11 ne_a1_a3
 have z11 : n0 ≤ h11.size := by rw [W11.size]; exact z5
 have K11 : Keep h0 h11 [a3] := K5.wr W11 (Or.inl (List.mem_of_getElem? (i := 0) rfl))
 have v11 : Arv Z h11 a3 k3 .byte (4 : Int32) [(.int (nar .byte (x0.toInt8.toInt32))), (.int (nar .byte (x1.toInt8.toInt32))), (.int 0), (.int 0)] (.int 0) := Arv.set Ar11 q11 S11 n11_ H11 G11 (fits_nar_byte _) W11 1 rfl (Nat.le_of_ble_eq_true rfl)
 have N11 := Fr.snoc X11 N5 g_a3
 have R12 := fun t k => R10 t (st11 t k)
 have R13 : own_R p e below T11 (mkF m 12 (fA58 a1 a3 x1) [(.int 2), (.ref a1)]) s₁ f0 := fun t k => R12 t (by
  refine XS.iinc X11.here hx rfl (hb hby d21_32) rfl (l' := #[rv a1, iv 2, rv a3, iv 1, iv 4, iv 1, iv x1]) rfl ?_
  refine XS.iinc X11.here hx rfl (hb hby d21_35) rfl (l' := #[rv a1, iv 2, rv a3, iv 2, iv 4, iv 1, iv x1]) rfl ?_
  refine XS.iinc X11.here hx rfl (hb hby d21_38) rfl (l' := (fA58 a1 a3 x1)) rfl ?_
  refine XS.goto X11.here hx rfl (pc0 := 41) (pc' := 3) rfl (hb hby d21_41) (by decide) (by decide) ?_
  refine XS.iload X11.here hx rfl (hb hby d21_3) rfl ?_
  refine XS.iload X11.here hx rfl (hb hby d21_5) rfl ?_
  refine XS.icmpNo X11.here hx rfl (hb hby d21_7) rfl (tlt (by decide : (2 : Int32) < (4 : Int32))).2.1 ?_
  refine XS.aloadN X11.here hx rfl (hb hby d21_10) rfl rfl ?_
  refine XS.iloadN X11.here hx rfl (hb hby d21_11) rfl ?_
  exact k)
 obtain ⟨cl14, Ar14, q14, S14, n14_, H14, G14⟩ := id f11_A_a1
 have hin14 : ¬ ((2 : Int32) < 0 ∨ cl14.slots.size ≤ ((2 : Int32)).toNatClampNeg) := inb_of S14 ⟨by decide, by decide⟩
 have hat14 : cl14.slots[((2 : Int32)).toNatClampNeg]? = some (.int x2) := Has.at H14 hin14 rfl
 have R15 : own_R p e below T11 (mkF m 13 (fA58 a1 a3 x1) [(.int x2)]) s₁ f0 := fun t k => R13 t (X11.caload hx (j := (2 : Int32)) (v := (.int x2)) (by rw [e11]; exact Ar14.1) (State.isArrayOf_alike hZ.alike Ar14.2.1) Ar14.2.2 hin14 hat14 (g := (mkF m 12 (fA58 a1 a3 x1) [(.int 2), (.ref a1)])) rfl rfl (hb hby d21_12) _ k)
 have R16 : own_R p e below T11 (mkF m 31 #[rv a1, iv 2, rv a3, iv 2, iv 4, iv 2, iv x2] [(.int (x2.toInt8.toInt32)), (.int 2), (.ref a3)]) s₁ f0 := fun t k => R15 t (by
  refine XS.istore X11.here hx rfl (hb hby d21_13) rfl (l' := #[rv a1, iv 2, rv a3, iv 2, iv 4, iv 2, iv x2]) rfl ?_
  refine XS.iload X11.here hx rfl (hb hby d21_15) rfl ?_
  refine XS.sipush X11.here hx rfl (hb hby d21_17) ?_
  refine XS.icmpYes X11.here hx rfl (pc0 := 20) (pc' := 26) rfl (hb hby d21_20) rfl (flt hx2).2.2.2 (by decide) (by decide) ?_
  refine XS.aloadN X11.here hx rfl (hb hby d21_26) rfl rfl ?_
  refine XS.iloadN X11.here hx rfl (hb hby d21_27) rfl ?_
  refine XS.iload X11.here hx rfl (hb hby d21_28) rfl ?_
  refine XS.i2b X11.here hx rfl (hb hby d21_30) rfl ?_
  exact k)
 obtain ⟨cl17, Ar17, q17, S17, n17_, H17, G17⟩ := id v11
 have hin17 : ¬ ((2 : Int32) < 0 ∨ cl17.slots.size ≤ ((2 : Int32)).toNatClampNeg) := inb_of S17 ⟨by decide, by decide⟩
 obtain ⟨T17, h17, X17, e17, W17, st17⟩ := stB X11 hx hZ e11 Ar17 (j := (2 : Int32)) hin17 (g := (mkF m 31 #[rv a1, iv 2, rv a3, iv 2, iv 4, iv 2, iv x2] [(.int (x2.toInt8.toInt32)), (.int 2), (.ref a3)])) rfl rfl (hb hby d21_31)
 have f17_A_a1 := f11_A_a1.other W17 ne_a1_a3
 have z17 : n0 ≤ h17.size := by rw [W17.size]; exact z11
 have K17 : Keep h0 h17 [a3] := K11.wr W17 (Or.inl (List.mem_of_getElem? (i := 0) rfl))
 have v17 : Arv Z h17 a3 k3 .byte (4 : Int32) [(.int (nar .byte (x0.toInt8.toInt32))), (.int (nar .byte (x1.toInt8.toInt32))), (.int (nar .byte (x2.toInt8.toInt32))), (.int 0)] (.int 0) := Arv.set Ar17 q17 S17 n17_ H17 G17 (fits_nar_byte _) W17 2 rfl (Nat.le_of_ble_eq_true rfl)
 have N17 := Fr.snoc X17 N11 g_a3
 have R18 := fun t k => R16 t (st17 t k)
 have R19 : own_R p e below T17 (mkF m 12 (fA59 a1 a3 x2) [(.int 3), (.ref a1)]) s₁ f0 := fun t k => R18 t (by
  refine XS.iinc X17.here hx rfl (hb hby d21_32) rfl (l' := #[rv a1, iv 3, rv a3, iv 2, iv 4, iv 2, iv x2]) rfl ?_
  refine XS.iinc X17.here hx rfl (hb hby d21_35) rfl (l' := #[rv a1, iv 3, rv a3, iv 3, iv 4, iv 2, iv x2]) rfl ?_
  refine XS.iinc X17.here hx rfl (hb hby d21_38) rfl (l' := (fA59 a1 a3 x2)) rfl ?_
  refine XS.goto X17.here hx rfl (pc0 := 41) (pc' := 3) rfl (hb hby d21_41) (by decide) (by decide) ?_
  refine XS.iload X17.here hx rfl (hb hby d21_3) rfl ?_
  refine XS.iload X17.here hx rfl (hb hby d21_5) rfl ?_
  refine XS.icmpNo X17.here hx rfl (hb hby d21_7) rfl (tlt (by decide : (3 : Int32) < (4 : Int32))).2.1 ?_
  refine XS.aloadN X17.here hx rfl (hb hby d21_10) rfl rfl ?_
  refine XS.iloadN X17.here hx rfl (hb hby d21_11) rfl ?_
  exact k)
 obtain ⟨cl20, Ar20, q20, S20, n20_, H20, G20⟩ := id f17_A_a1
 have hin20 : ¬ ((3 : Int32) < 0 ∨ cl20.slots.size ≤ ((3 : Int32)).toNatClampNeg) := inb_of S20 ⟨by decide, by decide⟩
 have hat20 : cl20.slots[((3 : Int32)).toNatClampNeg]? = some (.int x3) := Has.at H20 hin20 rfl
 have R21 : own_R p e below T17 (mkF m 13 (fA59 a1 a3 x2) [(.int x3)]) s₁ f0 := fun t k => R19 t (X17.caload hx (j := (3 : Int32)) (v := (.int x3)) (by rw [e17]; exact Ar20.1) (State.isArrayOf_alike hZ.alike Ar20.2.1) Ar20.2.2 hin20 hat20 (g := (mkF m 12 (fA59 a1 a3 x2) [(.int 3), (.ref a1)])) rfl rfl (hb hby d21_12) _ k)
 have R22 : own_R p e below T17 (mkF m 31 #[rv a1, iv 3, rv a3, iv 3, iv 4, iv 3, iv x3] [(.int (x3.toInt8.toInt32)), (.int 3), (.ref a3)]) s₁ f0 := fun t k => R21 t (by
  refine XS.istore X17.here hx rfl (hb hby d21_13) rfl (l' := #[rv a1, iv 3, rv a3, iv 3, iv 4, iv 3, iv x3]) rfl ?_
  refine XS.iload X17.here hx rfl (hb hby d21_15) rfl ?_
  refine XS.sipush X17.here hx rfl (hb hby d21_17) ?_
  refine XS.icmpYes X17.here hx rfl (pc0 := 20) (pc' := 26) rfl (hb hby d21_20) rfl (flt hx3).2.2.2 (by decide) (by decide) ?_
  refine XS.aloadN X17.here hx rfl (hb hby d21_26) rfl rfl ?_
  refine XS.iloadN X17.here hx rfl (hb hby d21_27) rfl ?_
  refine XS.iload X17.here hx rfl (hb hby d21_28) rfl ?_
  refine XS.i2b X17.here hx rfl (hb hby d21_30) rfl ?_
  exact k)
 obtain ⟨cl23, Ar23, q23, S23, n23_, H23, G23⟩ := id v17
 have hin23 : ¬ ((3 : Int32) < 0 ∨ cl23.slots.size ≤ ((3 : Int32)).toNatClampNeg) := inb_of S23 ⟨by decide, by decide⟩
 obtain ⟨T23, h23, X23, e23, W23, st23⟩ := stB X17 hx hZ e17 Ar23 (j := (3 : Int32)) hin23 (g := (mkF m 31 #[rv a1, iv 3, rv a3, iv 3, iv 4, iv 3, iv x3] [(.int (x3.toInt8.toInt32)), (.int 3), (.ref a3)])) rfl rfl (hb hby d21_31)
 have f23_A_a1 := f17_A_a1.other W23 ne_a1_a3
 have z23 : n0 ≤ h23.size := by rw [W23.size]; exact z17
 have K23 : Keep h0 h23 [a3] := K17.wr W23 (Or.inl (List.mem_of_getElem? (i := 0) rfl))
 have v23 : Arv Z h23 a3 k3 .byte (4 : Int32) [(.int (nar .byte (x0.toInt8.toInt32))), (.int (nar .byte (x1.toInt8.toInt32))), (.int (nar .byte (x2.toInt8.toInt32))), (.int (nar .byte (x3.toInt8.toInt32)))] (.int 0) := Arv.set Ar23 q23 S23 n23_ H23 G23 (fits_nar_byte _) W23 3 rfl (Nat.le_of_ble_eq_true rfl)
 have N23 := Fr.snoc X23 N17 g_a3
 have R24 := fun t k => R22 t (st23 t k)
 have R25 : own_R p e below T23 (mkF m 46 #[rv a1, iv 4, rv a3, iv 4, iv 4, iv 4, iv x3] [(.int 4)]) s₁ f0 := fun t k => R24 t (by
  refine XS.iinc X23.here hx rfl (hb hby d21_32) rfl (l' := #[rv a1, iv 4, rv a3, iv 3, iv 4, iv 3, iv x3]) rfl ?_
  refine XS.iinc X23.here hx rfl (hb hby d21_35) rfl (l' := #[rv a1, iv 4, rv a3, iv 4, iv 4, iv 3, iv x3]) rfl ?_
  refine XS.iinc X23.here hx rfl (hb hby d21_38) rfl (l' := #[rv a1, iv 4, rv a3, iv 4, iv 4, iv 4, iv x3]) rfl ?_
  refine XS.goto X23.here hx rfl (pc0 := 41) (pc' := 3) rfl (hb hby d21_41) (by decide) (by decide) ?_
  refine XS.iload X23.here hx rfl (hb hby d21_3) rfl ?_
  refine XS.iload X23.here hx rfl (hb hby d21_5) rfl ?_
  refine XS.icmpYes X23.here hx rfl (pc0 := 7) (pc' := 44) rfl (hb hby d21_7) rfl (flt (by decide : ¬ ((4 : Int32) < (4 : Int32)))).2.1 (by decide) (by decide) ?_
  refine XS.iload X23.here hx rfl (hb hby d21_44) rfl ?_
  exact k)
 obtain ⟨fs, hr, hrun, hended, hW, hsame⟩ := X23.leave (v := some (.int 4)) (fun h => by rw [Bd.returns] at h; cases h)
 refine ⟨_, _, pre0 _ (R25 _ ?_), hrun, hended, _, _, rfl, ?_, ⟨_, rfl⟩, hW, hsame.mono (by decide) (by decide)⟩
 ·
  show own_S p e below T23 (mkF m 46 #[rv a1, iv 4, rv a3, iv 4, iv 4, iv 4, iv x3] [(.int 4)]) _
  exact retI X23 hx Bd.returns (hb hby d21_46) hr
 ·
  show Q_rmCompI4 Z a1 k1 a3 k3 x0 x1 x2 x3 h0 n0 _ T23.heap _
  rw [e23]
  exact ⟨rfl, N23, K23, v23⟩
theorem ef_rmComp4 (m : MethodId) (x0 : Addr) (x1 : Int32) (x2 : Int32) : entryFrame m #[(.ref x0), (.int x1), (.int x2)] 6 = mkF m 0 (fA60 x0 x1 x2) [] := by first | (simp [entryFrame, mkF, argsToLocals, Value.category]; done) | rfl
set_option maxRecDepth 65536 in
set_option maxHeartbeats 40000000 in
theorem rmComp4 (l : Launch) (Z : State) (a0 : Array Value) (hw : ∀ d ∈ tables_1, d.before a0 Z = true) (ws : List Jvm.Cond) (a1 : Addr) (k1 : ClassId) (x0 : Int32) (x1 : Int32) (x2 : Int32) (x3 : Int32) (h0 : Heap) (n0 : Nat) (Z0 : n0 ≤ h0.size) (A_a1 : Arv Z h0 a1 k1 .char (4 : Int32) [(.int x0), (.int x1), (.int x2), (.int x3)] (.int 0)) (hx0 : ¬ (255 : Int32) < x0) (hx1 : ¬ (255 : Int32) < x1) (hx2 : ¬ (255 : Int32) < x2) (hx3 : ¬ (255 : Int32) < x3) :
  own_M l yN7 (Jvm.Cond.code yN7 jdk_52_method_16_code 6 (some (.array .byte)) :: ws) ({ frames := 1, cells := 1, slots := 4, locals := 18 } : Room) #[(.ref a1), (.int 0), (.int 4)] Z h0 (Q_rmCp Z (4 : Int32) [(.int (nar .byte (x0.toInt8.toInt32))), (.int (nar .byte (x1.toInt8.toInt32))), (.int (nar .byte (x2.toInt8.toInt32))), (.int (nar .byte (x3.toInt8.toInt32)))] h0 n0) := by
 refine MetFree.of_bodySF (plainFor_of_name pn_9) hisR ?_
 intro p e s m args below meth c s₁ Bd hml0 hP hK
 obtain ⟨rfl, hZ, hh⟩ := hP
 have hx := Bd.exec
 have hby := Bd.bytes
 have hml : c.maxLocals = 6 := hml0
 have hown : s.vm.findClass "java/lang/StringUTF16" = some m.cls := findClass_of_methodNamed Bd.named
 have hnm := (name_of_methodNamed Bd.named Bd.method).1
 have X0 : Stand p l e ({ frames := 1, cells := 1, slots := 4, locals := 18 } : Room) s m #[(.ref a1), (.int 0), (.int 4)] below meth c s₁ [] 0 0 := Stand.of_body Bd
 have hU : ∀ (i : Nat) (d : Jvm.Cond), tables_1[i]? = some d → d.before a0 Z = true := fun i d h => hw d (List.mem_of_getElem? h)
 have e0 : s₁.heap = h0 := by rw [← hh, Bd.state]; rfl
 have N0 := Fr.nil n0
 obtain ⟨f0, hf0⟩ : ∃ f : JFrame, f = mkF m 0 (fA67 a1) [] := ⟨_, rfl⟩
 have pre0 : ∀ t, own_S p e below s₁ f0 t → Steps p.tables e below (s₁.setTop (entryFrame m #[(.ref a1), (.int 0), (.int 4)] 6)) t := fun t k => castTop ((ef_rmComp4 m a1 (0 : Int32) (4 : Int32)).trans hf0.symm) k
 have R0 : own_R p e below s₁ (mkF m 0 (fA67 a1) []) s₁ f0 := by rw [hf0]; exact fun t k => k
 have R1 : own_R p e below s₁ (mkF m 1 (fA67 a1) [(.int 4)]) s₁ f0 := fun t k => R0 t (by
  refine XS.iloadN X0.here hx rfl (hb hby d20_0) rfl ?_
  exact k)
 obtain ⟨T2, h2, k2, X2, e2, E2, A2, st2⟩ := newP X0 hx hZ (hU 22 _ rfl) e0 (g := (mkF m 1 (fA67 a1) [(.int 4)])) rfl (hb hby d20_1) rfl (by decide) (cap := 4) (by decide) (by decide) (by decide) (by decide)
 obtain ⟨b2, g2⟩ : ∃ z, z = h0.size := ⟨_, rfl⟩
 rw [← g2] at A2 st2
 have g_b2 : n0 ≤ b2 := Nat.le_trans Z0 (Nat.le_of_eq g2.symm)
 have sz_b2 : h0.size ≤ b2 := Nat.le_trans (Keep.refl h0 []).1 (Nat.le_of_eq g2.symm)
 have ne_a1_b2 : a1 ≠ b2 := Nat.ne_of_lt (Nat.lt_of_lt_of_le A_a1.lt (Nat.le_of_eq g2.symm))
 have f2_A_a1 := A_a1.ext E2
 have z2 : n0 ≤ h2.size := Nat.le_trans Z0 E2.1
 have K2 : Keep h0 h2 [] := (Keep.refl h0 []).ext E2
 have v2 : Arv Z h2 b2 k2 .byte (4 : Int32) [(.int 0), (.int 0), (.int 0), (.int 0)] (.int 0) := (Arv.new A2 (by decide)).pad (pad_rep [] (.int 0) 4)
 have R3 := fun t k => R1 t (st2 t k)
 have R4 : own_R p e below T2 (mkF m 9 #[rv a1, iv 0, iv 4, rv b2, .unset, .unset] [(.int 4), (.int 0), (.ref b2), (.int 0), (.ref a1)]) s₁ f0 := fun t k => R3 t (by
  refine XS.astoreN X2.here hx rfl (hb hby d20_3) rfl rfl (l' := #[rv a1, iv 0, iv 4, rv b2, .unset, .unset]) rfl ?_
  refine XS.aloadN X2.here hx rfl (hb hby d20_4) rfl rfl ?_
  refine XS.iloadN X2.here hx rfl (hb hby d20_5) rfl ?_
  refine XS.aloadN X2.here hx rfl (hb hby d20_6) rfl rfl ?_
  refine XS.iconst X2.here hx rfl (hb hby d20_7) ?_
  refine XS.iloadN X2.here hx rfl (hb hby d20_8) rfl ?_
  exact k)
 obtain ⟨_, _, ⟨T5, L5, k5, n5⟩, -, X5, ⟨Lc5, hQ5, l5, y5, z5⟩, st5⟩ := Jvm.LawKit.callS X2 hx (y := yN9) hown (mvT hZ (hU 105 _ rfl)) (mvT hZ (hU 106 _ rfl)) (mvT hZ (hU 103 _ rfl)) (mvT hZ (hU 107 _ rfl)) (by decide) (backOf (W := 0) (rmCompI4 l Z a0 hw [] a1 k1 b2 k2 x0 x1 x2 x3 h2 n0 z2 f2_A_a1 v2 g_b2 ne_a1_b2 hx0 hx1 hx2 hx3) hZ (hU 107 _ rfl) (hU 103 _ rfl) (by decide) (by decide)) (g := (mkF m 9 #[rv a1, iv 0, iv 4, rv b2, .unset, .unset] [(.int 4), (.int 0), (.ref b2), (.int 0), (.ref a1)])) rfl (by rw [hml]; rfl) (argsL := [(.ref a1), (.int 0), (.ref b2), (.int 0), (.int 4)]) (rest := []) (lenOf pd_10 rfl) rfl (Nat.le_of_eq rfl) (hb hby d20_9) (fun _ _ => ⟨rfl, e2, (by decide : 1 + 0 ≤ _), (by decide : 4 + 0 ≤ _)⟩)
 dsimp only [Pt.U, Pt.locs, Pt.cells, Pt.slots] at X5 l5 y5 z5 st5 hQ5
 subst l5 y5 z5
 obtain ⟨rfl, N5q, p5_0, p5_1⟩ := hQ5
 have N5 := Fr.app N0 N5q
 have f5_A_a1 := f2_A_a1.keep p5_0 (ninS ne_a1_b2 nin0)
 have z5 : n0 ≤ T5.heap.size := Nat.le_trans z2 p5_0.1
 have K5 : Keep h0 T5.heap [] := K2.trans p5_0 (allS (Or.inr sz_b2) all0)
 have R6 := fun t k => R4 t (st5 t k)
 have R7 : own_R p e below T5 (mkF m 58 #[rv a1, iv 0, iv 4, rv b2, iv 4, .unset] [(.ref b2)]) s₁ f0 := fun t k => R6 t (by
  refine XS.istore X5.here hx rfl (hb hby d20_12) rfl (l' := #[rv a1, iv 0, iv 4, rv b2, iv 4, .unset]) rfl ?_
  refine XS.iload X5.here hx rfl (hb hby d20_14) rfl ?_
  refine XS.iloadN X5.here hx rfl (hb hby d20_16) rfl ?_
  refine XS.icmpYes X5.here hx rfl (pc0 := 17) (pc' := 57) rfl (hb hby d20_17) rfl (teq (by decide : (4 : Int32) = (4 : Int32))).1 (by decide) (by decide) ?_
  refine XS.aloadN X5.here hx rfl (hb hby d20_57) rfl rfl ?_
  exact k)
 obtain ⟨fs, hr, hrun, hended, hW, hsame⟩ := X5.leave (v := some (.ref b2)) (fun h => by rw [Bd.returns] at h; cases h)
 refine ⟨_, _, pre0 _ (R7 _ ?_), hrun, hended, _, _, rfl, ?_, ⟨_, rfl⟩, hW, hsame.mono (by decide) (by decide)⟩
 ·
  show own_S p e below T5 (mkF m 58 #[rv a1, iv 0, iv 4, rv b2, iv 4, .unset] [(.ref b2)]) _
  exact retOut X5 hx (t := (.array .byte)) Bd.returns rfl (Or.inr (Or.inr (Or.inr (Or.inr ⟨rfl, rfl, rfl⟩)))) (hb hby d20_58) hr
 ·
  show (Q_rmCp Z (4 : Int32) [(.int (nar .byte (x0.toInt8.toInt32))), (.int (nar .byte (x1.toInt8.toInt32))), (.int (nar .byte (x2.toInt8.toInt32))), (.int (nar .byte (x3.toInt8.toInt32)))] h0 n0) _ T5.heap _
  exact ⟨b2, k2, rfl, N5, K5, p5_1, sz_b2⟩
theorem ef_rmCompI3 (m : MethodId) (x0 : Addr) (x1 : Int32) (x2 : Addr) (x3 : Int32) (x4 : Int32) : entryFrame m #[(.ref x0), (.int x1), (.ref x2), (.int x3), (.int x4)] 7 = mkF m 0 (fA51 x0 x1 x2 x3 x4) [] := by first | (simp [entryFrame, mkF, argsToLocals, Value.category]; done) | rfl
def Q_rmCompI3 (Z : State) (a1 : Addr) (k1 : ClassId) (a3 : Addr) (k3 : ClassId) (x0 : Int32) (x1 : Int32) (x2 : Int32) (h0 : Heap) (n0 : Nat) (v : Option Value) (h : Heap) (L : List Loc) : Prop := v = some (.int 3) ∧ Fr n0 L ∧ Keep h0 h [a3] ∧ (Arv Z h a3 k3 .byte (3 : Int32) [(.int (nar .byte (x0.toInt8.toInt32))), (.int (nar .byte (x1.toInt8.toInt32))), (.int (nar .byte (x2.toInt8.toInt32)))] (.int 0))
set_option maxRecDepth 65536 in
set_option maxHeartbeats 40000000 in
theorem rmCompI3 (l : Launch) (Z : State) (a0 : Array Value) (hw : ∀ d ∈ tables_1, d.before a0 Z = true) (ws : List Jvm.Cond) (a1 : Addr) (k1 : ClassId) (a3 : Addr) (k3 : ClassId) (x0 : Int32) (x1 : Int32) (x2 : Int32) (h0 : Heap) (n0 : Nat) (Z0 : n0 ≤ h0.size) (A_a1 : Arv Z h0 a1 k1 .char (3 : Int32) [(.int x0), (.int x1), (.int x2)] (.int 0)) (A_a3 : Arv Z h0 a3 k3 .byte (3 : Int32) [(.int 0), (.int 0), (.int 0)] (.int 0)) (g_a3 : n0 ≤ a3) (ne_a1_a3 : a1 ≠ a3) (hx0 : ¬ (255 : Int32) < x0) (hx1 : ¬ (255 : Int32) < x1) (hx2 : ¬ (255 : Int32) < x2) :
  own_M l yN9 (Jvm.Cond.code yN9 jdk_52_method_21_code 7 (some .int) :: ws) ({ frames := 0, cells := 0, slots := 0, locals := 0 } : Room) #[(.ref a1), (.int 0), (.ref a3), (.int 0), (.int 3)] Z h0 (Q_rmCompI3 Z a1 k1 a3 k3 x0 x1 x2 h0 n0) := by
 refine MetFree.of_bodySF (plainFor_of_name pn_9) hisR ?_
 intro p e s m args below meth c s₁ Bd hml0 hP hK
 obtain ⟨rfl, hZ, hh⟩ := hP
 have hx := Bd.exec
 have hby := Bd.bytes
 have hml : c.maxLocals = 7 := hml0
 have hown : s.vm.findClass "java/lang/StringUTF16" = some m.cls := findClass_of_methodNamed Bd.named
 have hnm := (name_of_methodNamed Bd.named Bd.method).1
 have X0 : Stand p l e ({ frames := 0, cells := 0, slots := 0, locals := 0 } : Room) s m #[(.ref a1), (.int 0), (.ref a3), (.int 0), (.int 3)] below meth c s₁ [] 0 0 := Stand.of_body Bd
 have hU : ∀ (i : Nat) (d : Jvm.Cond), tables_1[i]? = some d → d.before a0 Z = true := fun i d h => hw d (List.mem_of_getElem? h)
 have e0 : s₁.heap = h0 := by rw [← hh, Bd.state]; rfl
 have N0 := Fr.nil n0
 obtain ⟨f0, hf0⟩ : ∃ f : JFrame, f = mkF m 0 #[rv a1, iv 0, rv a3, iv 0, iv 3, .unset, .unset] [] := ⟨_, rfl⟩
 have pre0 : ∀ t, own_S p e below s₁ f0 t → Steps p.tables e below (s₁.setTop (entryFrame m #[(.ref a1), (.int 0), (.ref a3), (.int 0), (.int 3)] 7)) t := fun t k => castTop ((ef_rmCompI3 m a1 (0 : Int32) a3 (0 : Int32) (3 : Int32)).trans hf0.symm) k
 have R0 : own_R p e below s₁ (mkF m 0 #[rv a1, iv 0, rv a3, iv 0, iv 3, .unset, .unset] []) s₁ f0 := by rw [hf0]; exact fun t k => k
 have R1 : own_R p e below s₁ (mkF m 12 (fA53 a1 a3) [(.int 0), (.ref a1)]) s₁ f0 := fun t k => R0 t (by
  refine XS.iconst X0.here hx rfl (hb hby d21_0) ?_
  refine XS.istore X0.here hx rfl (hb hby d21_1) rfl (l' := (fA53 a1 a3)) rfl ?_
  refine XS.iload X0.here hx rfl (hb hby d21_3) rfl ?_
  refine XS.iload X0.here hx rfl (hb hby d21_5) rfl ?_
  refine XS.icmpNo X0.here hx rfl (hb hby d21_7) rfl (tlt (by decide : (0 : Int32) < (3 : Int32))).2.1 ?_
  refine XS.aloadN X0.here hx rfl (hb hby d21_10) rfl rfl ?_
  refine XS.iloadN X0.here hx rfl (hb hby d21_11) rfl ?_
  exact k)
 obtain ⟨cl2, Ar2, q2, S2, n2_, H2, G2⟩ := id A_a1
 have hin2 : ¬ ((0 : Int32) < 0 ∨ cl2.slots.size ≤ ((0 : Int32)).toNatClampNeg) := inb_of S2 ⟨by decide, by decide⟩
 have hat2 : cl2.slots[((0 : Int32)).toNatClampNeg]? = some (.int x0) := Has.at H2 hin2 rfl
 have R3 : own_R p e below s₁ (mkF m 13 (fA53 a1 a3) [(.int x0)]) s₁ f0 := fun t k => R1 t (X0.caload hx (j := (0 : Int32)) (v := (.int x0)) (by rw [e0]; exact Ar2.1) (State.isArrayOf_alike hZ.alike Ar2.2.1) Ar2.2.2 hin2 hat2 (g := (mkF m 12 (fA53 a1 a3) [(.int 0), (.ref a1)])) rfl rfl (hb hby d21_12) _ k)
 have R4 : own_R p e below s₁ (mkF m 31 #[rv a1, iv 0, rv a3, iv 0, iv 3, iv 0, iv x0] [(.int (x0.toInt8.toInt32)), (.int 0), (.ref a3)]) s₁ f0 := fun t k => R3 t (by
  refine XS.istore X0.here hx rfl (hb hby d21_13) rfl (l' := #[rv a1, iv 0, rv a3, iv 0, iv 3, iv 0, iv x0]) rfl ?_
  refine XS.iload X0.here hx rfl (hb hby d21_15) rfl ?_
  refine XS.sipush X0.here hx rfl (hb hby d21_17) ?_
  refine XS.icmpYes X0.here hx rfl (pc0 := 20) (pc' := 26) rfl (hb hby d21_20) rfl (flt hx0).2.2.2 (by decide) (by decide) ?_
  refine XS.aloadN X0.here hx rfl (hb hby d21_26) rfl rfl ?_
  refine XS.iloadN X0.here hx rfl (hb hby d21_27) rfl ?_
  refine XS.iload X0.here hx rfl (hb hby d21_28) rfl ?_
  refine XS.i2b X0.here hx rfl (hb hby d21_30) rfl ?_
  exact k)
 obtain ⟨cl5, Ar5, q5, S5, n5_, H5, G5⟩ := id A_a3
 have hin5 : ¬ ((0 : Int32) < 0 ∨ cl5.slots.size ≤ ((0 : Int32)).toNatClampNeg) := inb_of S5 ⟨by decide, by decide⟩
 obtain ⟨T5, h5, X5, e5, W5, st5⟩ := stB X0 hx hZ e0 Ar5 (j := (0 : Int32)) hin5 (g := (mkF m 31 #[rv a1, iv 0, rv a3, iv 0, iv 3, iv 0, iv x0] [(.int (x0.toInt8.toInt32)), (.int 0), (.ref a3)])) rfl rfl (hb hby d21_31)
 have f5_A_a1 := A_a1.other W5 ne_a1_a3
 have z5 : n0 ≤ h5.size := by rw [W5.size]; exact Z0
 have K5 : Keep h0 h5 [a3] := (Keep.refl h0 [a3]).wr W5 (Or.inl (List.mem_of_getElem? (i := 0) rfl))
 have v5 : Arv Z h5 a3 k3 .byte (3 : Int32) [(.int (nar .byte (x0.toInt8.toInt32))), (.int 0), (.int 0)] (.int 0) := Arv.set Ar5 q5 S5 n5_ H5 G5 (fits_nar_byte _) W5 0 rfl (Nat.le_of_ble_eq_true rfl)
 have N5 := Fr.snoc X5 N0 g_a3
 have R6 := fun t k => R4 t (st5 t k)
 have R7 : own_R p e below T5 (mkF m 12 (fA61 a1 a3 x0) [(.int 1), (.ref a1)]) s₁ f0 := fun t k => R6 t (by
  refine XS.iinc X5.here hx rfl (hb hby d21_32) rfl (l' := #[rv a1, iv 1, rv a3, iv 0, iv 3, iv 0, iv x0]) rfl ?_
  refine XS.iinc X5.here hx rfl (hb hby d21_35) rfl (l' := #[rv a1, iv 1, rv a3, iv 1, iv 3, iv 0, iv x0]) rfl ?_
  refine XS.iinc X5.here hx rfl (hb hby d21_38) rfl (l' := (fA61 a1 a3 x0)) rfl ?_
  refine XS.goto X5.here hx rfl (pc0 := 41) (pc' := 3) rfl (hb hby d21_41) (by decide) (by decide) ?_
  refine XS.iload X5.here hx rfl (hb hby d21_3) rfl ?_
  refine XS.iload X5.here hx rfl (hb hby d21_5) rfl ?_
  refine XS.icmpNo X5.here hx rfl (hb hby d21_7) rfl (tlt (by decide : (1 : Int32) < (3 : Int32))).2.1 ?_
  refine XS.aloadN X5.here hx rfl (hb hby d21_10) rfl rfl ?_
  refine XS.iloadN X5.here hx rfl (hb hby d21_11) rfl ?_
  exact k)
 obtain ⟨cl8, Ar8, q8, S8, n8_, H8, G8⟩ := id f5_A_a1
 have hin8 : ¬ ((1 : Int32) < 0 ∨ cl8.slots.size ≤ ((1 : Int32)).toNatClampNeg) := inb_of S8 ⟨by decide, by decide⟩
 have hat8 : cl8.slots[((1 : Int32)).toNatClampNeg]? = some (.int x1) := Has.at H8 hin8 rfl
 have R9 : own_R p e below T5 (mkF m 13 (fA61 a1 a3 x0) [(.int x1)]) s₁ f0 := fun t k => R7 t (X5.caload hx (j := (1 : Int32)) (v := (.int x1)) (by rw [e5]; exact Ar8.1) (State.isArrayOf_alike hZ.alike Ar8.2.1) Ar8.2.2 hin8 hat8 (g := (mkF m 12 (fA61 a1 a3 x0) [(.int 1), (.ref a1)])) rfl rfl (hb hby d21_12) _ k)
 have R10 : own_R p e below T5 (mkF m 31 #[rv a1, iv 1, rv a3, iv 1, iv 3, iv 1, iv x1] [(.int (x1.toInt8.toInt32)), (.int 1), (.ref a3)]) s₁ f0 := fun t k => R9 t (by
  refine XS.istore X5.here hx rfl (hb hby d21_13) rfl (l' := #[rv a1, iv 1, rv a3, iv 1, iv 3, iv 1, iv x1]) rfl ?_
  refine XS.iload X5.here hx rfl (hb hby d21_15) rfl ?_
  refine XS.sipush X5.here hx rfl (hb hby d21_17) ?_
  refine XS.icmpYes X5.here hx rfl (pc0 := 20) (pc' := 26) rfl (hb hby d21_20) rfl (flt hx1).2.2.2 (by decide) (by decide) ?_
  refine XS.aloadN X5.here hx rfl (hb hby d21_26) rfl rfl ?_
  refine XS.iloadN X5.here hx rfl (hb hby d21_27) rfl ?_
  refine XS.iload X5.here hx rfl (hb hby d21_28) rfl ?_
  refine XS.i2b X5.here hx rfl (hb hby d21_30) rfl ?_
  exact k)
 obtain ⟨cl11, Ar11, q11, S11, n11_, H11, G11⟩ := id v5
 have hin11 : ¬ ((1 : Int32) < 0 ∨ cl11.slots.size ≤ ((1 : Int32)).toNatClampNeg) := inb_of S11 ⟨by decide, by decide⟩
 obtain ⟨T11, h11, X11, e11, W11, st11⟩ := stB X5 hx hZ e5 Ar11 (j := (1 : Int32)) hin11 (g := (mkF m 31 #[rv a1, iv 1, rv a3, iv 1, iv 3, iv 1, iv x1] [(.int (x1.toInt8.toInt32)), (.int 1), (.ref a3)])) rfl rfl (hb hby d21_31)
 have f11_A_a1 := f5_A_a1.other W11 ne_a1_a3
 have z11 : n0 ≤ h11.size := by rw [W11.size]; exact z5
 have K11 : Keep h0 h11 [a3] := K5.wr W11 (Or.inl (List.mem_of_getElem? (i := 0) rfl))
 have v11 : Arv Z h11 a3 k3 .byte (3 : Int32) [(.int (nar .byte (x0.toInt8.toInt32))), (.int (nar .byte (x1.toInt8.toInt32))), (.int 0)] (.int 0) := Arv.set Ar11 q11 S11 n11_ H11 G11 (fits_nar_byte _) W11 1 rfl (Nat.le_of_ble_eq_true rfl)
 have N11 := Fr.snoc X11 N5 g_a3
 have R12 := fun t k => R10 t (st11 t k)
 have R13 : own_R p e below T11 (mkF m 12 (fA62 a1 a3 x1) [(.int 2), (.ref a1)]) s₁ f0 := fun t k => R12 t (by
  refine XS.iinc X11.here hx rfl (hb hby d21_32) rfl (l' := #[rv a1, iv 2, rv a3, iv 1, iv 3, iv 1, iv x1]) rfl ?_
  refine XS.iinc X11.here hx rfl (hb hby d21_35) rfl (l' := #[rv a1, iv 2, rv a3, iv 2, iv 3, iv 1, iv x1]) rfl ?_
  refine XS.iinc X11.here hx rfl (hb hby d21_38) rfl (l' := (fA62 a1 a3 x1)) rfl ?_
  refine XS.goto X11.here hx rfl (pc0 := 41) (pc' := 3) rfl (hb hby d21_41) (by decide) (by decide) ?_
  refine XS.iload X11.here hx rfl (hb hby d21_3) rfl ?_
  refine XS.iload X11.here hx rfl (hb hby d21_5) rfl ?_
  refine XS.icmpNo X11.here hx rfl (hb hby d21_7) rfl (tlt (by decide : (2 : Int32) < (3 : Int32))).2.1 ?_
  refine XS.aloadN X11.here hx rfl (hb hby d21_10) rfl rfl ?_
  refine XS.iloadN X11.here hx rfl (hb hby d21_11) rfl ?_
  exact k)
 obtain ⟨cl14, Ar14, q14, S14, n14_, H14, G14⟩ := id f11_A_a1
 have hin14 : ¬ ((2 : Int32) < 0 ∨ cl14.slots.size ≤ ((2 : Int32)).toNatClampNeg) := inb_of S14 ⟨by decide, by decide⟩
 have hat14 : cl14.slots[((2 : Int32)).toNatClampNeg]? = some (.int x2) := Has.at H14 hin14 rfl
 have R15 : own_R p e below T11 (mkF m 13 (fA62 a1 a3 x1) [(.int x2)]) s₁ f0 := fun t k => R13 t (X11.caload hx (j := (2 : Int32)) (v := (.int x2)) (by rw [e11]; exact Ar14.1) (State.isArrayOf_alike hZ.alike Ar14.2.1) Ar14.2.2 hin14 hat14 (g := (mkF m 12 (fA62 a1 a3 x1) [(.int 2), (.ref a1)])) rfl rfl (hb hby d21_12) _ k)
 have R16 : own_R p e below T11 (mkF m 31 #[rv a1, iv 2, rv a3, iv 2, iv 3, iv 2, iv x2] [(.int (x2.toInt8.toInt32)), (.int 2), (.ref a3)]) s₁ f0 := fun t k => R15 t (by
  refine XS.istore X11.here hx rfl (hb hby d21_13) rfl (l' := #[rv a1, iv 2, rv a3, iv 2, iv 3, iv 2, iv x2]) rfl ?_
  refine XS.iload X11.here hx rfl (hb hby d21_15) rfl ?_
  refine XS.sipush X11.here hx rfl (hb hby d21_17) ?_
  refine XS.icmpYes X11.here hx rfl (pc0 := 20) (pc' := 26) rfl (hb hby d21_20) rfl (flt hx2).2.2.2 (by decide) (by decide) ?_
  refine XS.aloadN X11.here hx rfl (hb hby d21_26) rfl rfl ?_
  refine XS.iloadN X11.here hx rfl (hb hby d21_27) rfl ?_
  refine XS.iload X11.here hx rfl (hb hby d21_28) rfl ?_
  refine XS.i2b X11.here hx rfl (hb hby d21_30) rfl ?_
  exact k)
 obtain ⟨cl17, Ar17, q17, S17, n17_, H17, G17⟩ := id v11
 have hin17 : ¬ ((2 : Int32) < 0 ∨ cl17.slots.size ≤ ((2 : Int32)).toNatClampNeg) := inb_of S17 ⟨by decide, by decide⟩
 obtain ⟨T17, h17, X17, e17, W17, st17⟩ := stB X11 hx hZ e11 Ar17 (j := (2 : Int32)) hin17 (g := (mkF m 31 #[rv a1, iv 2, rv a3, iv 2, iv 3, iv 2, iv x2] [(.int (x2.toInt8.toInt32)), (.int 2), (.ref a3)])) rfl rfl (hb hby d21_31)
 have f17_A_a1 := f11_A_a1.other W17 ne_a1_a3
 have z17 : n0 ≤ h17.size := by rw [W17.size]; exact z11
 have K17 : Keep h0 h17 [a3] := K11.wr W17 (Or.inl (List.mem_of_getElem? (i := 0) rfl))
 have v17 : Arv Z h17 a3 k3 .byte (3 : Int32) [(.int (nar .byte (x0.toInt8.toInt32))), (.int (nar .byte (x1.toInt8.toInt32))), (.int (nar .byte (x2.toInt8.toInt32)))] (.int 0) := Arv.set Ar17 q17 S17 n17_ H17 G17 (fits_nar_byte _) W17 2 rfl (Nat.le_of_ble_eq_true rfl)
 have N17 := Fr.snoc X17 N11 g_a3
 have R18 := fun t k => R16 t (st17 t k)
 have R19 : own_R p e below T17 (mkF m 46 #[rv a1, iv 3, rv a3, iv 3, iv 3, iv 3, iv x2] [(.int 3)]) s₁ f0 := fun t k => R18 t (by
  refine XS.iinc X17.here hx rfl (hb hby d21_32) rfl (l' := #[rv a1, iv 3, rv a3, iv 2, iv 3, iv 2, iv x2]) rfl ?_
  refine XS.iinc X17.here hx rfl (hb hby d21_35) rfl (l' := #[rv a1, iv 3, rv a3, iv 3, iv 3, iv 2, iv x2]) rfl ?_
  refine XS.iinc X17.here hx rfl (hb hby d21_38) rfl (l' := #[rv a1, iv 3, rv a3, iv 3, iv 3, iv 3, iv x2]) rfl ?_
  refine XS.goto X17.here hx rfl (pc0 := 41) (pc' := 3) rfl (hb hby d21_41) (by decide) (by decide) ?_
  refine XS.iload X17.here hx rfl (hb hby d21_3) rfl ?_
  refine XS.iload X17.here hx rfl (hb hby d21_5) rfl ?_
  refine XS.icmpYes X17.here hx rfl (pc0 := 7) (pc' := 44) rfl (hb hby d21_7) rfl (flt (by decide : ¬ ((3 : Int32) < (3 : Int32)))).2.1 (by decide) (by decide) ?_
  refine XS.iload X17.here hx rfl (hb hby d21_44) rfl ?_
  exact k)
 obtain ⟨fs, hr, hrun, hended, hW, hsame⟩ := X17.leave (v := some (.int 3)) (fun h => by rw [Bd.returns] at h; cases h)
 refine ⟨_, _, pre0 _ (R19 _ ?_), hrun, hended, _, _, rfl, ?_, ⟨_, rfl⟩, hW, hsame.mono (by decide) (by decide)⟩
 ·
  show own_S p e below T17 (mkF m 46 #[rv a1, iv 3, rv a3, iv 3, iv 3, iv 3, iv x2] [(.int 3)]) _
  exact retI X17 hx Bd.returns (hb hby d21_46) hr
 ·
  show Q_rmCompI3 Z a1 k1 a3 k3 x0 x1 x2 h0 n0 _ T17.heap _
  rw [e17]
  exact ⟨rfl, N17, K17, v17⟩
theorem ef_rmComp3 (m : MethodId) (x0 : Addr) (x1 : Int32) (x2 : Int32) : entryFrame m #[(.ref x0), (.int x1), (.int x2)] 6 = mkF m 0 (fA60 x0 x1 x2) [] := by first | (simp [entryFrame, mkF, argsToLocals, Value.category]; done) | rfl
set_option maxRecDepth 65536 in
set_option maxHeartbeats 40000000 in
theorem rmComp3 (l : Launch) (Z : State) (a0 : Array Value) (hw : ∀ d ∈ tables_1, d.before a0 Z = true) (ws : List Jvm.Cond) (a1 : Addr) (k1 : ClassId) (x0 : Int32) (x1 : Int32) (x2 : Int32) (h0 : Heap) (n0 : Nat) (Z0 : n0 ≤ h0.size) (A_a1 : Arv Z h0 a1 k1 .char (3 : Int32) [(.int x0), (.int x1), (.int x2)] (.int 0)) (hx0 : ¬ (255 : Int32) < x0) (hx1 : ¬ (255 : Int32) < x1) (hx2 : ¬ (255 : Int32) < x2) :
  own_M l yN7 (Jvm.Cond.code yN7 jdk_52_method_16_code 6 (some (.array .byte)) :: ws) ({ frames := 1, cells := 1, slots := 4, locals := 18 } : Room) #[(.ref a1), (.int 0), (.int 3)] Z h0 (Q_rmCp Z (3 : Int32) [(.int (nar .byte (x0.toInt8.toInt32))), (.int (nar .byte (x1.toInt8.toInt32))), (.int (nar .byte (x2.toInt8.toInt32)))] h0 n0) := by
 refine MetFree.of_bodySF (plainFor_of_name pn_9) hisR ?_
 intro p e s m args below meth c s₁ Bd hml0 hP hK
 obtain ⟨rfl, hZ, hh⟩ := hP
 have hx := Bd.exec
 have hby := Bd.bytes
 have hml : c.maxLocals = 6 := hml0
 have hown : s.vm.findClass "java/lang/StringUTF16" = some m.cls := findClass_of_methodNamed Bd.named
 have hnm := (name_of_methodNamed Bd.named Bd.method).1
 have X0 : Stand p l e ({ frames := 1, cells := 1, slots := 4, locals := 18 } : Room) s m #[(.ref a1), (.int 0), (.int 3)] below meth c s₁ [] 0 0 := Stand.of_body Bd
 have hU : ∀ (i : Nat) (d : Jvm.Cond), tables_1[i]? = some d → d.before a0 Z = true := fun i d h => hw d (List.mem_of_getElem? h)
 have e0 : s₁.heap = h0 := by rw [← hh, Bd.state]; rfl
 have N0 := Fr.nil n0
 obtain ⟨f0, hf0⟩ : ∃ f : JFrame, f = mkF m 0 (fA68 a1) [] := ⟨_, rfl⟩
 have pre0 : ∀ t, own_S p e below s₁ f0 t → Steps p.tables e below (s₁.setTop (entryFrame m #[(.ref a1), (.int 0), (.int 3)] 6)) t := fun t k => castTop ((ef_rmComp3 m a1 (0 : Int32) (3 : Int32)).trans hf0.symm) k
 have R0 : own_R p e below s₁ (mkF m 0 (fA68 a1) []) s₁ f0 := by rw [hf0]; exact fun t k => k
 have R1 : own_R p e below s₁ (mkF m 1 (fA68 a1) [(.int 3)]) s₁ f0 := fun t k => R0 t (by
  refine XS.iloadN X0.here hx rfl (hb hby d20_0) rfl ?_
  exact k)
 obtain ⟨T2, h2, k2, X2, e2, E2, A2, st2⟩ := newP X0 hx hZ (hU 22 _ rfl) e0 (g := (mkF m 1 (fA68 a1) [(.int 3)])) rfl (hb hby d20_1) rfl (by decide) (cap := 3) (by decide) (by decide) (by decide) (by decide)
 obtain ⟨b2, g2⟩ : ∃ z, z = h0.size := ⟨_, rfl⟩
 rw [← g2] at A2 st2
 have g_b2 : n0 ≤ b2 := Nat.le_trans Z0 (Nat.le_of_eq g2.symm)
 have sz_b2 : h0.size ≤ b2 := Nat.le_trans (Keep.refl h0 []).1 (Nat.le_of_eq g2.symm)
 have ne_a1_b2 : a1 ≠ b2 := Nat.ne_of_lt (Nat.lt_of_lt_of_le A_a1.lt (Nat.le_of_eq g2.symm))
 have f2_A_a1 := A_a1.ext E2
 have z2 : n0 ≤ h2.size := Nat.le_trans Z0 E2.1
 have K2 : Keep h0 h2 [] := (Keep.refl h0 []).ext E2
 have v2 : Arv Z h2 b2 k2 .byte (3 : Int32) [(.int 0), (.int 0), (.int 0)] (.int 0) := (Arv.new A2 (by decide)).pad (pad_rep [] (.int 0) 3)
 have R3 := fun t k => R1 t (st2 t k)
 have R4 : own_R p e below T2 (mkF m 9 #[rv a1, iv 0, iv 3, rv b2, .unset, .unset] [(.int 3), (.int 0), (.ref b2), (.int 0), (.ref a1)]) s₁ f0 := fun t k => R3 t (by
  refine XS.astoreN X2.here hx rfl (hb hby d20_3) rfl rfl (l' := #[rv a1, iv 0, iv 3, rv b2, .unset, .unset]) rfl ?_
  refine XS.aloadN X2.here hx rfl (hb hby d20_4) rfl rfl ?_
  refine XS.iloadN X2.here hx rfl (hb hby d20_5) rfl ?_
  refine XS.aloadN X2.here hx rfl (hb hby d20_6) rfl rfl ?_
  refine XS.iconst X2.here hx rfl (hb hby d20_7) ?_
  refine XS.iloadN X2.here hx rfl (hb hby d20_8) rfl ?_
  exact k)
 obtain ⟨_, _, ⟨T5, L5, k5, n5⟩, -, X5, ⟨Lc5, hQ5, l5, y5, z5⟩, st5⟩ := Jvm.LawKit.callS X2 hx (y := yN9) hown (mvT hZ (hU 105 _ rfl)) (mvT hZ (hU 106 _ rfl)) (mvT hZ (hU 103 _ rfl)) (mvT hZ (hU 107 _ rfl)) (by decide) (backOf (W := 0) (rmCompI3 l Z a0 hw [] a1 k1 b2 k2 x0 x1 x2 h2 n0 z2 f2_A_a1 v2 g_b2 ne_a1_b2 hx0 hx1 hx2) hZ (hU 107 _ rfl) (hU 103 _ rfl) (by decide) (by decide)) (g := (mkF m 9 #[rv a1, iv 0, iv 3, rv b2, .unset, .unset] [(.int 3), (.int 0), (.ref b2), (.int 0), (.ref a1)])) rfl (by rw [hml]; rfl) (argsL := [(.ref a1), (.int 0), (.ref b2), (.int 0), (.int 3)]) (rest := []) (lenOf pd_10 rfl) rfl (Nat.le_of_eq rfl) (hb hby d20_9) (fun _ _ => ⟨rfl, e2, (by decide : 1 + 0 ≤ _), (by decide : 3 + 0 ≤ _)⟩)
 dsimp only [Pt.U, Pt.locs, Pt.cells, Pt.slots] at X5 l5 y5 z5 st5 hQ5
 subst l5 y5 z5
 obtain ⟨rfl, N5q, p5_0, p5_1⟩ := hQ5
 have N5 := Fr.app N0 N5q
 have f5_A_a1 := f2_A_a1.keep p5_0 (ninS ne_a1_b2 nin0)
 have z5 : n0 ≤ T5.heap.size := Nat.le_trans z2 p5_0.1
 have K5 : Keep h0 T5.heap [] := K2.trans p5_0 (allS (Or.inr sz_b2) all0)
 have R6 := fun t k => R4 t (st5 t k)
 have R7 : own_R p e below T5 (mkF m 58 #[rv a1, iv 0, iv 3, rv b2, iv 3, .unset] [(.ref b2)]) s₁ f0 := fun t k => R6 t (by
  refine XS.istore X5.here hx rfl (hb hby d20_12) rfl (l' := #[rv a1, iv 0, iv 3, rv b2, iv 3, .unset]) rfl ?_
  refine XS.iload X5.here hx rfl (hb hby d20_14) rfl ?_
  refine XS.iloadN X5.here hx rfl (hb hby d20_16) rfl ?_
  refine XS.icmpYes X5.here hx rfl (pc0 := 17) (pc' := 57) rfl (hb hby d20_17) rfl (teq (by decide : (3 : Int32) = (3 : Int32))).1 (by decide) (by decide) ?_
  refine XS.aloadN X5.here hx rfl (hb hby d20_57) rfl rfl ?_
  exact k)
 obtain ⟨fs, hr, hrun, hended, hW, hsame⟩ := X5.leave (v := some (.ref b2)) (fun h => by rw [Bd.returns] at h; cases h)
 refine ⟨_, _, pre0 _ (R7 _ ?_), hrun, hended, _, _, rfl, ?_, ⟨_, rfl⟩, hW, hsame.mono (by decide) (by decide)⟩
 ·
  show own_S p e below T5 (mkF m 58 #[rv a1, iv 0, iv 3, rv b2, iv 3, .unset] [(.ref b2)]) _
  exact retOut X5 hx (t := (.array .byte)) Bd.returns rfl (Or.inr (Or.inr (Or.inr (Or.inr ⟨rfl, rfl, rfl⟩)))) (hb hby d20_58) hr
 ·
  show (Q_rmCp Z (3 : Int32) [(.int (nar .byte (x0.toInt8.toInt32))), (.int (nar .byte (x1.toInt8.toInt32))), (.int (nar .byte (x2.toInt8.toInt32)))] h0 n0) _ T5.heap _
  exact ⟨b2, k2, rfl, N5, K5, p5_1, sz_b2⟩
theorem ef_rmCompI2 (m : MethodId) (x0 : Addr) (x1 : Int32) (x2 : Addr) (x3 : Int32) (x4 : Int32) : entryFrame m #[(.ref x0), (.int x1), (.ref x2), (.int x3), (.int x4)] 7 = mkF m 0 (fA51 x0 x1 x2 x3 x4) [] := by first | (simp [entryFrame, mkF, argsToLocals, Value.category]; done) | rfl
def Q_rmCompI2 (Z : State) (a1 : Addr) (k1 : ClassId) (a3 : Addr) (k3 : ClassId) (x0 : Int32) (x1 : Int32) (h0 : Heap) (n0 : Nat) (v : Option Value) (h : Heap) (L : List Loc) : Prop := v = some (.int 2) ∧ Fr n0 L ∧ Keep h0 h [a3] ∧ (Arv Z h a3 k3 .byte (2 : Int32) [(.int (nar .byte (x0.toInt8.toInt32))), (.int (nar .byte (x1.toInt8.toInt32)))] (.int 0))
set_option maxRecDepth 65536 in
set_option maxHeartbeats 40000000 in
theorem rmCompI2 (l : Launch) (Z : State) (a0 : Array Value) (hw : ∀ d ∈ tables_1, d.before a0 Z = true) (ws : List Jvm.Cond) (a1 : Addr) (k1 : ClassId) (a3 : Addr) (k3 : ClassId) (x0 : Int32) (x1 : Int32) (h0 : Heap) (n0 : Nat) (Z0 : n0 ≤ h0.size) (A_a1 : Arv Z h0 a1 k1 .char (2 : Int32) [(.int x0), (.int x1)] (.int 0)) (A_a3 : Arv Z h0 a3 k3 .byte (2 : Int32) [(.int 0), (.int 0)] (.int 0)) (g_a3 : n0 ≤ a3) (ne_a1_a3 : a1 ≠ a3) (hx0 : ¬ (255 : Int32) < x0) (hx1 : ¬ (255 : Int32) < x1) :
  own_M l yN9 (Jvm.Cond.code yN9 jdk_52_method_21_code 7 (some .int) :: ws) ({ frames := 0, cells := 0, slots := 0, locals := 0 } : Room) #[(.ref a1), (.int 0), (.ref a3), (.int 0), (.int 2)] Z h0 (Q_rmCompI2 Z a1 k1 a3 k3 x0 x1 h0 n0) := by
 refine MetFree.of_bodySF (plainFor_of_name pn_9) hisR ?_
 intro p e s m args below meth c s₁ Bd hml0 hP hK
 obtain ⟨rfl, hZ, hh⟩ := hP
 have hx := Bd.exec
 have hby := Bd.bytes
 have hml : c.maxLocals = 7 := hml0
 have hown : s.vm.findClass "java/lang/StringUTF16" = some m.cls := findClass_of_methodNamed Bd.named
 have hnm := (name_of_methodNamed Bd.named Bd.method).1
 have X0 : Stand p l e ({ frames := 0, cells := 0, slots := 0, locals := 0 } : Room) s m #[(.ref a1), (.int 0), (.ref a3), (.int 0), (.int 2)] below meth c s₁ [] 0 0 := Stand.of_body Bd
 have hU : ∀ (i : Nat) (d : Jvm.Cond), tables_1[i]? = some d → d.before a0 Z = true := fun i d h => hw d (List.mem_of_getElem? h)
 have e0 : s₁.heap = h0 := by rw [← hh, Bd.state]; rfl
 have N0 := Fr.nil n0
 obtain ⟨f0, hf0⟩ : ∃ f : JFrame, f = mkF m 0 #[rv a1, iv 0, rv a3, iv 0, iv 2, .unset, .unset] [] := ⟨_, rfl⟩
 have pre0 : ∀ t, own_S p e below s₁ f0 t → Steps p.tables e below (s₁.setTop (entryFrame m #[(.ref a1), (.int 0), (.ref a3), (.int 0), (.int 2)] 7)) t := fun t k => castTop ((ef_rmCompI2 m a1 (0 : Int32) a3 (0 : Int32) (2 : Int32)).trans hf0.symm) k
 have R0 : own_R p e below s₁ (mkF m 0 #[rv a1, iv 0, rv a3, iv 0, iv 2, .unset, .unset] []) s₁ f0 := by rw [hf0]; exact fun t k => k
 have R1 : own_R p e below s₁ (mkF m 12 (fA54 a1 a3) [(.int 0), (.ref a1)]) s₁ f0 := fun t k => R0 t (by
  refine XS.iconst X0.here hx rfl (hb hby d21_0) ?_
  refine XS.istore X0.here hx rfl (hb hby d21_1) rfl (l' := (fA54 a1 a3)) rfl ?_
  refine XS.iload X0.here hx rfl (hb hby d21_3) rfl ?_
  refine XS.iload X0.here hx rfl (hb hby d21_5) rfl ?_
  refine XS.icmpNo X0.here hx rfl (hb hby d21_7) rfl (tlt (by decide : (0 : Int32) < (2 : Int32))).2.1 ?_
  refine XS.aloadN X0.here hx rfl (hb hby d21_10) rfl rfl ?_
  refine XS.iloadN X0.here hx rfl (hb hby d21_11) rfl ?_
  exact k)
 obtain ⟨cl2, Ar2, q2, S2, n2_, H2, G2⟩ := id A_a1
 have hin2 : ¬ ((0 : Int32) < 0 ∨ cl2.slots.size ≤ ((0 : Int32)).toNatClampNeg) := inb_of S2 ⟨by decide, by decide⟩
 have hat2 : cl2.slots[((0 : Int32)).toNatClampNeg]? = some (.int x0) := Has.at H2 hin2 rfl
 have R3 : own_R p e below s₁ (mkF m 13 (fA54 a1 a3) [(.int x0)]) s₁ f0 := fun t k => R1 t (X0.caload hx (j := (0 : Int32)) (v := (.int x0)) (by rw [e0]; exact Ar2.1) (State.isArrayOf_alike hZ.alike Ar2.2.1) Ar2.2.2 hin2 hat2 (g := (mkF m 12 (fA54 a1 a3) [(.int 0), (.ref a1)])) rfl rfl (hb hby d21_12) _ k)
 have R4 : own_R p e below s₁ (mkF m 31 #[rv a1, iv 0, rv a3, iv 0, iv 2, iv 0, iv x0] [(.int (x0.toInt8.toInt32)), (.int 0), (.ref a3)]) s₁ f0 := fun t k => R3 t (by
  refine XS.istore X0.here hx rfl (hb hby d21_13) rfl (l' := #[rv a1, iv 0, rv a3, iv 0, iv 2, iv 0, iv x0]) rfl ?_
  refine XS.iload X0.here hx rfl (hb hby d21_15) rfl ?_
  refine XS.sipush X0.here hx rfl (hb hby d21_17) ?_
  refine XS.icmpYes X0.here hx rfl (pc0 := 20) (pc' := 26) rfl (hb hby d21_20) rfl (flt hx0).2.2.2 (by decide) (by decide) ?_
  refine XS.aloadN X0.here hx rfl (hb hby d21_26) rfl rfl ?_
  refine XS.iloadN X0.here hx rfl (hb hby d21_27) rfl ?_
  refine XS.iload X0.here hx rfl (hb hby d21_28) rfl ?_
  refine XS.i2b X0.here hx rfl (hb hby d21_30) rfl ?_
  exact k)
 obtain ⟨cl5, Ar5, q5, S5, n5_, H5, G5⟩ := id A_a3
 have hin5 : ¬ ((0 : Int32) < 0 ∨ cl5.slots.size ≤ ((0 : Int32)).toNatClampNeg) := inb_of S5 ⟨by decide, by decide⟩
 obtain ⟨T5, h5, X5, e5, W5, st5⟩ := stB X0 hx hZ e0 Ar5 (j := (0 : Int32)) hin5 (g := (mkF m 31 #[rv a1, iv 0, rv a3, iv 0, iv 2, iv 0, iv x0] [(.int (x0.toInt8.toInt32)), (.int 0), (.ref a3)])) rfl rfl (hb hby d21_31)
 have f5_A_a1 := A_a1.other W5 ne_a1_a3
 have z5 : n0 ≤ h5.size := by rw [W5.size]; exact Z0
 have K5 : Keep h0 h5 [a3] := (Keep.refl h0 [a3]).wr W5 (Or.inl (List.mem_of_getElem? (i := 0) rfl))
 have v5 : Arv Z h5 a3 k3 .byte (2 : Int32) [(.int (nar .byte (x0.toInt8.toInt32))), (.int 0)] (.int 0) := Arv.set Ar5 q5 S5 n5_ H5 G5 (fits_nar_byte _) W5 0 rfl (Nat.le_of_ble_eq_true rfl)
 have N5 := Fr.snoc X5 N0 g_a3
 have R6 := fun t k => R4 t (st5 t k)
 have R7 : own_R p e below T5 (mkF m 12 (fA63 a1 a3 x0) [(.int 1), (.ref a1)]) s₁ f0 := fun t k => R6 t (by
  refine XS.iinc X5.here hx rfl (hb hby d21_32) rfl (l' := #[rv a1, iv 1, rv a3, iv 0, iv 2, iv 0, iv x0]) rfl ?_
  refine XS.iinc X5.here hx rfl (hb hby d21_35) rfl (l' := #[rv a1, iv 1, rv a3, iv 1, iv 2, iv 0, iv x0]) rfl ?_
  refine XS.iinc X5.here hx rfl (hb hby d21_38) rfl (l' := (fA63 a1 a3 x0)) rfl ?_
  refine XS.goto X5.here hx rfl (pc0 := 41) (pc' := 3) rfl (hb hby d21_41) (by decide) (by decide) ?_
  refine XS.iload X5.here hx rfl (hb hby d21_3) rfl ?_
  refine XS.iload X5.here hx rfl (hb hby d21_5) rfl ?_
  refine XS.icmpNo X5.here hx rfl (hb hby d21_7) rfl (tlt (by decide : (1 : Int32) < (2 : Int32))).2.1 ?_
  refine XS.aloadN X5.here hx rfl (hb hby d21_10) rfl rfl ?_
  refine XS.iloadN X5.here hx rfl (hb hby d21_11) rfl ?_
  exact k)
 obtain ⟨cl8, Ar8, q8, S8, n8_, H8, G8⟩ := id f5_A_a1
 have hin8 : ¬ ((1 : Int32) < 0 ∨ cl8.slots.size ≤ ((1 : Int32)).toNatClampNeg) := inb_of S8 ⟨by decide, by decide⟩
 have hat8 : cl8.slots[((1 : Int32)).toNatClampNeg]? = some (.int x1) := Has.at H8 hin8 rfl
 have R9 : own_R p e below T5 (mkF m 13 (fA63 a1 a3 x0) [(.int x1)]) s₁ f0 := fun t k => R7 t (X5.caload hx (j := (1 : Int32)) (v := (.int x1)) (by rw [e5]; exact Ar8.1) (State.isArrayOf_alike hZ.alike Ar8.2.1) Ar8.2.2 hin8 hat8 (g := (mkF m 12 (fA63 a1 a3 x0) [(.int 1), (.ref a1)])) rfl rfl (hb hby d21_12) _ k)
 have R10 : own_R p e below T5 (mkF m 31 #[rv a1, iv 1, rv a3, iv 1, iv 2, iv 1, iv x1] [(.int (x1.toInt8.toInt32)), (.int 1), (.ref a3)]) s₁ f0 := fun t k => R9 t (by
  refine XS.istore X5.here hx rfl (hb hby d21_13) rfl (l' := #[rv a1, iv 1, rv a3, iv 1, iv 2, iv 1, iv x1]) rfl ?_
  refine XS.iload X5.here hx rfl (hb hby d21_15) rfl ?_
  refine XS.sipush X5.here hx rfl (hb hby d21_17) ?_
  refine XS.icmpYes X5.here hx rfl (pc0 := 20) (pc' := 26) rfl (hb hby d21_20) rfl (flt hx1).2.2.2 (by decide) (by decide) ?_
  refine XS.aloadN X5.here hx rfl (hb hby d21_26) rfl rfl ?_
  refine XS.iloadN X5.here hx rfl (hb hby d21_27) rfl ?_
  refine XS.iload X5.here hx rfl (hb hby d21_28) rfl ?_
  refine XS.i2b X5.here hx rfl (hb hby d21_30) rfl ?_
  exact k)
 obtain ⟨cl11, Ar11, q11, S11, n11_, H11, G11⟩ := id v5
 have hin11 : ¬ ((1 : Int32) < 0 ∨ cl11.slots.size ≤ ((1 : Int32)).toNatClampNeg) := inb_of S11 ⟨by decide, by decide⟩
 obtain ⟨T11, h11, X11, e11, W11, st11⟩ := stB X5 hx hZ e5 Ar11 (j := (1 : Int32)) hin11 (g := (mkF m 31 #[rv a1, iv 1, rv a3, iv 1, iv 2, iv 1, iv x1] [(.int (x1.toInt8.toInt32)), (.int 1), (.ref a3)])) rfl rfl (hb hby d21_31)
 have f11_A_a1 := f5_A_a1.other W11 ne_a1_a3
 have z11 : n0 ≤ h11.size := by rw [W11.size]; exact z5
 have K11 : Keep h0 h11 [a3] := K5.wr W11 (Or.inl (List.mem_of_getElem? (i := 0) rfl))
 have v11 : Arv Z h11 a3 k3 .byte (2 : Int32) [(.int (nar .byte (x0.toInt8.toInt32))), (.int (nar .byte (x1.toInt8.toInt32)))] (.int 0) := Arv.set Ar11 q11 S11 n11_ H11 G11 (fits_nar_byte _) W11 1 rfl (Nat.le_of_ble_eq_true rfl)
 have N11 := Fr.snoc X11 N5 g_a3
 have R12 := fun t k => R10 t (st11 t k)
 have R13 : own_R p e below T11 (mkF m 46 #[rv a1, iv 2, rv a3, iv 2, iv 2, iv 2, iv x1] [(.int 2)]) s₁ f0 := fun t k => R12 t (by
  refine XS.iinc X11.here hx rfl (hb hby d21_32) rfl (l' := #[rv a1, iv 2, rv a3, iv 1, iv 2, iv 1, iv x1]) rfl ?_
  refine XS.iinc X11.here hx rfl (hb hby d21_35) rfl (l' := #[rv a1, iv 2, rv a3, iv 2, iv 2, iv 1, iv x1]) rfl ?_
  refine XS.iinc X11.here hx rfl (hb hby d21_38) rfl (l' := #[rv a1, iv 2, rv a3, iv 2, iv 2, iv 2, iv x1]) rfl ?_
  refine XS.goto X11.here hx rfl (pc0 := 41) (pc' := 3) rfl (hb hby d21_41) (by decide) (by decide) ?_
  refine XS.iload X11.here hx rfl (hb hby d21_3) rfl ?_
  refine XS.iload X11.here hx rfl (hb hby d21_5) rfl ?_
  refine XS.icmpYes X11.here hx rfl (pc0 := 7) (pc' := 44) rfl (hb hby d21_7) rfl (flt (by decide : ¬ ((2 : Int32) < (2 : Int32)))).2.1 (by decide) (by decide) ?_
  refine XS.iload X11.here hx rfl (hb hby d21_44) rfl ?_
  exact k)
 obtain ⟨fs, hr, hrun, hended, hW, hsame⟩ := X11.leave (v := some (.int 2)) (fun h => by rw [Bd.returns] at h; cases h)
 refine ⟨_, _, pre0 _ (R13 _ ?_), hrun, hended, _, _, rfl, ?_, ⟨_, rfl⟩, hW, hsame.mono (by decide) (by decide)⟩
 ·
  show own_S p e below T11 (mkF m 46 #[rv a1, iv 2, rv a3, iv 2, iv 2, iv 2, iv x1] [(.int 2)]) _
  exact retI X11 hx Bd.returns (hb hby d21_46) hr
 ·
  show Q_rmCompI2 Z a1 k1 a3 k3 x0 x1 h0 n0 _ T11.heap _
  rw [e11]
  exact ⟨rfl, N11, K11, v11⟩
theorem ef_rmComp2 (m : MethodId) (x0 : Addr) (x1 : Int32) (x2 : Int32) : entryFrame m #[(.ref x0), (.int x1), (.int x2)] 6 = mkF m 0 (fA60 x0 x1 x2) [] := by first | (simp [entryFrame, mkF, argsToLocals, Value.category]; done) | rfl
set_option maxRecDepth 65536 in
set_option maxHeartbeats 40000000 in
theorem rmComp2 (l : Launch) (Z : State) (a0 : Array Value) (hw : ∀ d ∈ tables_1, d.before a0 Z = true) (ws : List Jvm.Cond) (a1 : Addr) (k1 : ClassId) (x0 : Int32) (x1 : Int32) (h0 : Heap) (n0 : Nat) (Z0 : n0 ≤ h0.size) (A_a1 : Arv Z h0 a1 k1 .char (2 : Int32) [(.int x0), (.int x1)] (.int 0)) (hx0 : ¬ (255 : Int32) < x0) (hx1 : ¬ (255 : Int32) < x1) :
  own_M l yN7 (Jvm.Cond.code yN7 jdk_52_method_16_code 6 (some (.array .byte)) :: ws) ({ frames := 1, cells := 1, slots := 4, locals := 18 } : Room) #[(.ref a1), (.int 0), (.int 2)] Z h0 (Q_rmCp Z (2 : Int32) [(.int (nar .byte (x0.toInt8.toInt32))), (.int (nar .byte (x1.toInt8.toInt32)))] h0 n0) := by
 refine MetFree.of_bodySF (plainFor_of_name pn_9) hisR ?_
 intro p e s m args below meth c s₁ Bd hml0 hP hK
 obtain ⟨rfl, hZ, hh⟩ := hP
 have hx := Bd.exec
 have hby := Bd.bytes
 have hml : c.maxLocals = 6 := hml0
 have hown : s.vm.findClass "java/lang/StringUTF16" = some m.cls := findClass_of_methodNamed Bd.named
 have hnm := (name_of_methodNamed Bd.named Bd.method).1
 have X0 : Stand p l e ({ frames := 1, cells := 1, slots := 4, locals := 18 } : Room) s m #[(.ref a1), (.int 0), (.int 2)] below meth c s₁ [] 0 0 := Stand.of_body Bd
 have hU : ∀ (i : Nat) (d : Jvm.Cond), tables_1[i]? = some d → d.before a0 Z = true := fun i d h => hw d (List.mem_of_getElem? h)
 have e0 : s₁.heap = h0 := by rw [← hh, Bd.state]; rfl
 have N0 := Fr.nil n0
 obtain ⟨f0, hf0⟩ : ∃ f : JFrame, f = mkF m 0 (fA69 a1) [] := ⟨_, rfl⟩
 have pre0 : ∀ t, own_S p e below s₁ f0 t → Steps p.tables e below (s₁.setTop (entryFrame m #[(.ref a1), (.int 0), (.int 2)] 6)) t := fun t k => castTop ((ef_rmComp2 m a1 (0 : Int32) (2 : Int32)).trans hf0.symm) k
 have R0 : own_R p e below s₁ (mkF m 0 (fA69 a1) []) s₁ f0 := by rw [hf0]; exact fun t k => k
 have R1 : own_R p e below s₁ (mkF m 1 (fA69 a1) [(.int 2)]) s₁ f0 := fun t k => R0 t (by
  refine XS.iloadN X0.here hx rfl (hb hby d20_0) rfl ?_
  exact k)
 obtain ⟨T2, h2, k2, X2, e2, E2, A2, st2⟩ := newP X0 hx hZ (hU 22 _ rfl) e0 (g := (mkF m 1 (fA69 a1) [(.int 2)])) rfl (hb hby d20_1) rfl (by decide) (cap := 2) (by decide) (by decide) (by decide) (by decide)
 obtain ⟨b2, g2⟩ : ∃ z, z = h0.size := ⟨_, rfl⟩
 rw [← g2] at A2 st2
 have g_b2 : n0 ≤ b2 := Nat.le_trans Z0 (Nat.le_of_eq g2.symm)
 have sz_b2 : h0.size ≤ b2 := Nat.le_trans (Keep.refl h0 []).1 (Nat.le_of_eq g2.symm)
 have ne_a1_b2 : a1 ≠ b2 := Nat.ne_of_lt (Nat.lt_of_lt_of_le A_a1.lt (Nat.le_of_eq g2.symm))
 have f2_A_a1 := A_a1.ext E2
 have z2 : n0 ≤ h2.size := Nat.le_trans Z0 E2.1
 have K2 : Keep h0 h2 [] := (Keep.refl h0 []).ext E2
 have v2 : Arv Z h2 b2 k2 .byte (2 : Int32) [(.int 0), (.int 0)] (.int 0) := (Arv.new A2 (by decide)).pad (pad_rep [] (.int 0) 2)
 have R3 := fun t k => R1 t (st2 t k)
 have R4 : own_R p e below T2 (mkF m 9 #[rv a1, iv 0, iv 2, rv b2, .unset, .unset] [(.int 2), (.int 0), (.ref b2), (.int 0), (.ref a1)]) s₁ f0 := fun t k => R3 t (by
  refine XS.astoreN X2.here hx rfl (hb hby d20_3) rfl rfl (l' := #[rv a1, iv 0, iv 2, rv b2, .unset, .unset]) rfl ?_
  refine XS.aloadN X2.here hx rfl (hb hby d20_4) rfl rfl ?_
  refine XS.iloadN X2.here hx rfl (hb hby d20_5) rfl ?_
  refine XS.aloadN X2.here hx rfl (hb hby d20_6) rfl rfl ?_
  refine XS.iconst X2.here hx rfl (hb hby d20_7) ?_
  refine XS.iloadN X2.here hx rfl (hb hby d20_8) rfl ?_
  exact k)
 obtain ⟨_, _, ⟨T5, L5, k5, n5⟩, -, X5, ⟨Lc5, hQ5, l5, y5, z5⟩, st5⟩ := Jvm.LawKit.callS X2 hx (y := yN9) hown (mvT hZ (hU 105 _ rfl)) (mvT hZ (hU 106 _ rfl)) (mvT hZ (hU 103 _ rfl)) (mvT hZ (hU 107 _ rfl)) (by decide) (backOf (W := 0) (rmCompI2 l Z a0 hw [] a1 k1 b2 k2 x0 x1 h2 n0 z2 f2_A_a1 v2 g_b2 ne_a1_b2 hx0 hx1) hZ (hU 107 _ rfl) (hU 103 _ rfl) (by decide) (by decide)) (g := (mkF m 9 #[rv a1, iv 0, iv 2, rv b2, .unset, .unset] [(.int 2), (.int 0), (.ref b2), (.int 0), (.ref a1)])) rfl (by rw [hml]; rfl) (argsL := [(.ref a1), (.int 0), (.ref b2), (.int 0), (.int 2)]) (rest := []) (lenOf pd_10 rfl) rfl (Nat.le_of_eq rfl) (hb hby d20_9) (fun _ _ => ⟨rfl, e2, (by decide : 1 + 0 ≤ _), (by decide : 2 + 0 ≤ _)⟩)
 dsimp only [Pt.U, Pt.locs, Pt.cells, Pt.slots] at X5 l5 y5 z5 st5 hQ5
 subst l5 y5 z5
 obtain ⟨rfl, N5q, p5_0, p5_1⟩ := hQ5
 have N5 := Fr.app N0 N5q
 have f5_A_a1 := f2_A_a1.keep p5_0 (ninS ne_a1_b2 nin0)
 have z5 : n0 ≤ T5.heap.size := Nat.le_trans z2 p5_0.1
 have K5 : Keep h0 T5.heap [] := K2.trans p5_0 (allS (Or.inr sz_b2) all0)
 have R6 := fun t k => R4 t (st5 t k)
 have R7 : own_R p e below T5 (mkF m 58 #[rv a1, iv 0, iv 2, rv b2, iv 2, .unset] [(.ref b2)]) s₁ f0 := fun t k => R6 t (by
  refine XS.istore X5.here hx rfl (hb hby d20_12) rfl (l' := #[rv a1, iv 0, iv 2, rv b2, iv 2, .unset]) rfl ?_
  refine XS.iload X5.here hx rfl (hb hby d20_14) rfl ?_
  refine XS.iloadN X5.here hx rfl (hb hby d20_16) rfl ?_
  refine XS.icmpYes X5.here hx rfl (pc0 := 17) (pc' := 57) rfl (hb hby d20_17) rfl (teq (by decide : (2 : Int32) = (2 : Int32))).1 (by decide) (by decide) ?_
  refine XS.aloadN X5.here hx rfl (hb hby d20_57) rfl rfl ?_
  exact k)
 obtain ⟨fs, hr, hrun, hended, hW, hsame⟩ := X5.leave (v := some (.ref b2)) (fun h => by rw [Bd.returns] at h; cases h)
 refine ⟨_, _, pre0 _ (R7 _ ?_), hrun, hended, _, _, rfl, ?_, ⟨_, rfl⟩, hW, hsame.mono (by decide) (by decide)⟩
 ·
  show own_S p e below T5 (mkF m 58 #[rv a1, iv 0, iv 2, rv b2, iv 2, .unset] [(.ref b2)]) _
  exact retOut X5 hx (t := (.array .byte)) Bd.returns rfl (Or.inr (Or.inr (Or.inr (Or.inr ⟨rfl, rfl, rfl⟩)))) (hb hby d20_58) hr
 ·
  show (Q_rmCp Z (2 : Int32) [(.int (nar .byte (x0.toInt8.toInt32))), (.int (nar .byte (x1.toInt8.toInt32)))] h0 n0) _ T5.heap _
  exact ⟨b2, k2, rfl, N5, K5, p5_1, sz_b2⟩
theorem ef_rmCompI1 (m : MethodId) (x0 : Addr) (x1 : Int32) (x2 : Addr) (x3 : Int32) (x4 : Int32) : entryFrame m #[(.ref x0), (.int x1), (.ref x2), (.int x3), (.int x4)] 7 = mkF m 0 (fA51 x0 x1 x2 x3 x4) [] := by first | (simp [entryFrame, mkF, argsToLocals, Value.category]; done) | rfl
def Q_rmCompI1 (Z : State) (a1 : Addr) (k1 : ClassId) (a3 : Addr) (k3 : ClassId) (x0 : Int32) (h0 : Heap) (n0 : Nat) (v : Option Value) (h : Heap) (L : List Loc) : Prop := v = some (.int 1) ∧ Fr n0 L ∧ Keep h0 h [a3] ∧ (Arv Z h a3 k3 .byte (1 : Int32) [(.int (nar .byte (x0.toInt8.toInt32)))] (.int 0))
set_option maxRecDepth 65536 in
set_option maxHeartbeats 40000000 in
theorem rmCompI1 (l : Launch) (Z : State) (a0 : Array Value) (hw : ∀ d ∈ tables_1, d.before a0 Z = true) (ws : List Jvm.Cond) (a1 : Addr) (k1 : ClassId) (a3 : Addr) (k3 : ClassId) (x0 : Int32) (h0 : Heap) (n0 : Nat) (Z0 : n0 ≤ h0.size) (A_a1 : Arv Z h0 a1 k1 .char (1 : Int32) [(.int x0)] (.int 0)) (A_a3 : Arv Z h0 a3 k3 .byte (1 : Int32) [(.int 0)] (.int 0)) (g_a3 : n0 ≤ a3) (ne_a1_a3 : a1 ≠ a3) (hx0 : ¬ (255 : Int32) < x0) :
  own_M l yN9 (Jvm.Cond.code yN9 jdk_52_method_21_code 7 (some .int) :: ws) ({ frames := 0, cells := 0, slots := 0, locals := 0 } : Room) #[(.ref a1), (.int 0), (.ref a3), (.int 0), (.int 1)] Z h0 (Q_rmCompI1 Z a1 k1 a3 k3 x0 h0 n0) := by
 refine MetFree.of_bodySF (plainFor_of_name pn_9) hisR ?_
 intro p e s m args below meth c s₁ Bd hml0 hP hK
 obtain ⟨rfl, hZ, hh⟩ := hP
 have hx := Bd.exec
 have hby := Bd.bytes
 have hml : c.maxLocals = 7 := hml0
 have hown : s.vm.findClass "java/lang/StringUTF16" = some m.cls := findClass_of_methodNamed Bd.named
 have hnm := (name_of_methodNamed Bd.named Bd.method).1
 have X0 : Stand p l e ({ frames := 0, cells := 0, slots := 0, locals := 0 } : Room) s m #[(.ref a1), (.int 0), (.ref a3), (.int 0), (.int 1)] below meth c s₁ [] 0 0 := Stand.of_body Bd
 have hU : ∀ (i : Nat) (d : Jvm.Cond), tables_1[i]? = some d → d.before a0 Z = true := fun i d h => hw d (List.mem_of_getElem? h)
 have e0 : s₁.heap = h0 := by rw [← hh, Bd.state]; rfl
 have N0 := Fr.nil n0
 obtain ⟨f0, hf0⟩ : ∃ f : JFrame, f = mkF m 0 #[rv a1, iv 0, rv a3, iv 0, iv 1, .unset, .unset] [] := ⟨_, rfl⟩
 have pre0 : ∀ t, own_S p e below s₁ f0 t → Steps p.tables e below (s₁.setTop (entryFrame m #[(.ref a1), (.int 0), (.ref a3), (.int 0), (.int 1)] 7)) t := fun t k => castTop ((ef_rmCompI1 m a1 (0 : Int32) a3 (0 : Int32) (1 : Int32)).trans hf0.symm) k
 have R0 : own_R p e below s₁ (mkF m 0 #[rv a1, iv 0, rv a3, iv 0, iv 1, .unset, .unset] []) s₁ f0 := by rw [hf0]; exact fun t k => k
 have R1 : own_R p e below s₁ (mkF m 12 (fA55 a1 a3) [(.int 0), (.ref a1)]) s₁ f0 := fun t k => R0 t (by
  refine XS.iconst X0.here hx rfl (hb hby d21_0) ?_
  refine XS.istore X0.here hx rfl (hb hby d21_1) rfl (l' := (fA55 a1 a3)) rfl ?_
  refine XS.iload X0.here hx rfl (hb hby d21_3) rfl ?_
  refine XS.iload X0.here hx rfl (hb hby d21_5) rfl ?_
  refine XS.icmpNo X0.here hx rfl (hb hby d21_7) rfl (tlt (by decide : (0 : Int32) < (1 : Int32))).2.1 ?_
  refine XS.aloadN X0.here hx rfl (hb hby d21_10) rfl rfl ?_
  refine XS.iloadN X0.here hx rfl (hb hby d21_11) rfl ?_
  exact k)
 obtain ⟨cl2, Ar2, q2, S2, n2_, H2, G2⟩ := id A_a1
 have hin2 : ¬ ((0 : Int32) < 0 ∨ cl2.slots.size ≤ ((0 : Int32)).toNatClampNeg) := inb_of S2 ⟨by decide, by decide⟩
 have hat2 : cl2.slots[((0 : Int32)).toNatClampNeg]? = some (.int x0) := Has.at H2 hin2 rfl
 have R3 : own_R p e below s₁ (mkF m 13 (fA55 a1 a3) [(.int x0)]) s₁ f0 := fun t k => R1 t (X0.caload hx (j := (0 : Int32)) (v := (.int x0)) (by rw [e0]; exact Ar2.1) (State.isArrayOf_alike hZ.alike Ar2.2.1) Ar2.2.2 hin2 hat2 (g := (mkF m 12 (fA55 a1 a3) [(.int 0), (.ref a1)])) rfl rfl (hb hby d21_12) _ k)
 have R4 : own_R p e below s₁ (mkF m 31 #[rv a1, iv 0, rv a3, iv 0, iv 1, iv 0, iv x0] [(.int (x0.toInt8.toInt32)), (.int 0), (.ref a3)]) s₁ f0 := fun t k => R3 t (by
  refine XS.istore X0.here hx rfl (hb hby d21_13) rfl (l' := #[rv a1, iv 0, rv a3, iv 0, iv 1, iv 0, iv x0]) rfl ?_
  refine XS.iload X0.here hx rfl (hb hby d21_15) rfl ?_
  refine XS.sipush X0.here hx rfl (hb hby d21_17) ?_
  refine XS.icmpYes X0.here hx rfl (pc0 := 20) (pc' := 26) rfl (hb hby d21_20) rfl (flt hx0).2.2.2 (by decide) (by decide) ?_
  refine XS.aloadN X0.here hx rfl (hb hby d21_26) rfl rfl ?_
  refine XS.iloadN X0.here hx rfl (hb hby d21_27) rfl ?_
  refine XS.iload X0.here hx rfl (hb hby d21_28) rfl ?_
  refine XS.i2b X0.here hx rfl (hb hby d21_30) rfl ?_
  exact k)
 obtain ⟨cl5, Ar5, q5, S5, n5_, H5, G5⟩ := id A_a3
 have hin5 : ¬ ((0 : Int32) < 0 ∨ cl5.slots.size ≤ ((0 : Int32)).toNatClampNeg) := inb_of S5 ⟨by decide, by decide⟩
 obtain ⟨T5, h5, X5, e5, W5, st5⟩ := stB X0 hx hZ e0 Ar5 (j := (0 : Int32)) hin5 (g := (mkF m 31 #[rv a1, iv 0, rv a3, iv 0, iv 1, iv 0, iv x0] [(.int (x0.toInt8.toInt32)), (.int 0), (.ref a3)])) rfl rfl (hb hby d21_31)
 have f5_A_a1 := A_a1.other W5 ne_a1_a3
 have z5 : n0 ≤ h5.size := by rw [W5.size]; exact Z0
 have K5 : Keep h0 h5 [a3] := (Keep.refl h0 [a3]).wr W5 (Or.inl (List.mem_of_getElem? (i := 0) rfl))
 have v5 : Arv Z h5 a3 k3 .byte (1 : Int32) [(.int (nar .byte (x0.toInt8.toInt32)))] (.int 0) := Arv.set Ar5 q5 S5 n5_ H5 G5 (fits_nar_byte _) W5 0 rfl (Nat.le_of_ble_eq_true rfl)
 have N5 := Fr.snoc X5 N0 g_a3
 have R6 := fun t k => R4 t (st5 t k)
 have R7 : own_R p e below T5 (mkF m 46 #[rv a1, iv 1, rv a3, iv 1, iv 1, iv 1, iv x0] [(.int 1)]) s₁ f0 := fun t k => R6 t (by
  refine XS.iinc X5.here hx rfl (hb hby d21_32) rfl (l' := #[rv a1, iv 1, rv a3, iv 0, iv 1, iv 0, iv x0]) rfl ?_
  refine XS.iinc X5.here hx rfl (hb hby d21_35) rfl (l' := #[rv a1, iv 1, rv a3, iv 1, iv 1, iv 0, iv x0]) rfl ?_
  refine XS.iinc X5.here hx rfl (hb hby d21_38) rfl (l' := #[rv a1, iv 1, rv a3, iv 1, iv 1, iv 1, iv x0]) rfl ?_
  refine XS.goto X5.here hx rfl (pc0 := 41) (pc' := 3) rfl (hb hby d21_41) (by decide) (by decide) ?_
  refine XS.iload X5.here hx rfl (hb hby d21_3) rfl ?_
  refine XS.iload X5.here hx rfl (hb hby d21_5) rfl ?_
  refine XS.icmpYes X5.here hx rfl (pc0 := 7) (pc' := 44) rfl (hb hby d21_7) rfl (flt (by decide : ¬ ((1 : Int32) < (1 : Int32)))).2.1 (by decide) (by decide) ?_
  refine XS.iload X5.here hx rfl (hb hby d21_44) rfl ?_
  exact k)
 obtain ⟨fs, hr, hrun, hended, hW, hsame⟩ := X5.leave (v := some (.int 1)) (fun h => by rw [Bd.returns] at h; cases h)
 refine ⟨_, _, pre0 _ (R7 _ ?_), hrun, hended, _, _, rfl, ?_, ⟨_, rfl⟩, hW, hsame.mono (by decide) (by decide)⟩
 ·
  show own_S p e below T5 (mkF m 46 #[rv a1, iv 1, rv a3, iv 1, iv 1, iv 1, iv x0] [(.int 1)]) _
  exact retI X5 hx Bd.returns (hb hby d21_46) hr
 ·
  show Q_rmCompI1 Z a1 k1 a3 k3 x0 h0 n0 _ T5.heap _
  rw [e5]
  exact ⟨rfl, N5, K5, v5⟩
theorem ef_rmComp1 (m : MethodId) (x0 : Addr) (x1 : Int32) (x2 : Int32) : entryFrame m #[(.ref x0), (.int x1), (.int x2)] 6 = mkF m 0 (fA60 x0 x1 x2) [] := by first | (simp [entryFrame, mkF, argsToLocals, Value.category]; done) | rfl
set_option maxRecDepth 65536 in
set_option maxHeartbeats 40000000 in
theorem rmComp1 (l : Launch) (Z : State) (a0 : Array Value) (hw : ∀ d ∈ tables_1, d.before a0 Z = true) (ws : List Jvm.Cond) (a1 : Addr) (k1 : ClassId) (x0 : Int32) (h0 : Heap) (n0 : Nat) (Z0 : n0 ≤ h0.size) (A_a1 : Arv Z h0 a1 k1 .char (1 : Int32) [(.int x0)] (.int 0)) (hx0 : ¬ (255 : Int32) < x0) :
  own_M l yN7 (Jvm.Cond.code yN7 jdk_52_method_16_code 6 (some (.array .byte)) :: ws) ({ frames := 1, cells := 1, slots := 4, locals := 18 } : Room) #[(.ref a1), (.int 0), (.int 1)] Z h0 (Q_rmCp Z (1 : Int32) [(.int (nar .byte (x0.toInt8.toInt32)))] h0 n0) := by
 refine MetFree.of_bodySF (plainFor_of_name pn_9) hisR ?_
 intro p e s m args below meth c s₁ Bd hml0 hP hK
 obtain ⟨rfl, hZ, hh⟩ := hP
 have hx := Bd.exec
 have hby := Bd.bytes
 have hml : c.maxLocals = 6 := hml0
 have hown : s.vm.findClass "java/lang/StringUTF16" = some m.cls := findClass_of_methodNamed Bd.named
 have hnm := (name_of_methodNamed Bd.named Bd.method).1
 have X0 : Stand p l e ({ frames := 1, cells := 1, slots := 4, locals := 18 } : Room) s m #[(.ref a1), (.int 0), (.int 1)] below meth c s₁ [] 0 0 := Stand.of_body Bd
 have hU : ∀ (i : Nat) (d : Jvm.Cond), tables_1[i]? = some d → d.before a0 Z = true := fun i d h => hw d (List.mem_of_getElem? h)
 have e0 : s₁.heap = h0 := by rw [← hh, Bd.state]; rfl
 have N0 := Fr.nil n0
 obtain ⟨f0, hf0⟩ : ∃ f : JFrame, f = mkF m 0 (fA70 a1) [] := ⟨_, rfl⟩
 have pre0 : ∀ t, own_S p e below s₁ f0 t → Steps p.tables e below (s₁.setTop (entryFrame m #[(.ref a1), (.int 0), (.int 1)] 6)) t := fun t k => castTop ((ef_rmComp1 m a1 (0 : Int32) (1 : Int32)).trans hf0.symm) k
 have R0 : own_R p e below s₁ (mkF m 0 (fA70 a1) []) s₁ f0 := by rw [hf0]; exact fun t k => k
 have R1 : own_R p e below s₁ (mkF m 1 (fA70 a1) [(.int 1)]) s₁ f0 := fun t k => R0 t (by
  refine XS.iloadN X0.here hx rfl (hb hby d20_0) rfl ?_
  exact k)
 obtain ⟨T2, h2, k2, X2, e2, E2, A2, st2⟩ := newP X0 hx hZ (hU 22 _ rfl) e0 (g := (mkF m 1 (fA70 a1) [(.int 1)])) rfl (hb hby d20_1) rfl (by decide) (cap := 1) (by decide) (by decide) (by decide) (by decide)
 obtain ⟨b2, g2⟩ : ∃ z, z = h0.size := ⟨_, rfl⟩
 rw [← g2] at A2 st2
 have g_b2 : n0 ≤ b2 := Nat.le_trans Z0 (Nat.le_of_eq g2.symm)
 have sz_b2 : h0.size ≤ b2 := Nat.le_trans (Keep.refl h0 []).1 (Nat.le_of_eq g2.symm)
 have ne_a1_b2 : a1 ≠ b2 := Nat.ne_of_lt (Nat.lt_of_lt_of_le A_a1.lt (Nat.le_of_eq g2.symm))
 have f2_A_a1 := A_a1.ext E2
 have z2 : n0 ≤ h2.size := Nat.le_trans Z0 E2.1
 have K2 : Keep h0 h2 [] := (Keep.refl h0 []).ext E2
 have v2 : Arv Z h2 b2 k2 .byte (1 : Int32) [(.int 0)] (.int 0) := (Arv.new A2 (by decide)).pad (pad_rep [] (.int 0) 1)
 have R3 := fun t k => R1 t (st2 t k)
 have R4 : own_R p e below T2 (mkF m 9 #[rv a1, iv 0, iv 1, rv b2, .unset, .unset] [(.int 1), (.int 0), (.ref b2), (.int 0), (.ref a1)]) s₁ f0 := fun t k => R3 t (by
  refine XS.astoreN X2.here hx rfl (hb hby d20_3) rfl rfl (l' := #[rv a1, iv 0, iv 1, rv b2, .unset, .unset]) rfl ?_
  refine XS.aloadN X2.here hx rfl (hb hby d20_4) rfl rfl ?_
  refine XS.iloadN X2.here hx rfl (hb hby d20_5) rfl ?_
  refine XS.aloadN X2.here hx rfl (hb hby d20_6) rfl rfl ?_
  refine XS.iconst X2.here hx rfl (hb hby d20_7) ?_
  refine XS.iloadN X2.here hx rfl (hb hby d20_8) rfl ?_
  exact k)
 obtain ⟨_, _, ⟨T5, L5, k5, n5⟩, -, X5, ⟨Lc5, hQ5, l5, y5, z5⟩, st5⟩ := Jvm.LawKit.callS X2 hx (y := yN9) hown (mvT hZ (hU 105 _ rfl)) (mvT hZ (hU 106 _ rfl)) (mvT hZ (hU 103 _ rfl)) (mvT hZ (hU 107 _ rfl)) (by decide) (backOf (W := 0) (rmCompI1 l Z a0 hw [] a1 k1 b2 k2 x0 h2 n0 z2 f2_A_a1 v2 g_b2 ne_a1_b2 hx0) hZ (hU 107 _ rfl) (hU 103 _ rfl) (by decide) (by decide)) (g := (mkF m 9 #[rv a1, iv 0, iv 1, rv b2, .unset, .unset] [(.int 1), (.int 0), (.ref b2), (.int 0), (.ref a1)])) rfl (by rw [hml]; rfl) (argsL := [(.ref a1), (.int 0), (.ref b2), (.int 0), (.int 1)]) (rest := []) (lenOf pd_10 rfl) rfl (Nat.le_of_eq rfl) (hb hby d20_9) (fun _ _ => ⟨rfl, e2, (by decide : 1 + 0 ≤ _), (by decide : 1 + 0 ≤ _)⟩)
 dsimp only [Pt.U, Pt.locs, Pt.cells, Pt.slots] at X5 l5 y5 z5 st5 hQ5
 subst l5 y5 z5
 obtain ⟨rfl, N5q, p5_0, p5_1⟩ := hQ5
 have N5 := Fr.app N0 N5q
 have f5_A_a1 := f2_A_a1.keep p5_0 (ninS ne_a1_b2 nin0)
 have z5 : n0 ≤ T5.heap.size := Nat.le_trans z2 p5_0.1
 have K5 : Keep h0 T5.heap [] := K2.trans p5_0 (allS (Or.inr sz_b2) all0)
 have R6 := fun t k => R4 t (st5 t k)
 have R7 : own_R p e below T5 (mkF m 58 #[rv a1, iv 0, iv 1, rv b2, iv 1, .unset] [(.ref b2)]) s₁ f0 := fun t k => R6 t (by
  refine XS.istore X5.here hx rfl (hb hby d20_12) rfl (l' := #[rv a1, iv 0, iv 1, rv b2, iv 1, .unset]) rfl ?_
  refine XS.iload X5.here hx rfl (hb hby d20_14) rfl ?_
  refine XS.iloadN X5.here hx rfl (hb hby d20_16) rfl ?_
  refine XS.icmpYes X5.here hx rfl (pc0 := 17) (pc' := 57) rfl (hb hby d20_17) rfl (teq (by decide : (1 : Int32) = (1 : Int32))).1 (by decide) (by decide) ?_
  refine XS.aloadN X5.here hx rfl (hb hby d20_57) rfl rfl ?_
  exact k)
 obtain ⟨fs, hr, hrun, hended, hW, hsame⟩ := X5.leave (v := some (.ref b2)) (fun h => by rw [Bd.returns] at h; cases h)
 refine ⟨_, _, pre0 _ (R7 _ ?_), hrun, hended, _, _, rfl, ?_, ⟨_, rfl⟩, hW, hsame.mono (by decide) (by decide)⟩
 ·
  show own_S p e below T5 (mkF m 58 #[rv a1, iv 0, iv 1, rv b2, iv 1, .unset] [(.ref b2)]) _
  exact retOut X5 hx (t := (.array .byte)) Bd.returns rfl (Or.inr (Or.inr (Or.inr (Or.inr ⟨rfl, rfl, rfl⟩)))) (hb hby d20_58) hr
 ·
  show (Q_rmCp Z (1 : Int32) [(.int (nar .byte (x0.toInt8.toInt32)))] h0 n0) _ T5.heap _
  exact ⟨b2, k2, rfl, N5, K5, p5_1, sz_b2⟩
theorem ef_rmCfal (m : MethodId) (x0 : Addr) (x1 : Int32) : entryFrame m #[(.ref x0), (.int x1)] 2 = mkF m 0 #[rv x0, iv x1] [] := by first | (simp [entryFrame, mkF, argsToLocals, Value.category]; done) | rfl
def Q_rmCfal (Z : State) (a1 : Addr) (k1 : ClassId) (z : Int32) (vs : List Value) (h0 : Heap) (n0 : Nat) (v : Option Value) (h : Heap) (L : List Loc) : Prop := v = some (.int 0) ∧ Fr n0 L ∧ h = h0
set_option maxRecDepth 65536 in
set_option maxHeartbeats 40000000 in
theorem rmCfal (l : Launch) (Z : State) (a0 : Array Value) (hw : ∀ d ∈ tables_1, d.before a0 Z = true) (ws : List Jvm.Cond) (a1 : Addr) (k1 : ClassId) (z : Int32) (vs : List Value) (h0 : Heap) (n0 : Nat) (Z0 : n0 ≤ h0.size) (A_a1 : Arv Z h0 a1 k1 .byte z vs (.int 0)) :
  own_M l yN27 (Jvm.Cond.code yN27 jdk_52_method_15_code 2 (some .byte) :: ws) ({ frames := 0, cells := 0, slots := 0, locals := 0 } : Room) #[(.ref a1), (.int z)] Z h0 (Q_rmCfal Z a1 k1 z vs h0 n0) := by
 refine MetFree.of_bodySF (plainFor_of_name pn_9) hisR ?_
 intro p e s m args below meth c s₁ Bd hml0 hP hK
 obtain ⟨rfl, hZ, hh⟩ := hP
 have hx := Bd.exec
 have hby := Bd.bytes
 have hml : c.maxLocals = 2 := hml0
 have hown : s.vm.findClass "java/lang/StringUTF16" = some m.cls := findClass_of_methodNamed Bd.named
 have hnm := (name_of_methodNamed Bd.named Bd.method).1
 have X0 : Stand p l e ({ frames := 0, cells := 0, slots := 0, locals := 0 } : Room) s m #[(.ref a1), (.int z)] below meth c s₁ [] 0 0 := Stand.of_body Bd
 have hU : ∀ (i : Nat) (d : Jvm.Cond), tables_1[i]? = some d → d.before a0 Z = true := fun i d h => hw d (List.mem_of_getElem? h)
 have e0 : s₁.heap = h0 := by rw [← hh, Bd.state]; rfl
 have N0 := Fr.nil n0
 obtain ⟨f0, hf0⟩ : ∃ f : JFrame, f = mkF m 0 #[rv a1, iv z] [] := ⟨_, rfl⟩
 have pre0 : ∀ t, own_S p e below s₁ f0 t → Steps p.tables e below (s₁.setTop (entryFrame m #[(.ref a1), (.int z)] 2)) t := fun t k => castTop ((ef_rmCfal m a1 z).trans hf0.symm) k
 have R0 : own_R p e below s₁ (mkF m 0 #[rv a1, iv z] []) s₁ f0 := by rw [hf0]; exact fun t k => k
 have R1 : own_R p e below s₁ (mkF m 2 #[rv a1, iv z] [(.ref a1), (.int z)]) s₁ f0 := fun t k => R0 t (by
  refine XS.iloadN X0.here hx rfl (hb hby d22_0) rfl ?_
  refine XS.aloadN X0.here hx rfl (hb hby d22_1) rfl rfl ?_
  exact k)
 obtain ⟨cl2, Ar2, -, S2, N2_, -, -⟩ := id A_a1
 have R3 : own_R p e below s₁ (mkF m 3 #[rv a1, iv z] [(.int z), (.int z)]) s₁ f0 := fun t k => R1 t (X0.arraylength hx (by rw [e0]; exact Ar2.1) (State.isArrayOf_alike hZ.alike Ar2.2.1) (g := (mkF m 2 #[rv a1, iv z] [(.ref a1), (.int z)])) rfl rfl (hb hby d22_2) _ (by rw [len_of S2 N2_]; exact k))
 have R4 : own_R p e below s₁ (mkF m 4 #[rv a1, iv z] [(.int (z - z))]) s₁ f0 := fun t k => R3 t (by
  refine XS.isub X0.here hx rfl (hb hby d22_3) rfl ?_
  exact k)
 have R5 : own_R p e below s₁ (mkF m 4 #[rv a1, iv z] [(.int 0)]) s₁ f0 := by have q := R4; rw [((own_ss z) : (z - z) = (0 : Int32))] at q; exact q
 have R6 : own_R p e below s₁ (mkF m 7 #[rv a1, iv z] [(.int (((0 : Int32).toUInt32 >>> ((31 : Int32) &&& 31).toUInt32).toInt32))]) s₁ f0 := fun t k => R5 t (by
  refine XS.bipush X0.here hx rfl (hb hby d22_4) ?_
  refine XS.iushr X0.here hx rfl (hb hby d22_6) rfl ?_
  exact k)
 have R7 : own_R p e below s₁ (mkF m 7 #[rv a1, iv z] [(.int 0)]) s₁ f0 := by have q := R6; rw [((by decide) : (((0 : Int32).toUInt32 >>> ((31 : Int32) &&& 31).toUInt32).toInt32) = (0 : Int32))] at q; exact q
 have R8 : own_R p e below s₁ (mkF m 8 #[rv a1, iv z] [(.int ((0 : Int32).toInt8.toInt32))]) s₁ f0 := fun t k => R7 t (by
  refine XS.i2b X0.here hx rfl (hb hby d22_7) rfl ?_
  exact k)
 have R9 : own_R p e below s₁ (mkF m 8 #[rv a1, iv z] [(.int 0)]) s₁ f0 := by have q := R8; rw [((by decide) : ((0 : Int32).toInt8.toInt32) = (0 : Int32))] at q; exact q
 obtain ⟨fs, hr, hrun, hended, hW, hsame⟩ := X0.leave (v := some (.int 0)) (fun h => by rw [Bd.returns] at h; cases h)
 refine ⟨_, _, pre0 _ (R9 _ ?_), hrun, hended, _, _, rfl, ?_, ⟨_, rfl⟩, hW, hsame.mono (by decide) (by decide)⟩
 ·
  show own_S p e below s₁ (mkF m 8 #[rv a1, iv z] [(.int 0)]) _
  exact retN X0 hx (t := .byte) Bd.returns (by simp) (hb hby d22_8) hr
 ·
  show Q_rmCfal Z a1 k1 z vs h0 n0 _ s₁.heap _
  rw [e0]
  exact ⟨rfl, N0, rfl⟩
theorem ef_rmStrV (m : MethodId) (x0 : Addr) (x1 : Addr) (x2 : Int32) (x3 : Int32) : entryFrame m #[(.ref x0), (.ref x1), (.int x2), (.int x3), .null] 6 = mkF m 0 #[rv x0, rv x1, iv x2, iv x3, .val .null, .unset] [] := by first | (simp [entryFrame, mkF, argsToLocals, Value.category]; done) | rfl
def Q_rmStrV (Z : State) (a1 : Addr) (a2 : Addr) (u1 : Value) (u2 : Value) (k2 : ClassId) (p2 : Int32) (vs : List Value) (ys : List Value) (cs : Int32) (h0 : Heap) (n0 : Nat) (v : Option Value) (h : Heap) (L : List Loc) : Prop := ∃ b2 : Addr, ∃ kb2 : ClassId, v = none ∧ Fr n0 L ∧ Keep h0 h [a1] ∧ (Fld Z h a1 "java/lang/String" "value" "[B" (.ref b2)) ∧ (Fld Z h a1 "java/lang/String" "coder" "B" (.int 0)) ∧ (Arv Z h b2 kb2 .byte p2 ys (.int 0)) ∧ (h0.size ≤ b2)
set_option maxRecDepth 65536 in
set_option maxHeartbeats 40000000 in
theorem rmStrV (l : Launch) (Z : State) (a0 : Array Value) (hw : ∀ d ∈ tables_1, d.before a0 Z = true) (ws : List Jvm.Cond) (a1 : Addr) (a2 : Addr) (u1 : Value) (u2 : Value) (k2 : ClassId) (p2 : Int32) (vs : List Value) (ys : List Value) (cs : Int32) (h0 : Heap) (n0 : Nat) (Z0 : n0 ≤ h0.size) (E_a1 : Exa Z h0 a1 "java/lang/String") (F_value_a1 : Fld Z h0 a1 "java/lang/String" "value" "[B" u1) (F_coder_a1 : Fld Z h0 a1 "java/lang/String" "coder" "B" u2) (g_a1 : n0 ≤ a1) (A_a2 : Arv Z h0 a2 k2 .char p2 vs (.int 0)) (ne_a1_a2 : a1 ≠ a2) (S_String_COMPACT_STRINGS : Sta Z h0 "java/lang/String" "COMPACT_STRINGS" "Z" (.int cs)) (hcs : ¬ cs = (0 : Int32)) (hne : ¬ p2 = (0 : Int32)) (hC : own_M l yN7 [Jvm.Cond.code yN7 jdk_52_method_16_code 6 (some (.array .byte))] ({ frames := 1, cells := 1, slots := 4, locals := 18 } : Room) #[(.ref a2), (.int 0), (.int p2)] Z h0 (Q_rmCp Z p2 ys h0 n0)) :
  own_M l yN19 (Jvm.Cond.code yN19 jdk_42_method_149_code 6 none :: ws) ({ frames := 2, cells := 1, slots := 4, locals := 35 } : Room) #[(.ref a1), (.ref a2), (.int 0), (.int p2), .null] Z h0 (Q_rmStrV Z a1 a2 u1 u2 k2 p2 vs ys cs h0 n0) := by
 refine MetFree.of_bodySF (plainFor_of_name pn_1) hisR ?_
 intro p e s m args below meth c s₁ Bd hml0 hP hK
 obtain ⟨rfl, hZ, hh⟩ := hP
 have hx := Bd.exec
 have hby := Bd.bytes
 have hml : c.maxLocals = 6 := hml0
 have hown : s.vm.findClass "java/lang/String" = some m.cls := findClass_of_methodNamed Bd.named
 have hnm := (name_of_methodNamed Bd.named Bd.method).1
 have X0 : Stand p l e ({ frames := 2, cells := 1, slots := 4, locals := 35 } : Room) s m #[(.ref a1), (.ref a2), (.int 0), (.int p2), .null] below meth c s₁ [] 0 0 := Stand.of_body Bd
 have hU : ∀ (i : Nat) (d : Jvm.Cond), tables_1[i]? = some d → d.before a0 Z = true := fun i d h => hw d (List.mem_of_getElem? h)
 have e0 : s₁.heap = h0 := by rw [← hh, Bd.state]; rfl
 have N0 := Fr.nil n0
 obtain ⟨f0, hf0⟩ : ∃ f : JFrame, f = mkF m 0 #[rv a1, rv a2, iv 0, iv p2, .val .null, .unset] [] := ⟨_, rfl⟩
 have pre0 : ∀ t, own_S p e below s₁ f0 t → Steps p.tables e below (s₁.setTop (entryFrame m #[(.ref a1), (.ref a2), (.int 0), (.int p2), .null] 6)) t := fun t k => castTop ((ef_rmStrV m a1 a2 (0 : Int32) p2).trans hf0.symm) k
 have R0 : own_R p e below s₁ (mkF m 0 #[rv a1, rv a2, iv 0, iv p2, .val .null, .unset] []) s₁ f0 := by rw [hf0]; exact fun t k => k
 have R1 : own_R p e below s₁ (mkF m 1 #[rv a1, rv a2, iv 0, iv p2, .val .null, .unset] [(.ref a1)]) s₁ f0 := fun t k => R0 t (by
  refine XS.aloadN X0.here hx rfl (hb hby d4_0) rfl rfl ?_
  exact k)
 obtain ⟨T2, X2, e2, st2⟩ := initO X0 hx hZ hown (hU 18 _ rfl) (hU 19 _ rfl) (hU 20 _ rfl) e0 (g := (mkF m 1 #[rv a1, rv a2, iv 0, iv p2, .val .null, .unset] [(.ref a1)])) rfl (by rw [hml]; rfl) rfl (hb hby d4_1) (by decide) (W := 0) (Nat.le_of_eq rfl) (by decide)
 have R3 := fun t k => R1 t (st2 t k)
 have R4 : own_R p e below T2 (mkF m 27 #[rv a1, rv a2, iv 0, iv p2, .val .null, .unset] []) s₁ f0 := fun t k => R3 t (by
  refine XS.iloadN X2.here hx rfl (hb hby d4_4) rfl ?_
  refine XS.ifYes X2.here hx rfl (pc0 := 5) (pc' := 27) rfl (hb hby d4_5) rfl ((if0 _ _).trans (feq hne).2) (by decide) (by decide) ?_
  exact k)
 obtain ⟨T5, X5, e5, st5⟩ := getS2 X2 hx hZ hown (host := "") (Or.inl (hU 60 _ rfl)) Via.refl e2 S_String_COMPACT_STRINGS (g := (mkF m 27 #[rv a1, rv a2, iv 0, iv p2, .val .null, .unset] [])) rfl (hb hby d4_27)
 have R6 := fun t k => R4 t (st5 t k)
 have R7 : own_R p e below T5 (mkF m 36 #[rv a1, rv a2, iv 0, iv p2, .val .null, .unset] [(.int p2), (.int 0), (.ref a2)]) s₁ f0 := fun t k => R6 t (by
  refine XS.ifNo X5.here hx rfl (hb hby d4_30) rfl ((if0 _ _).trans (feq hcs).1) ?_
  refine XS.aloadN X5.here hx rfl (hb hby d4_33) rfl rfl ?_
  refine XS.iloadN X5.here hx rfl (hb hby d4_34) rfl ?_
  refine XS.iloadN X5.here hx rfl (hb hby d4_35) rfl ?_
  exact k)
 obtain ⟨_, _, ⟨T8, L8, k8, n8⟩, -, X8, ⟨Lc8, hQ8, l8, y8, z8⟩, st8⟩ := Jvm.LawKit.callS X5 hx (y := yN7) hown (mvT hZ (hU 101 _ rfl)) (mvT hZ (hU 102 _ rfl)) (mvT hZ (hU 103 _ rfl)) (mvT hZ (hU 104 _ rfl)) (by decide) (backOf (W := 0) hC hZ (hU 104 _ rfl) (hU 103 _ rfl) (by decide) (by decide)) (g := (mkF m 36 #[rv a1, rv a2, iv 0, iv p2, .val .null, .unset] [(.int p2), (.int 0), (.ref a2)])) rfl (by rw [hml]; rfl) (argsL := [(.ref a2), (.int 0), (.int p2)]) (rest := []) (lenOf pd_11 rfl) rfl (Nat.le_of_eq rfl) (hb hby d4_36) (fun _ _ => ⟨rfl, e5, (by decide : 0 + 1 ≤ _), (by decide : 0 + 4 ≤ _)⟩)
 dsimp only [Pt.U, Pt.locs, Pt.cells, Pt.slots] at X8 l8 y8 z8 st8 hQ8
 subst l8 y8 z8
 obtain ⟨b2_8, kb2_8, rfl, N8q, p8_0, p8_1, p8_2⟩ := hQ8
 have N8 := Fr.app N0 N8q
 have f8_E_a1 := E_a1.keep p8_0
 have f8_F_value_a1 := F_value_a1.keep p8_0 nin0
 have f8_F_coder_a1 := F_coder_a1.keep p8_0 nin0
 have f8_A_a2 := A_a2.keep p8_0 nin0
 have f8_S_String_COMPACT_STRINGS := own_sta_keep S_String_COMPACT_STRINGS p8_0 ns0
 have z8 : n0 ≤ T8.heap.size := Nat.le_trans Z0 p8_0.1
 have K8 : Keep h0 T8.heap [a1] := (Keep.refl h0 [a1]).trans p8_0 all0
 have g_b2_8 : n0 ≤ b2_8 := Nat.le_trans Z0 p8_2
 have sz_b2_8 : h0.size ≤ b2_8 := Nat.le_trans (Keep.refl h0 [a1]).1 p8_2
 have ne_a1_b2_8 : a1 ≠ b2_8 := Nat.ne_of_lt (Nat.lt_of_lt_of_le F_value_a1.lt p8_2)
 have ne_a2_b2_8 : a2 ≠ b2_8 := Nat.ne_of_lt (Nat.lt_of_lt_of_le A_a2.lt p8_2)
 have R9 := fun t k => R7 t (st8 t k)
 have R10 : own_R p e below T8 (mkF m 45 #[rv a1, rv a2, iv 0, iv p2, .val .null, rv b2_8] [(.int p2), (.ref b2_8), (.ref a1)]) s₁ f0 := fun t k => R9 t (by
  refine XS.astore X8.here hx rfl (hb hby d4_39) rfl rfl (l' := #[rv a1, rv a2, iv 0, iv p2, .val .null, rv b2_8]) rfl ?_
  refine XS.aloadN X8.here hx rfl (hb hby d4_41) rfl rfl ?_
  refine XS.aload X8.here hx rfl (hb hby d4_42) rfl rfl ?_
  refine XS.iloadN X8.here hx rfl (hb hby d4_44) rfl ?_
  exact k)
 obtain ⟨_, _, ⟨T11, L11, k11, n11⟩, -, X11, ⟨Lc11, hQ11, l11, y11, z11⟩, st11⟩ := Jvm.LawKit.callS X8 hx (y := yN27) hown (mvT hZ (hU 108 _ rfl)) (mvT hZ (hU 109 _ rfl)) (mvT hZ (hU 103 _ rfl)) (mvT hZ (hU 110 _ rfl)) (by decide) (backOf (W := 1) (rmCfal l Z a0 hw [] b2_8 kb2_8 p2 ys T8.heap n0 z8 p8_1) hZ (hU 110 _ rfl) (hU 103 _ rfl) (by decide) (by decide)) (g := (mkF m 45 #[rv a1, rv a2, iv 0, iv p2, .val .null, rv b2_8] [(.int p2), (.ref b2_8), (.ref a1)])) rfl (by rw [hml]; rfl) (argsL := [(.ref b2_8), (.int p2)]) (rest := [(.ref a1)]) (lenOf pd_12 rfl) rfl (Nat.le_of_eq rfl) (hb hby d4_45) (fun _ _ => ⟨rfl, rfl, (by decide : 1 + 0 ≤ _), (by decide : 4 + 0 ≤ _)⟩)
 dsimp only [Pt.U, Pt.locs, Pt.cells, Pt.slots] at X11 l11 y11 z11 st11 hQ11
 subst l11 y11 z11
 obtain ⟨rfl, N11q, p11_0⟩ := hQ11
 have N11 := Fr.app N8 N11q
 have R12 := fun t k => R10 t (st11 t k)
 obtain ⟨T13, h13, X13, e13, W13, st13⟩ := putFN X11 hx hZ hown (hU 28 _ rfl) Via.refl p11_0 f8_F_coder_a1 f8_E_a1 (Or.inr ⟨(hU 24 _ rfl), rfl, hnm⟩) (hU 6 _ rfl) (ty := .byte) (v' := (.int 0)) (by decide) rfl rfl (g := (mkF m 48 #[rv a1, rv a2, iv 0, iv p2, .val .null, rv b2_8] [(.int 0), (.ref a1)])) rfl rfl (hb hby d4_48)
 have fw13 : Fld Z h13 a1 "java/lang/String" "coder" "B" (.int 0) := f8_F_coder_a1.same W13
 have f13_E_a1 := f8_E_a1.wr W13
 have f13_F_value_a1 := f8_F_value_a1.other W13 (Or.inr (slot_ne (Or.inr (hU 23 _ rfl)) (Or.inr (hU 24 _ rfl)) (by decide) (t := (.array .byte)) (t' := .byte) (by decide) (by decide)))
 have f13_A_a2 := f8_A_a2.other W13 (Ne.symm ne_a1_a2)
 have f13_S_String_COMPACT_STRINGS := f8_S_String_COMPACT_STRINGS.wr W13
 have f13_A_b2_8 := p8_1.other W13 (Ne.symm ne_a1_b2_8)
 have z13 : n0 ≤ h13.size := by rw [W13.size]; exact z8
 have K13 : Keep h0 h13 [a1] := K8.wr W13 (Or.inl (List.mem_of_getElem? (i := 0) rfl))
 have N13 := Fr.snoc X13 N11 g_a1
 have R14 := fun t k => R12 t (st13 t k)
 have R15 : own_R p e below T13 (mkF m 54 #[rv a1, rv a2, iv 0, iv p2, .val .null, rv b2_8] [(.ref b2_8), (.ref a1)]) s₁ f0 := fun t k => R14 t (by
  refine XS.aloadN X13.here hx rfl (hb hby d4_51) rfl rfl ?_
  refine XS.aload X13.here hx rfl (hb hby d4_52) rfl rfl ?_
  exact k)
 obtain ⟨T16, h16, X16, e16, W16, st16⟩ := putF X13 hx hZ hown (host := "") (Or.inl (hU 27 _ rfl)) Via.refl e13 f13_F_value_a1 f13_E_a1 (Or.inr ⟨(hU 23 _ rfl), rfl, hnm⟩) (hU 6 _ rfl) (ty := (.array .byte)) (by decide) rfl rfl (g := (mkF m 54 #[rv a1, rv a2, iv 0, iv p2, .val .null, rv b2_8] [(.ref b2_8), (.ref a1)])) rfl rfl (hb hby d4_54)
 have fw16 : Fld Z h16 a1 "java/lang/String" "value" "[B" (.ref b2_8) := f13_F_value_a1.same W16
 have f16_E_a1 := f13_E_a1.wr W16
 have f16_F_coder_a1 := fw13.other W16 (Or.inr (slot_ne (Or.inr (hU 24 _ rfl)) (Or.inr (hU 23 _ rfl)) (by decide) (t := .byte) (t' := (.array .byte)) (by decide) (by decide)))
 have f16_A_a2 := f13_A_a2.other W16 (Ne.symm ne_a1_a2)
 have f16_S_String_COMPACT_STRINGS := f13_S_String_COMPACT_STRINGS.wr W16
 have f16_A_b2_8 := f13_A_b2_8.other W16 (Ne.symm ne_a1_b2_8)
 have z16 : n0 ≤ h16.size := by rw [W16.size]; exact z13
 have K16 : Keep h0 h16 [a1] := K13.wr W16 (Or.inl (List.mem_of_getElem? (i := 0) rfl))
 have N16 := Fr.snoc X16 N13 g_a1
 have R17 := fun t k => R15 t (st16 t k)
 obtain ⟨fs, hr, hrun, hended, hW, hsame⟩ := X16.leave (v := none) (fun _ => rfl)
 refine ⟨_, _, pre0 _ (R17 _ ?_), hrun, hended, _, _, rfl, ?_, ⟨_, rfl⟩, hW, hsame.mono (by decide) (by decide)⟩
 ·
  show own_S p e below T16 (mkF m 57 #[rv a1, rv a2, iv 0, iv p2, .val .null, rv b2_8] []) _
  exact X16.returnOut hx Bd.returns (hb hby d4_57) hr
 ·
  show Q_rmStrV Z a1 a2 u1 u2 k2 p2 vs ys cs h0 n0 _ T16.heap _
  rw [e16]
  exact ⟨b2_8, kb2_8, rfl, N16, K16, fw16, f16_F_coder_a1, f16_A_b2_8, sz_b2_8⟩
theorem ef_rmStr (m : MethodId) (x0 : Addr) (x1 : Addr) : entryFrame m #[(.ref x0), (.ref x1)] 2 = mkF m 0 #[rv x0, rv x1] [] := by first | (simp [entryFrame, mkF, argsToLocals, Value.category]; done) | rfl
def Q_rmStr (Z : State) (a1 : Addr) (a2 : Addr) (u1 : Value) (u2 : Value) (k2 : ClassId) (p2 : Int32) (vs : List Value) (ys : List Value) (cs : Int32) (h0 : Heap) (n0 : Nat) (v : Option Value) (h : Heap) (L : List Loc) : Prop := ∃ b2 : Addr, ∃ kb2 : ClassId, v = none ∧ Fr n0 L ∧ Keep h0 h [a1] ∧ (Fld Z h a1 "java/lang/String" "value" "[B" (.ref b2)) ∧ (Fld Z h a1 "java/lang/String" "coder" "B" (.int 0)) ∧ (Arv Z h b2 kb2 .byte p2 ys (.int 0)) ∧ (h0.size ≤ b2)
set_option maxRecDepth 65536 in
set_option maxHeartbeats 40000000 in
theorem rmStr (l : Launch) (Z : State) (a0 : Array Value) (hw : ∀ d ∈ tables_1, d.before a0 Z = true) (ws : List Jvm.Cond) (a1 : Addr) (a2 : Addr) (u1 : Value) (u2 : Value) (k2 : ClassId) (p2 : Int32) (vs : List Value) (ys : List Value) (cs : Int32) (h0 : Heap) (n0 : Nat) (Z0 : n0 ≤ h0.size) (E_a1 : Exa Z h0 a1 "java/lang/String") (F_value_a1 : Fld Z h0 a1 "java/lang/String" "value" "[B" u1) (F_coder_a1 : Fld Z h0 a1 "java/lang/String" "coder" "B" u2) (g_a1 : n0 ≤ a1) (A_a2 : Arv Z h0 a2 k2 .char p2 vs (.int 0)) (ne_a1_a2 : a1 ≠ a2) (S_String_COMPACT_STRINGS : Sta Z h0 "java/lang/String" "COMPACT_STRINGS" "Z" (.int cs)) (hcs : ¬ cs = (0 : Int32)) (hne : ¬ p2 = (0 : Int32)) (hC : own_M l yN7 [Jvm.Cond.code yN7 jdk_52_method_16_code 6 (some (.array .byte))] ({ frames := 1, cells := 1, slots := 4, locals := 18 } : Room) #[(.ref a2), (.int 0), (.int p2)] Z h0 (Q_rmCp Z p2 ys h0 n0)) :
  own_M l yN13 (Jvm.Cond.code yN13 jdk_42_method_3_code 2 none :: ws) ({ frames := 3, cells := 1, slots := 4, locals := 52 } : Room) #[(.ref a1), (.ref a2)] Z h0 (Q_rmStr Z a1 a2 u1 u2 k2 p2 vs ys cs h0 n0) := by
 refine MetFree.of_bodySF (plainFor_of_name pn_1) hisR ?_
 intro p e s m args below meth c s₁ Bd hml0 hP hK
 obtain ⟨rfl, hZ, hh⟩ := hP
 have hx := Bd.exec
 have hby := Bd.bytes
 have hml : c.maxLocals = 2 := hml0
 have hown : s.vm.findClass "java/lang/String" = some m.cls := findClass_of_methodNamed Bd.named
 have hnm := (name_of_methodNamed Bd.named Bd.method).1
 have X0 : Stand p l e ({ frames := 3, cells := 1, slots := 4, locals := 52 } : Room) s m #[(.ref a1), (.ref a2)] below meth c s₁ [] 0 0 := Stand.of_body Bd
 have hU : ∀ (i : Nat) (d : Jvm.Cond), tables_1[i]? = some d → d.before a0 Z = true := fun i d h => hw d (List.mem_of_getElem? h)
 have e0 : s₁.heap = h0 := by rw [← hh, Bd.state]; rfl
 have N0 := Fr.nil n0
 obtain ⟨f0, hf0⟩ : ∃ f : JFrame, f = mkF m 0 #[rv a1, rv a2] [] := ⟨_, rfl⟩
 have pre0 : ∀ t, own_S p e below s₁ f0 t → Steps p.tables e below (s₁.setTop (entryFrame m #[(.ref a1), (.ref a2)] 2)) t := fun t k => castTop ((ef_rmStr m a1 a2).trans hf0.symm) k
 have R0 : own_R p e below s₁ (mkF m 0 #[rv a1, rv a2] []) s₁ f0 := by rw [hf0]; exact fun t k => k
 have R1 : own_R p e below s₁ (mkF m 4 #[rv a1, rv a2] [(.ref a2), (.int 0), (.ref a2), (.ref a1)]) s₁ f0 := fun t k => R0 t (by
  refine XS.aloadN X0.here hx rfl (hb hby d3_0) rfl rfl ?_
  refine XS.aloadN X0.here hx rfl (hb hby d3_1) rfl rfl ?_
  refine XS.iconst X0.here hx rfl (hb hby d3_2) ?_
  refine XS.aloadN X0.here hx rfl (hb hby d3_3) rfl rfl ?_
  exact k)
 obtain ⟨cl2, Ar2, -, S2, N2_, -, -⟩ := id A_a2
 have R3 : own_R p e below s₁ (mkF m 5 #[rv a1, rv a2] [(.int p2), (.int 0), (.ref a2), (.ref a1)]) s₁ f0 := fun t k => R1 t (X0.arraylength hx (by rw [e0]; exact Ar2.1) (State.isArrayOf_alike hZ.alike Ar2.2.1) (g := (mkF m 4 #[rv a1, rv a2] [(.ref a2), (.int 0), (.ref a2), (.ref a1)])) rfl rfl (hb hby d3_4) _ (by rw [len_of S2 N2_]; exact k))
 have R4 : own_R p e below s₁ (mkF m 6 #[rv a1, rv a2] [.null, (.int p2), (.int 0), (.ref a2), (.ref a1)]) s₁ f0 := fun t k => R3 t (by
  refine XS.aconstNull X0.here hx rfl (hb hby d3_5) ?_
  exact k)
 obtain ⟨_, _, ⟨T5, L5, k5, n5⟩, -, X5, ⟨Lc5, hQ5, l5, y5, z5⟩, st5⟩ := X0.specialBack hx (y := yN19) rfl hown (mvT hZ (hU 14 _ rfl)) (mvT hZ (hU 15 _ rfl)) (mvT hZ (hU 17 _ rfl)) (by decide) (backOf (W := 0) (rmStrV l Z a0 hw [] a1 a2 u1 u2 k2 p2 vs ys cs h0 n0 Z0 E_a1 F_value_a1 F_coder_a1 g_a1 A_a2 ne_a1_a2 S_String_COMPACT_STRINGS hcs hne hC) hZ (hU 17 _ rfl) (hU 7 _ rfl) (by decide) (by decide)) (g := (mkF m 6 #[rv a1, rv a2] [.null, (.int p2), (.int 0), (.ref a2), (.ref a1)])) rfl (by rw [hml]; rfl) (Steps.refl _) (a := a1) (argsL := [(.ref a2), (.int 0), (.int p2), .null]) (rest := []) (lenOf pd_13 rfl) rfl (Nat.le_of_eq rfl) (hb hby d3_6) (fun _ _ => ⟨rfl, e0, (by decide : 0 + 1 ≤ _), (by decide : 0 + 4 ≤ _)⟩)
 dsimp only [Pt.U, Pt.locs, Pt.cells, Pt.slots] at X5 l5 y5 z5 st5 hQ5
 subst l5 y5 z5
 obtain ⟨b2_5, kb2_5, rfl, N5q, p5_0, p5_1, p5_2, p5_3, p5_4⟩ := hQ5
 have N5 := Fr.app N0 N5q
 have f5_E_a1 := E_a1.keep p5_0
 have f5_A_a2 := A_a2.keep p5_0 (ninS (Ne.symm ne_a1_a2) nin0)
 have f5_S_String_COMPACT_STRINGS := own_sta_keep S_String_COMPACT_STRINGS p5_0 (nsS E_a1.nostat ns0)
 have z5 : n0 ≤ T5.heap.size := Nat.le_trans Z0 p5_0.1
 have K5 : Keep h0 T5.heap [a1] := (Keep.refl h0 [a1]).trans p5_0 (allS (Or.inl (List.mem_of_getElem? (i := 0) rfl)) all0)
 have g_b2_5 : n0 ≤ b2_5 := Nat.le_trans Z0 p5_4
 have sz_b2_5 : h0.size ≤ b2_5 := Nat.le_trans (Keep.refl h0 [a1]).1 p5_4
 have ne_a1_b2_5 : a1 ≠ b2_5 := Nat.ne_of_lt (Nat.lt_of_lt_of_le F_value_a1.lt p5_4)
 have ne_a2_b2_5 : a2 ≠ b2_5 := Nat.ne_of_lt (Nat.lt_of_lt_of_le A_a2.lt p5_4)
 have R6 := fun t k => R4 t (st5.trans k)
 obtain ⟨fs, hr, hrun, hended, hW, hsame⟩ := X5.leave (v := none) (fun _ => rfl)
 refine ⟨_, _, pre0 _ (R6 _ ?_), hrun, hended, _, _, rfl, ?_, ⟨_, rfl⟩, hW, hsame.mono (by decide) (by decide)⟩
 ·
  show own_S p e below T5 (mkF m 9 #[rv a1, rv a2] []) _
  exact X5.returnOut hx Bd.returns (hb hby d3_9) hr
 ·
  show Q_rmStr Z a1 a2 u1 u2 k2 p2 vs ys cs h0 n0 _ T5.heap _
  exact ⟨b2_5, kb2_5, rfl, N5, K5, p5_1, p5_2, p5_3, sz_b2_5⟩
theorem ef_rmStrV0 (m : MethodId) (x0 : Addr) (x1 : Addr) (x2 : Int32) (x3 : Int32) : entryFrame m #[(.ref x0), (.ref x1), (.int x2), (.int x3), .null] 6 = mkF m 0 #[rv x0, rv x1, iv x2, iv x3, .val .null, .unset] [] := by first | (simp [entryFrame, mkF, argsToLocals, Value.category]; done) | rfl
def Q_rmStrV0 (Z : State) (a1 : Addr) (a2 : Addr) (u2 : Value) (k2 : ClassId) (h0 : Heap) (n0 : Nat) (v : Option Value) (h : Heap) (L : List Loc) : Prop := ∃ b : Addr, ∃ kb : ClassId, v = none ∧ Fr n0 L ∧ Keep h0 h [a1] ∧ (Fld Z h a1 "java/lang/String" "value" "[B" (.ref b)) ∧ (Fld Z h a1 "java/lang/String" "coder" "B" (.int 0)) ∧ (Arv Z h b kb .byte (0 : Int32) [] (.int 0))
set_option maxRecDepth 65536 in
set_option maxHeartbeats 40000000 in
theorem rmStrV0 (l : Launch) (Z : State) (a0 : Array Value) (hw : ∀ d ∈ tables_1, d.before a0 Z = true) (ws : List Jvm.Cond) (a1 : Addr) (a2 : Addr) (u2 : Value) (k2 : ClassId) (h0 : Heap) (n0 : Nat) (Z0 : n0 ≤ h0.size) (E_a1 : Exa Z h0 a1 "java/lang/String") (F_value_a1 : Fld Z h0 a1 "java/lang/String" "value" "[B" .null) (F_coder_a1 : Fld Z h0 a1 "java/lang/String" "coder" "B" u2) (g_a1 : n0 ≤ a1) (A_a2 : Arv Z h0 a2 k2 .char (0 : Int32) [] (.int 0)) (ne_a1_a2 : a1 ≠ a2) :
  own_MS l yN19 (Jvm.Cond.code yN19 jdk_42_method_149_code 6 none :: ws) ({ frames := 1, cells := 2, slots := 4, locals := 12 } : Room) #[(.ref a1), (.ref a2), (.int 0), (.int 0), .null] Z h0 (Q_rmStrV0 Z a1 a2 u2 k2 h0 n0) := by
 refine MetFree.of_bodySF (plainFor_of_name pn_1) hisR ?_
 intro p e s m args below meth c s₁ Bd hml0 hP hK
 obtain ⟨rfl, hZ, hh, hCH⟩ := hP
 have hx := Bd.exec
 have hby := Bd.bytes
 have hml : c.maxLocals = 6 := hml0
 have hown : s.vm.findClass "java/lang/String" = some m.cls := findClass_of_methodNamed Bd.named
 have hnm := (name_of_methodNamed Bd.named Bd.method).1
 have X0 : Stand p l e ({ frames := 1, cells := 2, slots := 4, locals := 12 } : Room) s m #[(.ref a1), (.ref a2), (.int 0), (.int 0), .null] below meth c s₁ [] 0 0 := Stand.of_body Bd
 have hU : ∀ (i : Nat) (d : Jvm.Cond), tables_1[i]? = some d → d.before a0 Z = true := fun i d h => hw d (List.mem_of_getElem? h)
 have hEL : EW Z a0 own_EL := own_ew hU
 have e0 : s₁.heap = h0 := by rw [← hh, Bd.state]; rfl
 have N0 := Fr.nil n0
 obtain ⟨f0, hf0⟩ : ∃ f : JFrame, f = mkF m 0 #[rv a1, rv a2, iv 0, iv 0, .val .null, .unset] [] := ⟨_, rfl⟩
 have pre0 : ∀ t, own_S p e below s₁ f0 t → Steps p.tables e below (s₁.setTop (entryFrame m #[(.ref a1), (.ref a2), (.int 0), (.int 0), .null] 6)) t := fun t k => castTop ((ef_rmStrV0 m a1 a2 (0 : Int32) (0 : Int32)).trans hf0.symm) k
 have R0 : own_R p e below s₁ (mkF m 0 #[rv a1, rv a2, iv 0, iv 0, .val .null, .unset] []) s₁ f0 := by rw [hf0]; exact fun t k => k
 have R1 : own_R p e below s₁ (mkF m 1 #[rv a1, rv a2, iv 0, iv 0, .val .null, .unset] [(.ref a1)]) s₁ f0 := fun t k => R0 t (by
  refine XS.aloadN X0.here hx rfl (hb hby d4_0) rfl rfl ?_
  exact k)
 obtain ⟨T2, X2, e2, st2⟩ := initO X0 hx hZ hown (hU 18 _ rfl) (hU 19 _ rfl) (hU 20 _ rfl) e0 (g := (mkF m 1 #[rv a1, rv a2, iv 0, iv 0, .val .null, .unset] [(.ref a1)])) rfl (by rw [hml]; rfl) rfl (hb hby d4_1) (by decide) (W := 0) (Nat.le_of_eq rfl) (by decide)
 have R3 := fun t k => R1 t (st2 t k)
 have R4 : own_R p e below T2 (mkF m 9 #[rv a1, rv a2, iv 0, iv 0, .val .null, .unset] [(.ref a1)]) s₁ f0 := fun t k => R3 t (by
  refine XS.iloadN X2.here hx rfl (hb hby d4_4) rfl ?_
  refine XS.ifNo X2.here hx rfl (hb hby d4_5) rfl ((if0 _ _).trans (teq (by decide : (0 : Int32) = (0 : Int32))).2) ?_
  refine XS.aloadN X2.here hx rfl (hb hby d4_8) rfl rfl ?_
  exact k)
 obtain ⟨b5, T5, h5, k5, ba5, kl5, X5, e5, E5, S5, l5, Z5, o5, Ex5, Fc5, Fv5, Av5, -, -, -, Lt5, -, st5⟩ := ldcCH (s := s) (vm0 := s.vm) (EL := own_EL) X2 hx hZ hown (hU 21 _ rfl) (fun a ha => by simp only [Bundle.stringAtoms, List.mem_cons, List.not_mem_nil, or_false] at ha; rcases ha with rfl | rfl | rfl | rfl | rfl | rfl | rfl <;> first | exact (hU 7 _ rfl) | exact (hU 6 _ rfl) | exact (hU 22 _ rfl) | exact (hU 23 _ rfl) | exact (hU 24 _ rfl) | exact (hU 25 _ rfl) | exact (hU 26 _ rfl)) e2 (k0 := h0.size) ((State.WarmedH.refl s).since _) (Nat.le_refl _) hEL (List.mem_of_getElem? (i := 0) rfl) hCH (vs := []) (z := (0 : Int32)) own_et (by decide) (by decide) (g := (mkF m 9 #[rv a1, rv a2, iv 0, iv 0, .val .null, .unset] [(.ref a1)])) rfl (hb hby d4_9) (n := 0) (by decide) (by decide) (by decide) (by decide)
 have f5_E_a1 := E_a1.ext E5
 have f5_F_value_a1 := F_value_a1.ext E5
 have f5_F_coder_a1 := F_coder_a1.ext E5
 have f5_A_a2 := A_a2.ext E5
 have z5 : n0 ≤ h5.size := Nat.le_trans Z0 E5.1
 have K5 : Keep h0 h5 [a1] := (Keep.refl h0 [a1]).ext E5
 have hZ := Z5
 have hown := o5
 have R6 := fun t k => R4 t (st5 t k)
 have ne_a1_b5 : a1 ≠ b5 := Fld.ne f5_F_value_a1 Fv5 (by simp)
 obtain ⟨T7, X7, e7, R8⟩ := own_gF R6 X5 hx hZ hown (host := "") (Or.inl (hU 27 _ rfl)) Via.refl e5 Fv5 rfl rfl (hb hby d4_11)
 obtain ⟨T9, h9, X9, e9, W9, st9⟩ := putF X7 hx hZ hown (host := "") (Or.inl (hU 27 _ rfl)) Via.refl e7 f5_F_value_a1 f5_E_a1 (Or.inr ⟨(hU 23 _ rfl), rfl, hnm⟩) (hU 6 _ rfl) (ty := (.array .byte)) (by decide) rfl rfl (g := (mkF m 14 #[rv a1, rv a2, iv 0, iv 0, .val .null, .unset] [(.ref ba5), (.ref a1)])) rfl rfl (hb hby d4_14)
 have fw9 : Fld Z h9 a1 "java/lang/String" "value" "[B" (.ref ba5) := f5_F_value_a1.same W9
 have f9_E_a1 := f5_E_a1.wr W9
 have f9_F_coder_a1 := f5_F_coder_a1.other W9 (Or.inr (slot_ne (Or.inr (hU 24 _ rfl)) (Or.inr (hU 23 _ rfl)) (by decide) (t := .byte) (t' := (.array .byte)) (by decide) (by decide)))
 have f9_A_a2 := f5_A_a2.other W9 (Ne.symm ne_a1_a2)
 have f9_E_b5 := Ex5.wr W9
 have f9_F_coder_b5 := Fc5.other W9 (Or.inl (Ne.symm ne_a1_b5))
 have f9_F_value_b5 := Fv5.other W9 (Or.inl (Ne.symm ne_a1_b5))
 have f9_A_ba5 := Av5.other W9 (Ne.symm (Exa.neArv f5_E_a1 Av5 (hU 6 _ rfl)))
 have z9 : n0 ≤ h9.size := by rw [W9.size]; exact z5
 have sk9 : k5 ≤ h9.size := by rw [W9.size]; exact l5
 have K9 : Keep h0 h9 [a1] := K5.wr W9 (Or.inl (List.mem_of_getElem? (i := 0) rfl))
 have N9 := Fr.snoc X9 N0 g_a1
 have R10 := fun t k => R8 t (st9 t k)
 have R11 : own_R p e below T9 (mkF m 20 #[rv a1, rv a2, iv 0, iv 0, .val .null, .unset] [(.ref b5), (.ref a1)]) s₁ f0 := fun t k => R10 t (by
  refine XS.aloadN X9.here hx rfl (hb hby d4_17) rfl rfl ?_
  refine ldcAgain (s := s) (vm0 := T5.vm) X9 hx hZ hown (hU 21 _ rfl) Lt5 (g := (mkF m 18 #[rv a1, rv a2, iv 0, iv 0, .val .null, .unset] [(.ref a1)])) rfl (hb hby d4_18) _ ?_
  exact k)
 obtain ⟨T12, X12, e12, R13⟩ := own_gF R11 X9 hx hZ hown (host := "") (Or.inl (hU 28 _ rfl)) Via.refl e9 f9_F_coder_b5 rfl rfl (hb hby d4_20)
 obtain ⟨T14, h14, X14, e14, W14, st14⟩ := putFN X12 hx hZ hown (hU 28 _ rfl) Via.refl e12 f9_F_coder_a1 f9_E_a1 (Or.inr ⟨(hU 24 _ rfl), rfl, hnm⟩) (hU 6 _ rfl) (ty := .byte) (v' := (.int 0)) (by decide) rfl rfl (g := (mkF m 23 #[rv a1, rv a2, iv 0, iv 0, .val .null, .unset] [(.int 0), (.ref a1)])) rfl rfl (hb hby d4_23)
 have fw14 : Fld Z h14 a1 "java/lang/String" "coder" "B" (.int 0) := f9_F_coder_a1.same W14
 have f14_E_a1 := f9_E_a1.wr W14
 have f14_F_value_a1 := fw9.other W14 (Or.inr (slot_ne (Or.inr (hU 23 _ rfl)) (Or.inr (hU 24 _ rfl)) (by decide) (t := (.array .byte)) (t' := .byte) (by decide) (by decide)))
 have f14_A_a2 := f9_A_a2.other W14 (Ne.symm ne_a1_a2)
 have f14_E_b5 := f9_E_b5.wr W14
 have f14_F_coder_b5 := f9_F_coder_b5.other W14 (Or.inl (Ne.symm ne_a1_b5))
 have f14_F_value_b5 := f9_F_value_b5.other W14 (Or.inl (Ne.symm ne_a1_b5))
 have f14_A_ba5 := f9_A_ba5.other W14 (Ne.symm (Exa.neArv f9_E_a1 f9_A_ba5 (hU 6 _ rfl)))
 have z14 : n0 ≤ h14.size := by rw [W14.size]; exact z9
 have sk14 : k5 ≤ h14.size := by rw [W14.size]; exact sk9
 have K14 : Keep h0 h14 [a1] := K9.wr W14 (Or.inl (List.mem_of_getElem? (i := 0) rfl))
 have N14 := Fr.snoc X14 N9 g_a1
 have R15 := fun t k => R13 t (st14 t k)
 obtain ⟨fs, hr, hrun, hended, hend⟩ := X14.leaveW S5 (by rw [e14]; exact sk14) (v := none) (fun _ => rfl)
 refine ⟨_, _, pre0 _ (R15 _ ?_), hrun, hended, _, _, rfl, ?_, hend.1, hend.2.1, hend.2.2.1, hend.2.2.2.mono (by decide) (by decide)⟩
 ·
  show own_S p e below T14 (mkF m 26 #[rv a1, rv a2, iv 0, iv 0, .val .null, .unset] []) _
  exact X14.returnOut hx Bd.returns (hb hby d4_26) hr
 ·
  show Q_rmStrV0 Z a1 a2 u2 k2 h0 n0 _ T14.heap _
  rw [e14]
  exact ⟨ba5, kl5, rfl, N14, K14, f14_F_value_a1, fw14, f14_A_ba5⟩
theorem ef_rmStr0 (m : MethodId) (x0 : Addr) (x1 : Addr) : entryFrame m #[(.ref x0), (.ref x1)] 2 = mkF m 0 #[rv x0, rv x1] [] := by first | (simp [entryFrame, mkF, argsToLocals, Value.category]; done) | rfl
def Q_rmStr0 (Z : State) (a1 : Addr) (a2 : Addr) (u2 : Value) (k2 : ClassId) (h0 : Heap) (n0 : Nat) (v : Option Value) (h : Heap) (L : List Loc) : Prop := ∃ b : Addr, ∃ kb : ClassId, v = none ∧ Fr n0 L ∧ Keep h0 h [a1] ∧ (Fld Z h a1 "java/lang/String" "value" "[B" (.ref b)) ∧ (Fld Z h a1 "java/lang/String" "coder" "B" (.int 0)) ∧ (Arv Z h b kb .byte (0 : Int32) [] (.int 0))
set_option maxRecDepth 65536 in
set_option maxHeartbeats 40000000 in
theorem rmStr0 (l : Launch) (Z : State) (a0 : Array Value) (hw : ∀ d ∈ tables_1, d.before a0 Z = true) (ws : List Jvm.Cond) (a1 : Addr) (a2 : Addr) (u2 : Value) (k2 : ClassId) (h0 : Heap) (n0 : Nat) (Z0 : n0 ≤ h0.size) (E_a1 : Exa Z h0 a1 "java/lang/String") (F_value_a1 : Fld Z h0 a1 "java/lang/String" "value" "[B" .null) (F_coder_a1 : Fld Z h0 a1 "java/lang/String" "coder" "B" u2) (g_a1 : n0 ≤ a1) (A_a2 : Arv Z h0 a2 k2 .char (0 : Int32) [] (.int 0)) (ne_a1_a2 : a1 ≠ a2) :
  own_MS l yN13 (Jvm.Cond.code yN13 jdk_42_method_3_code 2 none :: ws) ({ frames := 2, cells := 2, slots := 4, locals := 29 } : Room) #[(.ref a1), (.ref a2)] Z h0 (Q_rmStr0 Z a1 a2 u2 k2 h0 n0) := by
 refine MetFree.of_bodySF (plainFor_of_name pn_1) hisR ?_
 intro p e s m args below meth c s₁ Bd hml0 hP hK
 obtain ⟨rfl, hZ, hh, hCH⟩ := hP
 have hx := Bd.exec
 have hby := Bd.bytes
 have hml : c.maxLocals = 2 := hml0
 have hown : s.vm.findClass "java/lang/String" = some m.cls := findClass_of_methodNamed Bd.named
 have hnm := (name_of_methodNamed Bd.named Bd.method).1
 have X0 : Stand p l e ({ frames := 2, cells := 2, slots := 4, locals := 29 } : Room) s m #[(.ref a1), (.ref a2)] below meth c s₁ [] 0 0 := Stand.of_body Bd
 have hU : ∀ (i : Nat) (d : Jvm.Cond), tables_1[i]? = some d → d.before a0 Z = true := fun i d h => hw d (List.mem_of_getElem? h)
 have hEL : EW Z a0 own_EL := own_ew hU
 have e0 : s₁.heap = h0 := by rw [← hh, Bd.state]; rfl
 have N0 := Fr.nil n0
 obtain ⟨f0, hf0⟩ : ∃ f : JFrame, f = mkF m 0 #[rv a1, rv a2] [] := ⟨_, rfl⟩
 have pre0 : ∀ t, own_S p e below s₁ f0 t → Steps p.tables e below (s₁.setTop (entryFrame m #[(.ref a1), (.ref a2)] 2)) t := fun t k => castTop ((ef_rmStr0 m a1 a2).trans hf0.symm) k
 have R0 : own_R p e below s₁ (mkF m 0 #[rv a1, rv a2] []) s₁ f0 := by rw [hf0]; exact fun t k => k
 have R1 : own_R p e below s₁ (mkF m 4 #[rv a1, rv a2] [(.ref a2), (.int 0), (.ref a2), (.ref a1)]) s₁ f0 := fun t k => R0 t (by
  refine XS.aloadN X0.here hx rfl (hb hby d3_0) rfl rfl ?_
  refine XS.aloadN X0.here hx rfl (hb hby d3_1) rfl rfl ?_
  refine XS.iconst X0.here hx rfl (hb hby d3_2) ?_
  refine XS.aloadN X0.here hx rfl (hb hby d3_3) rfl rfl ?_
  exact k)
 obtain ⟨cl2, Ar2, -, S2, N2_, -, -⟩ := id A_a2
 have R3 : own_R p e below s₁ (mkF m 5 #[rv a1, rv a2] [(.int 0), (.int 0), (.ref a2), (.ref a1)]) s₁ f0 := fun t k => R1 t (X0.arraylength hx (by rw [e0]; exact Ar2.1) (State.isArrayOf_alike hZ.alike Ar2.2.1) (g := (mkF m 4 #[rv a1, rv a2] [(.ref a2), (.int 0), (.ref a2), (.ref a1)])) rfl rfl (hb hby d3_4) _ (by rw [len_of S2 N2_]; exact k))
 have R4 : own_R p e below s₁ (mkF m 6 #[rv a1, rv a2] [.null, (.int 0), (.int 0), (.ref a2), (.ref a1)]) s₁ f0 := fun t k => R3 t (by
  refine XS.aconstNull X0.here hx rfl (hb hby d3_5) ?_
  exact k)
 obtain ⟨_, _, ⟨T5, L5, k5, n5⟩, -, X5, S5, gq5, ⟨Lc5, hQ5, l5, y5, z5⟩, st5⟩ := X0.specialBackS hx (y := yN19) rfl hown (mvT hZ (hU 14 _ rfl)) (mvT hZ (hU 15 _ rfl)) (mvT hZ (hU 17 _ rfl)) (by decide) (own_backS (s := s) (vm0 := s.vm) (W := 0) (rmStrV0 l Z a0 hw [] a1 a2 u2 k2 h0 n0 Z0 E_a1 F_value_a1 F_coder_a1 g_a1 A_a2 ne_a1_a2) hZ (hU 17 _ rfl) (hU 7 _ rfl) (by decide) (by decide) hEL hCH) (g := (mkF m 6 #[rv a1, rv a2] [.null, (.int 0), (.int 0), (.ref a2), (.ref a1)])) rfl (by rw [hml]; rfl) (Steps.refl _) (a := a1) (argsL := [(.ref a2), (.int 0), (.int 0), .null]) (rest := []) (lenOf pd_13 rfl) rfl (Nat.le_of_eq rfl) (hb hby d3_6) (fun _ _ => ⟨rfl, e0, (by decide : 0 + 2 ≤ _), (by decide : 0 + 4 ≤ _)⟩)
 dsimp only [Pt.U, Pt.locs, Pt.cells, Pt.slots] at X5 l5 y5 z5 st5 hQ5 S5 gq5
 subst l5 y5 z5
 have hZ : Z.Warmed39 (s.setVm T5.vm).vm := State.Warmed39.trans (t := s) hZ S5.1
 have hown : (s.setVm T5.vm).vm.findClass "java/lang/String" = some m.cls := by rw [show (s.setVm T5.vm).vm = T5.vm from rfl, S5.1.alike.findClass]; exact hown
 obtain ⟨b_5, kb_5, rfl, N5q, p5_0, p5_1, p5_2, p5_3⟩ := hQ5
 have N5 := Fr.app N0 N5q
 have f5_E_a1 := E_a1.keep p5_0
 have f5_A_a2 := A_a2.keep p5_0 (ninS (Ne.symm ne_a1_a2) nin0)
 have z5 : n0 ≤ T5.heap.size := Nat.le_trans Z0 p5_0.1
 have K5 : Keep h0 T5.heap [a1] := (Keep.refl h0 [a1]).trans p5_0 (allS (Or.inl (List.mem_of_getElem? (i := 0) rfl)) all0)
 have R6 := fun t k => R4 t (st5.trans k)
 obtain ⟨fs, hr, hrun, hended, hend⟩ := X5.leaveW S5 (Nat.le_refl _) (v := none) (fun _ => rfl)
 refine ⟨_, _, pre0 _ (R6 _ ?_), hrun, hended, _, _, rfl, ?_, hend.1, hend.2.1, hend.2.2.1, hend.2.2.2.mono (by decide) (by decide)⟩
 ·
  show own_S p e below T5 (mkF m 9 #[rv a1, rv a2] []) _
  exact X5.returnOut hx Bd.returns (hb hby d3_9) hr
 ·
  show Q_rmStr0 Z a1 a2 u2 k2 h0 n0 _ T5.heap _
  exact ⟨b_5, kb_5, rfl, N5, K5, p5_1, p5_2, p5_3⟩
theorem ef_rmMin (m : MethodId) (x0 : Int32) (x1 : Int32) : entryFrame m #[(.int x0), (.int x1)] 2 = mkF m 0 #[iv x0, iv x1] [] := by first | (simp [entryFrame, mkF, argsToLocals, Value.category]; done) | rfl
def Q_rmMin (Z : State) (p1 : Int32) (h0 : Heap) (n0 : Nat) (v : Option Value) (h : Heap) (L : List Loc) : Prop := v = some (.int p1) ∧ Fr n0 L ∧ h = h0
set_option maxRecDepth 65536 in
set_option maxHeartbeats 40000000 in
theorem rmMin (l : Launch) (Z : State) (a0 : Array Value) (hw : ∀ d ∈ tables_1, d.before a0 Z = true) (ws : List Jvm.Cond) (p1 : Int32) (h0 : Heap) (n0 : Nat) (Z0 : n0 ≤ h0.size) (hlt : ¬ p1 < p1) :
  own_M l yN8 (Jvm.Cond.code yN8 jdk_29_method_69_code 2 (some .int) :: ws) ({ frames := 0, cells := 0, slots := 0, locals := 0 } : Room) #[(.int p1), (.int p1)] Z h0 (Q_rmMin Z p1 h0 n0) := by
 refine MetFree.of_bodySF (Jvm.Free.JP.mathPlain rfl (by decide +kernel)) hisR ?_
 intro p e s m args below meth c s₁ Bd hml0 hP hK
 obtain ⟨rfl, hZ, hh⟩ := hP
 have hx := Bd.exec
 have hby := Bd.bytes
 have hml : c.maxLocals = 2 := hml0
 have hown : s.vm.findClass "java/lang/Math" = some m.cls := findClass_of_methodNamed Bd.named
 have hnm := (name_of_methodNamed Bd.named Bd.method).1
 have X0 : Stand p l e ({ frames := 0, cells := 0, slots := 0, locals := 0 } : Room) s m #[(.int p1), (.int p1)] below meth c s₁ [] 0 0 := Stand.of_body Bd
 have hU : ∀ (i : Nat) (d : Jvm.Cond), tables_1[i]? = some d → d.before a0 Z = true := fun i d h => hw d (List.mem_of_getElem? h)
 have e0 : s₁.heap = h0 := by rw [← hh, Bd.state]; rfl
 have N0 := Fr.nil n0
 obtain ⟨f0, hf0⟩ : ∃ f : JFrame, f = mkF m 0 #[iv p1, iv p1] [] := ⟨_, rfl⟩
 have pre0 : ∀ t, own_S p e below s₁ f0 t → Steps p.tables e below (s₁.setTop (entryFrame m #[(.int p1), (.int p1)] 2)) t := fun t k => castTop ((ef_rmMin m p1 p1).trans hf0.symm) k
 have R0 : own_R p e below s₁ (mkF m 0 #[iv p1, iv p1] []) s₁ f0 := by rw [hf0]; exact fun t k => k
 have R1 : own_R p e below s₁ (mkF m 10 #[iv p1, iv p1] [(.int p1)]) s₁ f0 := fun t k => R0 t (by
  refine XS.iloadN X0.here hx rfl (hb hby d15_0) rfl ?_
  refine XS.iloadN X0.here hx rfl (hb hby d15_1) rfl ?_
  refine XS.icmpNo X0.here hx rfl (hb hby d15_2) rfl (flt hlt).2.2.1 ?_
  refine XS.iloadN X0.here hx rfl (hb hby d15_5) rfl ?_
  refine XS.goto X0.here hx rfl (pc0 := 6) (pc' := 10) rfl (hb hby d15_6) (by decide) (by decide) ?_
  exact k)
 obtain ⟨fs, hr, hrun, hended, hW, hsame⟩ := X0.leave (v := some (.int p1)) (fun h => by rw [Bd.returns] at h; cases h)
 refine ⟨_, _, pre0 _ (R1 _ ?_), hrun, hended, _, _, rfl, ?_, ⟨_, rfl⟩, hW, hsame.mono (by decide) (by decide)⟩
 ·
  show own_S p e below s₁ (mkF m 10 #[iv p1, iv p1] [(.int p1)]) _
  exact retI X0 hx Bd.returns (hb hby d15_10) hr
 ·
  show Q_rmMin Z p1 h0 n0 _ s₁.heap _
  rw [e0]
  exact ⟨rfl, N0, rfl⟩
theorem ef_rmCan (m : MethodId) (x0 : Int32) : entryFrame m #[(.int x0)] 1 = mkF m 0 #[iv x0] [] := by first | (simp [entryFrame, mkF, argsToLocals, Value.category]; done) | rfl
def Q_rmCan (Z : State)  (h0 : Heap) (n0 : Nat) (v : Option Value) (h : Heap) (L : List Loc) : Prop := v = some (.int 1) ∧ Fr n0 L ∧ h = h0
set_option maxRecDepth 65536 in
set_option maxHeartbeats 40000000 in
theorem rmCan (l : Launch) (Z : State) (a0 : Array Value) (hw : ∀ d ∈ tables_1, d.before a0 Z = true) (ws : List Jvm.Cond)  (h0 : Heap) (n0 : Nat) (Z0 : n0 ≤ h0.size) :
  own_M l yN16 (Jvm.Cond.code yN16 jdk_43_method_4_code 1 (some .boolean) :: ws) ({ frames := 0, cells := 0, slots := 0, locals := 0 } : Room) #[(.int 47)] Z h0 (Q_rmCan Z  h0 n0) := by
 refine MetFree.of_bodySF (plainFor_of_name pn_5) hisR ?_
 intro p e s m args below meth c s₁ Bd hml0 hP hK
 obtain ⟨rfl, hZ, hh⟩ := hP
 have hx := Bd.exec
 have hby := Bd.bytes
 have hml : c.maxLocals = 1 := hml0
 have hown : s.vm.findClass "java/lang/StringLatin1" = some m.cls := findClass_of_methodNamed Bd.named
 have hnm := (name_of_methodNamed Bd.named Bd.method).1
 have X0 : Stand p l e ({ frames := 0, cells := 0, slots := 0, locals := 0 } : Room) s m #[(.int 47)] below meth c s₁ [] 0 0 := Stand.of_body Bd
 have hU : ∀ (i : Nat) (d : Jvm.Cond), tables_1[i]? = some d → d.before a0 Z = true := fun i d h => hw d (List.mem_of_getElem? h)
 have e0 : s₁.heap = h0 := by rw [← hh, Bd.state]; rfl
 have N0 := Fr.nil n0
 obtain ⟨f0, hf0⟩ : ∃ f : JFrame, f = mkF m 0 #[iv 47] [] := ⟨_, rfl⟩
 have pre0 : ∀ t, own_S p e below s₁ f0 t → Steps p.tables e below (s₁.setTop (entryFrame m #[(.int 47)] 1)) t := fun t k => castTop ((ef_rmCan m (47 : Int32)).trans hf0.symm) k
 have R0 : own_R p e below s₁ (mkF m 0 #[iv 47] []) s₁ f0 := by rw [hf0]; exact fun t k => k
 have R1 : own_R p e below s₁ (mkF m 16 #[iv 47] [(.int 1)]) s₁ f0 := fun t k => R0 t (by
  refine XS.iloadN X0.here hx rfl (hb hby d14_0) rfl ?_
  refine XS.ifNo X0.here hx rfl (hb hby d14_1) rfl ((if0 _ _).trans (flt (by decide : ¬ ((47 : Int32) < (0 : Int32)))).1) ?_
  refine XS.iloadN X0.here hx rfl (hb hby d14_4) rfl ?_
  refine XS.sipush X0.here hx rfl (hb hby d14_5) ?_
  refine XS.icmpNo X0.here hx rfl (hb hby d14_8) rfl (flt (by decide : ¬ ((255 : Int32) < (47 : Int32)))).2.2.1 ?_
  refine XS.iconst X0.here hx rfl (hb hby d14_11) ?_
  refine XS.goto X0.here hx rfl (pc0 := 12) (pc' := 16) rfl (hb hby d14_12) (by decide) (by decide) ?_
  exact k)
 obtain ⟨fs, hr, hrun, hended, hW, hsame⟩ := X0.leave (v := some (.int 1)) (fun h => by rw [Bd.returns] at h; cases h)
 refine ⟨_, _, pre0 _ (R1 _ ?_), hrun, hended, _, _, rfl, ?_, ⟨_, rfl⟩, hW, hsame.mono (by decide) (by decide)⟩
 ·
  show own_S p e below s₁ (mkF m 16 #[iv 47] [(.int 1)]) _
  exact retN X0 hx (t := .boolean) Bd.returns (by simp) (hb hby d14_16) hr
 ·
  show Q_rmCan Z  h0 n0 _ s₁.heap _
  rw [e0]
  exact ⟨rfl, N0, rfl⟩
theorem ef_rmFtN (m : MethodId) (x0 : Int32) (x1 : Int32) (x2 : Int32) : entryFrame m #[(.int x0), (.int x1), (.int x2), .null] 4 = mkF m 0 #[iv x0, iv x1, iv x2, .val .null] [] := by first | (simp [entryFrame, mkF, argsToLocals, Value.category]; done) | rfl
def Q_rmFtN (Z : State) (p1 : Int32) (p2 : Int32) (p3 : Int32) (h0 : Heap) (n0 : Nat) (v : Option Value) (h : Heap) (L : List Loc) : Prop := v = some (.int p1) ∧ Fr n0 L ∧ h = h0
set_option maxRecDepth 65536 in
set_option maxHeartbeats 40000000 in
theorem rmFtN (l : Launch) (Z : State) (a0 : Array Value) (hw : ∀ d ∈ tables_1, d.before a0 Z = true) (ws : List Jvm.Cond) (p1 : Int32) (p2 : Int32) (p3 : Int32) (h0 : Heap) (n0 : Nat) (Z0 : n0 ≤ h0.size) (hlo : ¬ p1 < (0 : Int32)) (hmid : ¬ p2 < p1) (hhi : ¬ p3 < p2) :
  own_M l yN20 (Jvm.Cond.code yN20 jdk_41_method_12_code 4 (some .int) :: ws) ({ frames := 0, cells := 0, slots := 0, locals := 0 } : Room) #[(.int p1), (.int p2), (.int p3), .null] Z h0 (Q_rmFtN Z p1 p2 p3 h0 n0) := by
 refine MetFree.of_bodySF (plainFor_of_name pn_3) hisR ?_
 intro p e s m args below meth c s₁ Bd hml0 hP hK
 obtain ⟨rfl, hZ, hh⟩ := hP
 have hx := Bd.exec
 have hby := Bd.bytes
 have hml : c.maxLocals = 4 := hml0
 have hown : s.vm.findClass sN2 = some m.cls := findClass_of_methodNamed Bd.named
 have hnm := (name_of_methodNamed Bd.named Bd.method).1
 have X0 : Stand p l e ({ frames := 0, cells := 0, slots := 0, locals := 0 } : Room) s m #[(.int p1), (.int p2), (.int p3), .null] below meth c s₁ [] 0 0 := Stand.of_body Bd
 have hU : ∀ (i : Nat) (d : Jvm.Cond), tables_1[i]? = some d → d.before a0 Z = true := fun i d h => hw d (List.mem_of_getElem? h)
 have e0 : s₁.heap = h0 := by rw [← hh, Bd.state]; rfl
 have N0 := Fr.nil n0
 obtain ⟨f0, hf0⟩ : ∃ f : JFrame, f = mkF m 0 #[iv p1, iv p2, iv p3, .val .null] [] := ⟨_, rfl⟩
 have pre0 : ∀ t, own_S p e below s₁ f0 t → Steps p.tables e below (s₁.setTop (entryFrame m #[(.int p1), (.int p2), (.int p3), .null] 4)) t := fun t k => castTop ((ef_rmFtN m p1 p2 p3).trans hf0.symm) k
 have R0 : own_R p e below s₁ (mkF m 0 #[iv p1, iv p2, iv p3, .val .null] []) s₁ f0 := by rw [hf0]; exact fun t k => k
 have R1 : own_R p e below s₁ (mkF m 23 #[iv p1, iv p2, iv p3, .val .null] [(.int p1)]) s₁ f0 := fun t k => R0 t (by
  refine XS.iloadN X0.here hx rfl (hb hby d19_0) rfl ?_
  refine XS.ifNo X0.here hx rfl (hb hby d19_1) rfl ((if0 _ _).trans (flt hlo).1) ?_
  refine XS.iloadN X0.here hx rfl (hb hby d19_4) rfl ?_
  refine XS.iloadN X0.here hx rfl (hb hby d19_5) rfl ?_
  refine XS.icmpNo X0.here hx rfl (hb hby d19_6) rfl (flt hmid).2.2.1 ?_
  refine XS.iloadN X0.here hx rfl (hb hby d19_9) rfl ?_
  refine XS.iloadN X0.here hx rfl (hb hby d19_10) rfl ?_
  refine XS.icmpYes X0.here hx rfl (pc0 := 11) (pc' := 22) rfl (hb hby d19_11) rfl (flt hhi).2.2.2 (by decide) (by decide) ?_
  refine XS.iloadN X0.here hx rfl (hb hby d19_22) rfl ?_
  exact k)
 obtain ⟨fs, hr, hrun, hended, hW, hsame⟩ := X0.leave (v := some (.int p1)) (fun h => by rw [Bd.returns] at h; cases h)
 refine ⟨_, _, pre0 _ (R1 _ ?_), hrun, hended, _, _, rfl, ?_, ⟨_, rfl⟩, hW, hsame.mono (by decide) (by decide)⟩
 ·
  show own_S p e below s₁ (mkF m 23 #[iv p1, iv p2, iv p3, .val .null] [(.int p1)]) _
  exact retI X0 hx Bd.returns (hb hby d19_23) hr
 ·
  show Q_rmFtN Z p1 p2 p3 h0 n0 _ s₁.heap _
  rw [e0]
  exact ⟨rfl, N0, rfl⟩
theorem ef_rmFtR (m : MethodId) (x0 : Int32) (x1 : Int32) (x2 : Int32) (x3 : Addr) : entryFrame m #[(.int x0), (.int x1), (.int x2), (.ref x3)] 4 = mkF m 0 #[iv x0, iv x1, iv x2, rv x3] [] := by first | (simp [entryFrame, mkF, argsToLocals, Value.category]; done) | rfl
def Q_rmFtR (Z : State) (p1 : Int32) (p2 : Int32) (p3 : Int32) (a3 : Addr) (h0 : Heap) (n0 : Nat) (v : Option Value) (h : Heap) (L : List Loc) : Prop := v = some (.int p1) ∧ Fr n0 L ∧ h = h0
set_option maxRecDepth 65536 in
set_option maxHeartbeats 40000000 in
theorem rmFtR (l : Launch) (Z : State) (a0 : Array Value) (hw : ∀ d ∈ tables_1, d.before a0 Z = true) (ws : List Jvm.Cond) (p1 : Int32) (p2 : Int32) (p3 : Int32) (a3 : Addr) (h0 : Heap) (n0 : Nat) (Z0 : n0 ≤ h0.size) (hlo : ¬ p1 < (0 : Int32)) (hmid : ¬ p2 < p1) (hhi : ¬ p3 < p2) :
  own_M l yN20 (Jvm.Cond.code yN20 jdk_41_method_12_code 4 (some .int) :: ws) ({ frames := 0, cells := 0, slots := 0, locals := 0 } : Room) #[(.int p1), (.int p2), (.int p3), (.ref a3)] Z h0 (Q_rmFtR Z p1 p2 p3 a3 h0 n0) := by
 refine MetFree.of_bodySF (plainFor_of_name pn_3) hisR ?_
 intro p e s m args below meth c s₁ Bd hml0 hP hK
 obtain ⟨rfl, hZ, hh⟩ := hP
 have hx := Bd.exec
 have hby := Bd.bytes
 have hml : c.maxLocals = 4 := hml0
 have hown : s.vm.findClass sN2 = some m.cls := findClass_of_methodNamed Bd.named
 have hnm := (name_of_methodNamed Bd.named Bd.method).1
 have X0 : Stand p l e ({ frames := 0, cells := 0, slots := 0, locals := 0 } : Room) s m #[(.int p1), (.int p2), (.int p3), (.ref a3)] below meth c s₁ [] 0 0 := Stand.of_body Bd
 have hU : ∀ (i : Nat) (d : Jvm.Cond), tables_1[i]? = some d → d.before a0 Z = true := fun i d h => hw d (List.mem_of_getElem? h)
 have e0 : s₁.heap = h0 := by rw [← hh, Bd.state]; rfl
 have N0 := Fr.nil n0
 obtain ⟨f0, hf0⟩ : ∃ f : JFrame, f = mkF m 0 #[iv p1, iv p2, iv p3, rv a3] [] := ⟨_, rfl⟩
 have pre0 : ∀ t, own_S p e below s₁ f0 t → Steps p.tables e below (s₁.setTop (entryFrame m #[(.int p1), (.int p2), (.int p3), (.ref a3)] 4)) t := fun t k => castTop ((ef_rmFtR m p1 p2 p3 a3).trans hf0.symm) k
 have R0 : own_R p e below s₁ (mkF m 0 #[iv p1, iv p2, iv p3, rv a3] []) s₁ f0 := by rw [hf0]; exact fun t k => k
 have R1 : own_R p e below s₁ (mkF m 23 #[iv p1, iv p2, iv p3, rv a3] [(.int p1)]) s₁ f0 := fun t k => R0 t (by
  refine XS.iloadN X0.here hx rfl (hb hby d19_0) rfl ?_
  refine XS.ifNo X0.here hx rfl (hb hby d19_1) rfl ((if0 _ _).trans (flt hlo).1) ?_
  refine XS.iloadN X0.here hx rfl (hb hby d19_4) rfl ?_
  refine XS.iloadN X0.here hx rfl (hb hby d19_5) rfl ?_
  refine XS.icmpNo X0.here hx rfl (hb hby d19_6) rfl (flt hmid).2.2.1 ?_
  refine XS.iloadN X0.here hx rfl (hb hby d19_9) rfl ?_
  refine XS.iloadN X0.here hx rfl (hb hby d19_10) rfl ?_
  refine XS.icmpYes X0.here hx rfl (pc0 := 11) (pc' := 22) rfl (hb hby d19_11) rfl (flt hhi).2.2.2 (by decide) (by decide) ?_
  refine XS.iloadN X0.here hx rfl (hb hby d19_22) rfl ?_
  exact k)
 obtain ⟨fs, hr, hrun, hended, hW, hsame⟩ := X0.leave (v := some (.int p1)) (fun h => by rw [Bd.returns] at h; cases h)
 refine ⟨_, _, pre0 _ (R1 _ ?_), hrun, hended, _, _, rfl, ?_, ⟨_, rfl⟩, hW, hsame.mono (by decide) (by decide)⟩
 ·
  show own_S p e below s₁ (mkF m 23 #[iv p1, iv p2, iv p3, rv a3] [(.int p1)]) _
  exact retI X0 hx Bd.returns (hb hby d19_23) hr
 ·
  show Q_rmFtR Z p1 p2 p3 a3 h0 n0 _ s₁.heap _
  rw [e0]
  exact ⟨rfl, N0, rfl⟩
theorem ef_rmCbe (m : MethodId) (x0 : Int32) (x1 : Int32) (x2 : Int32) : entryFrame m #[(.int x0), (.int x1), (.int x2)] 3 = mkF m 0 #[iv x0, iv x1, iv x2] [] := by first | (simp [entryFrame, mkF, argsToLocals, Value.category]; done) | rfl
def Q_rmCbe (Z : State) (p1 : Int32) (p2 : Int32) (p3 : Int32) (sf : Value) (h0 : Heap) (n0 : Nat) (v : Option Value) (h : Heap) (L : List Loc) : Prop := v = none ∧ Fr n0 L ∧ h = h0
set_option maxRecDepth 65536 in
set_option maxHeartbeats 40000000 in
theorem rmCbe (l : Launch) (Z : State) (a0 : Array Value) (hw : ∀ d ∈ tables_1, d.before a0 Z = true) (ws : List Jvm.Cond) (p1 : Int32) (p2 : Int32) (p3 : Int32) (sf : Value) (h0 : Heap) (n0 : Nat) (Z0 : n0 ≤ h0.size) (S_Preconditions_SIOOBE_FORMATTER : Sta Z h0 sN2 "SIOOBE_FORMATTER" sN3 sf) (hsf : sf.isRef = true) (hlo : ¬ p1 < (0 : Int32)) (hmid : ¬ p2 < p1) (hhi : ¬ p3 < p2) :
  own_M l yN22 (Jvm.Cond.code yN22 jdk_42_method_158_code 3 none :: ws) ({ frames := 1, cells := 0, slots := 0, locals := 15 } : Room) #[(.int p1), (.int p2), (.int p3)] Z h0 (Q_rmCbe Z p1 p2 p3 sf h0 n0) := by
 refine MetFree.of_bodySF (plainFor_of_name pn_1) hisR ?_
 intro p e s m args below meth c s₁ Bd hml0 hP hK
 obtain ⟨rfl, hZ, hh⟩ := hP
 have hx := Bd.exec
 have hby := Bd.bytes
 have hml : c.maxLocals = 3 := hml0
 have hown : s.vm.findClass "java/lang/String" = some m.cls := findClass_of_methodNamed Bd.named
 have hnm := (name_of_methodNamed Bd.named Bd.method).1
 have X0 : Stand p l e ({ frames := 1, cells := 0, slots := 0, locals := 15 } : Room) s m #[(.int p1), (.int p2), (.int p3)] below meth c s₁ [] 0 0 := Stand.of_body Bd
 have hU : ∀ (i : Nat) (d : Jvm.Cond), tables_1[i]? = some d → d.before a0 Z = true := fun i d h => hw d (List.mem_of_getElem? h)
 have e0 : s₁.heap = h0 := by rw [← hh, Bd.state]; rfl
 have N0 := Fr.nil n0
 obtain ⟨f0, hf0⟩ : ∃ f : JFrame, f = mkF m 0 #[iv p1, iv p2, iv p3] [] := ⟨_, rfl⟩
 have pre0 : ∀ t, own_S p e below s₁ f0 t → Steps p.tables e below (s₁.setTop (entryFrame m #[(.int p1), (.int p2), (.int p3)] 3)) t := fun t k => castTop ((ef_rmCbe m p1 p2 p3).trans hf0.symm) k
 have R0 : own_R p e below s₁ (mkF m 0 #[iv p1, iv p2, iv p3] []) s₁ f0 := by rw [hf0]; exact fun t k => k
 rcases ref_cases hsf with rfl | ⟨sfa, rfl⟩
 ·
  have R1 : own_R p e below s₁ (mkF m 3 #[iv p1, iv p2, iv p3] [(.int p3), (.int p2), (.int p1)]) s₁ f0 := fun t k => R0 t (by
   refine XS.iloadN X0.here hx rfl (hb hby d18_0) rfl ?_
   refine XS.iloadN X0.here hx rfl (hb hby d18_1) rfl ?_
   refine XS.iloadN X0.here hx rfl (hb hby d18_2) rfl ?_
   exact k)
  obtain ⟨T2, X2, e2, st2⟩ := getS2 X0 hx hZ hown (host := "") (Or.inl (hU 95 _ rfl)) Via.refl e0 S_Preconditions_SIOOBE_FORMATTER (g := (mkF m 3 #[iv p1, iv p2, iv p3] [(.int p3), (.int p2), (.int p1)])) rfl (hb hby d18_3)
  have R3 := fun t k => R1 t (st2 t k)
  obtain ⟨_, _, ⟨T4, L4, k4, n4⟩, -, X4, ⟨Lc4, hQ4, l4, y4, z4⟩, st4⟩ := Jvm.LawKit.callS X2 hx (y := yN20) hown (mvT hZ (hU 97 _ rfl)) (mvT hZ (hU 98 _ rfl)) (mvT hZ (hU 96 _ rfl)) (mvT hZ (hU 99 _ rfl)) (by decide) (backOf (W := 0) (rmFtN l Z a0 hw [] p1 p2 p3 h0 n0 Z0 hlo hmid hhi) hZ (hU 99 _ rfl) (hU 96 _ rfl) (by decide) (by decide)) (g := (mkF m 6 #[iv p1, iv p2, iv p3] [.null, (.int p3), (.int p2), (.int p1)])) rfl (by rw [hml]; rfl) (argsL := [(.int p1), (.int p2), (.int p3), .null]) (rest := []) (lenOf pd_14 rfl) rfl (Nat.le_of_eq rfl) (hb hby d18_6) (fun _ _ => ⟨rfl, e2, (by decide : 0 + 0 ≤ _), (by decide : 0 + 0 ≤ _)⟩)
  dsimp only [Pt.U, Pt.locs, Pt.cells, Pt.slots] at X4 l4 y4 z4 st4 hQ4
  subst l4 y4 z4
  obtain ⟨rfl, N4q, p4_0⟩ := hQ4
  have N4 := Fr.app N0 N4q
  have R5 := fun t k => R3 t (st4 t k)
  have R6 : own_R p e below T4 (mkF m 10 #[iv p1, iv p2, iv p3] []) s₁ f0 := fun t k => R5 t (by
   refine XS.pop X4.here hx rfl (hb hby d18_9) rfl rfl ?_
   exact k)
  obtain ⟨fs, hr, hrun, hended, hW, hsame⟩ := X4.leave (v := none) (fun _ => rfl)
  refine ⟨_, _, pre0 _ (R6 _ ?_), hrun, hended, _, _, rfl, ?_, ⟨_, rfl⟩, hW, hsame.mono (by decide) (by decide)⟩
  ·
   show own_S p e below T4 (mkF m 10 #[iv p1, iv p2, iv p3] []) _
   exact X4.returnOut hx Bd.returns (hb hby d18_10) hr
  ·
   show Q_rmCbe Z p1 p2 p3 .null h0 n0 _ T4.heap _
   rw [p4_0]
   exact ⟨rfl, N4, rfl⟩
 ·
  have R7 : own_R p e below s₁ (mkF m 3 #[iv p1, iv p2, iv p3] [(.int p3), (.int p2), (.int p1)]) s₁ f0 := fun t k => R0 t (by
   refine XS.iloadN X0.here hx rfl (hb hby d18_0) rfl ?_
   refine XS.iloadN X0.here hx rfl (hb hby d18_1) rfl ?_
   refine XS.iloadN X0.here hx rfl (hb hby d18_2) rfl ?_
   exact k)
  obtain ⟨T8, X8, e8, st8⟩ := getS2 X0 hx hZ hown (host := "") (Or.inl (hU 95 _ rfl)) Via.refl e0 S_Preconditions_SIOOBE_FORMATTER (g := (mkF m 3 #[iv p1, iv p2, iv p3] [(.int p3), (.int p2), (.int p1)])) rfl (hb hby d18_3)
  have R9 := fun t k => R7 t (st8 t k)
  obtain ⟨_, _, ⟨T10, L10, k10, n10⟩, -, X10, ⟨Lc10, hQ10, l10, y10, z10⟩, st10⟩ := Jvm.LawKit.callS X8 hx (y := yN20) hown (mvT hZ (hU 97 _ rfl)) (mvT hZ (hU 98 _ rfl)) (mvT hZ (hU 96 _ rfl)) (mvT hZ (hU 99 _ rfl)) (by decide) (backOf (W := 0) (rmFtR l Z a0 hw [] p1 p2 p3 sfa h0 n0 Z0 hlo hmid hhi) hZ (hU 99 _ rfl) (hU 96 _ rfl) (by decide) (by decide)) (g := (mkF m 6 #[iv p1, iv p2, iv p3] [(.ref sfa), (.int p3), (.int p2), (.int p1)])) rfl (by rw [hml]; rfl) (argsL := [(.int p1), (.int p2), (.int p3), (.ref sfa)]) (rest := []) (lenOf pd_14 rfl) rfl (Nat.le_of_eq rfl) (hb hby d18_6) (fun _ _ => ⟨rfl, e8, (by decide : 0 + 0 ≤ _), (by decide : 0 + 0 ≤ _)⟩)
  dsimp only [Pt.U, Pt.locs, Pt.cells, Pt.slots] at X10 l10 y10 z10 st10 hQ10
  subst l10 y10 z10
  obtain ⟨rfl, N10q, p10_0⟩ := hQ10
  have N10 := Fr.app N0 N10q
  have R11 := fun t k => R9 t (st10 t k)
  have R12 : own_R p e below T10 (mkF m 10 #[iv p1, iv p2, iv p3] []) s₁ f0 := fun t k => R11 t (by
   refine XS.pop X10.here hx rfl (hb hby d18_9) rfl rfl ?_
   exact k)
  obtain ⟨fs, hr, hrun, hended, hW, hsame⟩ := X10.leave (v := none) (fun _ => rfl)
  refine ⟨_, _, pre0 _ (R12 _ ?_), hrun, hended, _, _, rfl, ?_, ⟨_, rfl⟩, hW, hsame.mono (by decide) (by decide)⟩
  ·
   show own_S p e below T10 (mkF m 10 #[iv p1, iv p2, iv p3] []) _
   exact X10.returnOut hx Bd.returns (hb hby d18_10) hr
  ·
   show Q_rmCbe Z p1 p2 p3 (.ref sfa) h0 n0 _ T10.heap _
   rw [p10_0]
   exact ⟨rfl, N10, rfl⟩
theorem ef_rmCkl (m : MethodId) (x0 : Int32) (x1 : Int32) : entryFrame m #[(.int x0), (.int x1)] 2 = mkF m 0 #[iv x0, iv x1] [] := by first | (simp [entryFrame, mkF, argsToLocals, Value.category]; done) | rfl
def Q_rmCkl (Z : State) (p1 : Int32) (p2 : Int32) (h0 : Heap) (n0 : Nat) (v : Option Value) (h : Heap) (L : List Loc) : Prop := v = none ∧ Fr n0 L ∧ h = h0
set_option maxRecDepth 65536 in
set_option maxHeartbeats 40000000 in
theorem rmCkl (l : Launch) (Z : State) (a0 : Array Value) (hw : ∀ d ∈ tables_1, d.before a0 Z = true) (ws : List Jvm.Cond) (p1 : Int32) (p2 : Int32) (h0 : Heap) (n0 : Nat) (Z0 : n0 ≤ h0.size) (hge : ¬ p2 < p1) :
  own_M l yN14 (Jvm.Cond.code yN14 jdk_65_method_131_code 2 none :: ws) ({ frames := 0, cells := 0, slots := 0, locals := 0 } : Room) #[(.int p1), (.int p2)] Z h0 (Q_rmCkl Z p1 p2 h0 n0) := by
 refine MetFree.of_bodySF (plainFor_of_name pn_15) hisR ?_
 intro p e s m args below meth c s₁ Bd hml0 hP hK
 obtain ⟨rfl, hZ, hh⟩ := hP
 have hx := Bd.exec
 have hby := Bd.bytes
 have hml : c.maxLocals = 2 := hml0
 have hown : s.vm.findClass "java/util/Arrays" = some m.cls := findClass_of_methodNamed Bd.named
 have hnm := (name_of_methodNamed Bd.named Bd.method).1
 have X0 : Stand p l e ({ frames := 0, cells := 0, slots := 0, locals := 0 } : Room) s m #[(.int p1), (.int p2)] below meth c s₁ [] 0 0 := Stand.of_body Bd
 have hU : ∀ (i : Nat) (d : Jvm.Cond), tables_1[i]? = some d → d.before a0 Z = true := fun i d h => hw d (List.mem_of_getElem? h)
 have e0 : s₁.heap = h0 := by rw [← hh, Bd.state]; rfl
 have N0 := Fr.nil n0
 obtain ⟨f0, hf0⟩ : ∃ f : JFrame, f = mkF m 0 #[iv p1, iv p2] [] := ⟨_, rfl⟩
 have pre0 : ∀ t, own_S p e below s₁ f0 t → Steps p.tables e below (s₁.setTop (entryFrame m #[(.int p1), (.int p2)] 2)) t := fun t k => castTop ((ef_rmCkl m p1 p2).trans hf0.symm) k
 have R0 : own_R p e below s₁ (mkF m 0 #[iv p1, iv p2] []) s₁ f0 := by rw [hf0]; exact fun t k => k
 have R1 : own_R p e below s₁ (mkF m 37 #[iv p1, iv p2] []) s₁ f0 := fun t k => R0 t (by
  refine XS.iloadN X0.here hx rfl (hb hby d30_0) rfl ?_
  refine XS.iloadN X0.here hx rfl (hb hby d30_1) rfl ?_
  refine XS.icmpYes X0.here hx rfl (pc0 := 2) (pc' := 37) rfl (hb hby d30_2) rfl (flt hge).2.1 (by decide) (by decide) ?_
  exact k)
 obtain ⟨fs, hr, hrun, hended, hW, hsame⟩ := X0.leave (v := none) (fun _ => rfl)
 refine ⟨_, _, pre0 _ (R1 _ ?_), hrun, hended, _, _, rfl, ?_, ⟨_, rfl⟩, hW, hsame.mono (by decide) (by decide)⟩
 ·
  show own_S p e below s₁ (mkF m 37 #[iv p1, iv p2] []) _
  exact X0.returnOut hx Bd.returns (hb hby d30_37) hr
 ·
  show Q_rmCkl Z p1 p2 h0 n0 _ s₁.heap _
  rw [e0]
  exact ⟨rfl, N0, rfl⟩
theorem ef_rmSbb (m : MethodId) (x0 : Addr) (x1 : Addr) (x2 : Int32) : entryFrame m #[(.ref x0), (.ref x1), (.int x2)] 3 = mkF m 0 #[rv x0, rv x1, iv x2] [] := by first | (simp [entryFrame, mkF, argsToLocals, Value.category]; done) | rfl
def Q_rmSbb (Z : State) (a1 : Addr) (b : Addr) (u1 : Value) (u2 : Value) (h0 : Heap) (n0 : Nat) (v : Option Value) (h : Heap) (L : List Loc) : Prop := v = none ∧ Fr n0 L ∧ Keep h0 h [a1] ∧ (Fld Z h a1 "java/lang/String" "value" "[B" (.ref b)) ∧ (Fld Z h a1 "java/lang/String" "coder" "B" (.int 0))
set_option maxRecDepth 65536 in
set_option maxHeartbeats 40000000 in
theorem rmSbb (l : Launch) (Z : State) (a0 : Array Value) (hw : ∀ d ∈ tables_1, d.before a0 Z = true) (ws : List Jvm.Cond) (a1 : Addr) (b : Addr) (u1 : Value) (u2 : Value) (h0 : Heap) (n0 : Nat) (Z0 : n0 ≤ h0.size) (E_a1 : Exa Z h0 a1 "java/lang/String") (F_value_a1 : Fld Z h0 a1 "java/lang/String" "value" "[B" u1) (F_coder_a1 : Fld Z h0 a1 "java/lang/String" "coder" "B" u2) (g_a1 : n0 ≤ a1) :
  own_M l yN28 (Jvm.Cond.code yN28 jdk_42_method_151_code 3 none :: ws) ({ frames := 1, cells := 0, slots := 0, locals := 12 } : Room) #[(.ref a1), (.ref b), (.int 0)] Z h0 (Q_rmSbb Z a1 b u1 u2 h0 n0) := by
 refine MetFree.of_bodySF (plainFor_of_name pn_1) hisR ?_
 intro p e s m args below meth c s₁ Bd hml0 hP hK
 obtain ⟨rfl, hZ, hh⟩ := hP
 have hx := Bd.exec
 have hby := Bd.bytes
 have hml : c.maxLocals = 3 := hml0
 have hown : s.vm.findClass "java/lang/String" = some m.cls := findClass_of_methodNamed Bd.named
 have hnm := (name_of_methodNamed Bd.named Bd.method).1
 have X0 : Stand p l e ({ frames := 1, cells := 0, slots := 0, locals := 12 } : Room) s m #[(.ref a1), (.ref b), (.int 0)] below meth c s₁ [] 0 0 := Stand.of_body Bd
 have hU : ∀ (i : Nat) (d : Jvm.Cond), tables_1[i]? = some d → d.before a0 Z = true := fun i d h => hw d (List.mem_of_getElem? h)
 have e0 : s₁.heap = h0 := by rw [← hh, Bd.state]; rfl
 have N0 := Fr.nil n0
 obtain ⟨f0, hf0⟩ : ∃ f : JFrame, f = mkF m 0 #[rv a1, rv b, iv 0] [] := ⟨_, rfl⟩
 have pre0 : ∀ t, own_S p e below s₁ f0 t → Steps p.tables e below (s₁.setTop (entryFrame m #[(.ref a1), (.ref b), (.int 0)] 3)) t := fun t k => castTop ((ef_rmSbb m a1 b (0 : Int32)).trans hf0.symm) k
 have R0 : own_R p e below s₁ (mkF m 0 #[rv a1, rv b, iv 0] []) s₁ f0 := by rw [hf0]; exact fun t k => k
 have R1 : own_R p e below s₁ (mkF m 1 #[rv a1, rv b, iv 0] [(.ref a1)]) s₁ f0 := fun t k => R0 t (by
  refine XS.aloadN X0.here hx rfl (hb hby d31_0) rfl rfl ?_
  exact k)
 obtain ⟨T2, X2, e2, st2⟩ := initO X0 hx hZ hown (hU 18 _ rfl) (hU 19 _ rfl) (hU 20 _ rfl) e0 (g := (mkF m 1 #[rv a1, rv b, iv 0] [(.ref a1)])) rfl (by rw [hml]; rfl) rfl (hb hby d31_1) (by decide) (W := 0) (Nat.le_of_eq rfl) (by decide)
 have R3 := fun t k => R1 t (st2 t k)
 have R4 : own_R p e below T2 (mkF m 6 #[rv a1, rv b, iv 0] [(.ref b), (.ref a1)]) s₁ f0 := fun t k => R3 t (by
  refine XS.aloadN X2.here hx rfl (hb hby d31_4) rfl rfl ?_
  refine XS.aloadN X2.here hx rfl (hb hby d31_5) rfl rfl ?_
  exact k)
 obtain ⟨T5, h5, X5, e5, W5, st5⟩ := putF X2 hx hZ hown (host := "") (Or.inl (hU 27 _ rfl)) Via.refl e2 F_value_a1 E_a1 (Or.inr ⟨(hU 23 _ rfl), rfl, hnm⟩) (hU 6 _ rfl) (ty := (.array .byte)) (by decide) rfl rfl (g := (mkF m 6 #[rv a1, rv b, iv 0] [(.ref b), (.ref a1)])) rfl rfl (hb hby d31_6)
 have fw5 : Fld Z h5 a1 "java/lang/String" "value" "[B" (.ref b) := F_value_a1.same W5
 have f5_E_a1 := E_a1.wr W5
 have f5_F_coder_a1 := F_coder_a1.other W5 (Or.inr (slot_ne (Or.inr (hU 24 _ rfl)) (Or.inr (hU 23 _ rfl)) (by decide) (t := .byte) (t' := (.array .byte)) (by decide) (by decide)))
 have z5 : n0 ≤ h5.size := by rw [W5.size]; exact Z0
 have K5 : Keep h0 h5 [a1] := (Keep.refl h0 [a1]).wr W5 (Or.inl (List.mem_of_getElem? (i := 0) rfl))
 have N5 := Fr.snoc X5 N0 g_a1
 have R6 := fun t k => R4 t (st5 t k)
 have R7 : own_R p e below T5 (mkF m 11 #[rv a1, rv b, iv 0] [(.int 0), (.ref a1)]) s₁ f0 := fun t k => R6 t (by
  refine XS.aloadN X5.here hx rfl (hb hby d31_9) rfl rfl ?_
  refine XS.iloadN X5.here hx rfl (hb hby d31_10) rfl ?_
  exact k)
 obtain ⟨T8, h8, X8, e8, W8, st8⟩ := putFN X5 hx hZ hown (hU 28 _ rfl) Via.refl e5 f5_F_coder_a1 f5_E_a1 (Or.inr ⟨(hU 24 _ rfl), rfl, hnm⟩) (hU 6 _ rfl) (ty := .byte) (v' := (.int 0)) (by decide) rfl rfl (g := (mkF m 11 #[rv a1, rv b, iv 0] [(.int 0), (.ref a1)])) rfl rfl (hb hby d31_11)
 have fw8 : Fld Z h8 a1 "java/lang/String" "coder" "B" (.int 0) := f5_F_coder_a1.same W8
 have f8_E_a1 := f5_E_a1.wr W8
 have f8_F_value_a1 := fw5.other W8 (Or.inr (slot_ne (Or.inr (hU 23 _ rfl)) (Or.inr (hU 24 _ rfl)) (by decide) (t := (.array .byte)) (t' := .byte) (by decide) (by decide)))
 have z8 : n0 ≤ h8.size := by rw [W8.size]; exact z5
 have K8 : Keep h0 h8 [a1] := K5.wr W8 (Or.inl (List.mem_of_getElem? (i := 0) rfl))
 have N8 := Fr.snoc X8 N5 g_a1
 have R9 := fun t k => R7 t (st8 t k)
 obtain ⟨fs, hr, hrun, hended, hW, hsame⟩ := X8.leave (v := none) (fun _ => rfl)
 refine ⟨_, _, pre0 _ (R9 _ ?_), hrun, hended, _, _, rfl, ?_, ⟨_, rfl⟩, hW, hsame.mono (by decide) (by decide)⟩
 ·
  show own_S p e below T8 (mkF m 14 #[rv a1, rv b, iv 0] []) _
  exact X8.returnOut hx Bd.returns (hb hby d31_14) hr
 ·
  show Q_rmSbb Z a1 b u1 u2 h0 n0 _ T8.heap _
  rw [e8]
  exact ⟨rfl, N8, K8, f8_F_value_a1, fw8⟩
theorem ef_rmQni (m : MethodId) (x0 : Addr) (x1 : Addr) (x2 : Int64) : entryFrame m #[(.ref x0), (.ref x1), (.long x2)] 4 = mkF m 0 #[rv x0, rv x1, own_l x2, .second] [] := by first | (simp [entryFrame, mkF, argsToLocals, Value.category]; done) | rfl
def Q_rmQni (Z : State) (a1 : Addr) (x1 : Addr) (zx : Int64) (u1 : Value) (u2 : Value) (h0 : Heap) (n0 : Nat) (v : Option Value) (h : Heap) (L : List Loc) : Prop := v = none ∧ Fr n0 L ∧ Keep h0 h [a1] ∧ (Fld Z h a1 sN0 "path" "Ljava/lang/String;" (.ref x1))
set_option maxRecDepth 65536 in
set_option maxHeartbeats 40000000 in
theorem rmQni (l : Launch) (Z : State) (a0 : Array Value) (hw : ∀ d ∈ tables_1, d.before a0 Z = true) (ws : List Jvm.Cond) (a1 : Addr) (x1 : Addr) (zx : Int64) (u1 : Value) (u2 : Value) (h0 : Heap) (n0 : Nat) (Z0 : n0 ≤ h0.size) (E_a1 : Exa Z h0 a1 sN0) (F_path_a1 : Fld Z h0 a1 sN0 "path" "Ljava/lang/String;" u1) (F_creationZxid_a1 : Fld Z h0 a1 sN0 "creationZxid" "J" u2) (g_a1 : n0 ≤ a1) :
  own_M l yN5 (Jvm.Cond.code yN5 prog_11_method_1_code 4 none :: ws) ({ frames := 1, cells := 0, slots := 0, locals := 12 } : Room) #[(.ref a1), (.ref x1), (.long zx)] Z h0 (Q_rmQni Z a1 x1 zx u1 u2 h0 n0) := by
 refine MetFree.of_bodySF (plainFor_of_name pn_16) hisR ?_
 intro p e s m args below meth c s₁ Bd hml0 hP hK
 obtain ⟨rfl, hZ, hh⟩ := hP
 have hx := Bd.exec
 have hby := Bd.bytes
 have hml : c.maxLocals = 4 := hml0
 have hown : s.vm.findClass sN0 = some m.cls := findClass_of_methodNamed Bd.named
 have hnm := (name_of_methodNamed Bd.named Bd.method).1
 have X0 : Stand p l e ({ frames := 1, cells := 0, slots := 0, locals := 12 } : Room) s m #[(.ref a1), (.ref x1), (.long zx)] below meth c s₁ [] 0 0 := Stand.of_body Bd
 have hU : ∀ (i : Nat) (d : Jvm.Cond), tables_1[i]? = some d → d.before a0 Z = true := fun i d h => hw d (List.mem_of_getElem? h)
 have e0 : s₁.heap = h0 := by rw [← hh, Bd.state]; rfl
 have N0 := Fr.nil n0
 obtain ⟨f0, hf0⟩ : ∃ f : JFrame, f = mkF m 0 (fA48 a1 x1 zx) [] := ⟨_, rfl⟩
 have pre0 : ∀ t, own_S p e below s₁ f0 t → Steps p.tables e below (s₁.setTop (entryFrame m #[(.ref a1), (.ref x1), (.long zx)] 4)) t := fun t k => castTop ((ef_rmQni m a1 x1 zx).trans hf0.symm) k
 have R0 : own_R p e below s₁ (mkF m 0 (fA48 a1 x1 zx) []) s₁ f0 := by rw [hf0]; exact fun t k => k
 have R1 : own_R p e below s₁ (mkF m 1 (fA48 a1 x1 zx) [(.ref a1)]) s₁ f0 := fun t k => R0 t (by
  refine XS.aloadN X0.here hx rfl (hb hby d6_0) rfl rfl ?_
  exact k)
 obtain ⟨T2, X2, e2, st2⟩ := initO X0 hx hZ hown (hU 35 _ rfl) (hU 19 _ rfl) (hU 20 _ rfl) e0 (g := (mkF m 1 (fA48 a1 x1 zx) [(.ref a1)])) rfl (by rw [hml]; rfl) rfl (hb hby d6_1) (by decide) (W := 0) (Nat.le_of_eq rfl) (by decide)
 have R3 := fun t k => R1 t (st2 t k)
 have R4 : own_R p e below T2 (mkF m 6 (fA48 a1 x1 zx) [(.ref x1), (.ref a1)]) s₁ f0 := fun t k => R3 t (by
  refine XS.aloadN X2.here hx rfl (hb hby d6_4) rfl rfl ?_
  refine XS.aloadN X2.here hx rfl (hb hby d6_5) rfl rfl ?_
  exact k)
 obtain ⟨T5, h5, X5, e5, W5, st5⟩ := putF X2 hx hZ hown (host := "") (Or.inl (hU 36 _ rfl)) Via.refl e2 F_path_a1 E_a1 (Or.inr ⟨(hU 37 _ rfl), rfl, hnm⟩) (hU 30 _ rfl) (ty := (.object "java/lang/String")) (by decide) rfl rfl (g := (mkF m 6 (fA48 a1 x1 zx) [(.ref x1), (.ref a1)])) rfl rfl (hb hby d6_6)
 have fw5 : Fld Z h5 a1 sN0 "path" "Ljava/lang/String;" (.ref x1) := F_path_a1.same W5
 have f5_E_a1 := E_a1.wr W5
 have f5_F_creationZxid_a1 := F_creationZxid_a1.other W5 (Or.inr (slot_ne (Or.inr (hU 39 _ rfl)) (Or.inr (hU 37 _ rfl)) (by decide) (t := .long) (t' := (.object "java/lang/String")) (by decide) (by decide)))
 have z5 : n0 ≤ h5.size := by rw [W5.size]; exact Z0
 have K5 : Keep h0 h5 [a1] := (Keep.refl h0 [a1]).wr W5 (Or.inl (List.mem_of_getElem? (i := 0) rfl))
 have N5 := Fr.snoc X5 N0 g_a1
 have R6 := fun t k => R4 t (st5 t k)
 have R7 : own_R p e below T5 (mkF m 11 (fA48 a1 x1 zx) [(.long zx), (.ref a1)]) s₁ f0 := fun t k => R6 t (by
  refine XS.aloadN X5.here hx rfl (hb hby d6_9) rfl rfl ?_
  refine XS.lloadN X5.here hx rfl (hb hby d6_10) rfl ?_
  exact k)
 obtain ⟨T8, h8, X8, e8, W8, st8⟩ := putF X5 hx hZ hown (host := "") (Or.inl (hU 38 _ rfl)) Via.refl e5 f5_F_creationZxid_a1 f5_E_a1 (Or.inr ⟨(hU 39 _ rfl), rfl, hnm⟩) (hU 30 _ rfl) (ty := .long) (by decide) rfl rfl (g := (mkF m 11 (fA48 a1 x1 zx) [(.long zx), (.ref a1)])) rfl rfl (hb hby d6_11)
 have fw8 : Fld Z h8 a1 sN0 "creationZxid" "J" (.long zx) := f5_F_creationZxid_a1.same W8
 have f8_E_a1 := f5_E_a1.wr W8
 have f8_F_path_a1 := fw5.other W8 (Or.inr (slot_ne (Or.inr (hU 37 _ rfl)) (Or.inr (hU 39 _ rfl)) (by decide) (t := (.object "java/lang/String")) (t' := .long) (by decide) (by decide)))
 have z8 : n0 ≤ h8.size := by rw [W8.size]; exact z5
 have K8 : Keep h0 h8 [a1] := K5.wr W8 (Or.inl (List.mem_of_getElem? (i := 0) rfl))
 have N8 := Fr.snoc X8 N5 g_a1
 have R9 := fun t k => R7 t (st8 t k)
 obtain ⟨fs, hr, hrun, hended, hW, hsame⟩ := X8.leave (v := none) (fun _ => rfl)
 refine ⟨_, _, pre0 _ (R9 _ ?_), hrun, hended, _, _, rfl, ?_, ⟨_, rfl⟩, hW, hsame.mono (by decide) (by decide)⟩
 ·
  show own_S p e below T8 (mkF m 14 (fA48 a1 x1 zx) []) _
  exact X8.returnOut hx Bd.returns (hb hby d6_14) hr
 ·
  show Q_rmQni Z a1 x1 zx u1 u2 h0 n0 _ T8.heap _
  rw [e8]
  exact ⟨rfl, N8, K8, f8_F_path_a1⟩
theorem ef_rmCrb41 (m : MethodId) (x0 : Addr) (x1 : Int32) (x2 : Int32) : entryFrame m #[(.ref x0), (.int x1), (.int x2)] 5 = mkF m 0 (fA46 x0 x1 x2) [] := by first | (simp [entryFrame, mkF, argsToLocals, Value.category]; done) | rfl
set_option maxRecDepth 65536 in
set_option maxHeartbeats 40000000 in
theorem rmCrb41 (l : Launch) (Z : State) (a0 : Array Value) (hw : ∀ d ∈ tables_1, d.before a0 Z = true) (ws : List Jvm.Cond) (b : Addr) (kb : ClassId) (x0 : Int32) (x1 : Int32) (x2 : Int32) (x3 : Int32) (h0 : Heap) (n0 : Nat) (Z0 : n0 ≤ h0.size) (A_b : Arv Z h0 b kb .byte (4 : Int32) [(.int x0), (.int x1), (.int x2), (.int x3)] (.int 0)) :
  own_M l yN3 (Jvm.Cond.code yN3 jdk_65_method_133_code 5 (some (.array .byte)) :: ws) ({ frames := 1, cells := 1, slots := 3, locals := 18 } : Room) #[(.ref b), (.int 1), (.int 4)] Z h0 (Q_rmCp Z (3 : Int32) [(.int x1), (.int x2), (.int x3)] h0 n0) := by
 refine MetFree.of_bodySF (plainFor_of_name pn_15) hisR ?_
 intro p e s m args below meth c s₁ Bd hml0 hP hK
 obtain ⟨rfl, hZ, hh⟩ := hP
 have hx := Bd.exec
 have hby := Bd.bytes
 have hml : c.maxLocals = 5 := hml0
 have hown : s.vm.findClass "java/util/Arrays" = some m.cls := findClass_of_methodNamed Bd.named
 have hnm := (name_of_methodNamed Bd.named Bd.method).1
 have X0 : Stand p l e ({ frames := 1, cells := 1, slots := 3, locals := 18 } : Room) s m #[(.ref b), (.int 1), (.int 4)] below meth c s₁ [] 0 0 := Stand.of_body Bd
 have hU : ∀ (i : Nat) (d : Jvm.Cond), tables_1[i]? = some d → d.before a0 Z = true := fun i d h => hw d (List.mem_of_getElem? h)
 have e0 : s₁.heap = h0 := by rw [← hh, Bd.state]; rfl
 have N0 := Fr.nil n0
 obtain ⟨f0, hf0⟩ : ∃ f : JFrame, f = mkF m 0 (fA75 b) [] := ⟨_, rfl⟩
 have pre0 : ∀ t, own_S p e below s₁ f0 t → Steps p.tables e below (s₁.setTop (entryFrame m #[(.ref b), (.int 1), (.int 4)] 5)) t := fun t k => castTop ((ef_rmCrb41 m b (1 : Int32) (4 : Int32)).trans hf0.symm) k
 have R0 : own_R p e below s₁ (mkF m 0 (fA75 b) []) s₁ f0 := by rw [hf0]; exact fun t k => k
 have R1 : own_R p e below s₁ (mkF m 2 (fA75 b) [(.int 4), (.int 1)]) s₁ f0 := fun t k => R0 t (by
  refine XS.iloadN X0.here hx rfl (hb hby d29_0) rfl ?_
  refine XS.iloadN X0.here hx rfl (hb hby d29_1) rfl ?_
  exact k)
 obtain ⟨_, _, ⟨T2, L2, k2, n2⟩, -, X2, ⟨Lc2, hQ2, l2, y2, z2⟩, st2⟩ := Jvm.LawKit.callS X0 hx (y := yN14) hown (mvT hZ (hU 137 _ rfl)) (mvT hZ (hU 138 _ rfl)) (mvT hZ (hU 132 _ rfl)) (mvT hZ (hU 139 _ rfl)) (by decide) (backOf (W := 0) (rmCkl l Z a0 hw [] (1 : Int32) (4 : Int32) h0 n0 Z0 (by decide)) hZ (hU 139 _ rfl) (hU 132 _ rfl) (by decide) (by decide)) (g := (mkF m 2 (fA75 b) [(.int 4), (.int 1)])) rfl (by rw [hml]; rfl) (argsL := [(.int 1), (.int 4)]) (rest := []) (lenOf pd_6 rfl) rfl (Nat.le_of_eq rfl) (hb hby d29_2) (fun _ _ => ⟨rfl, e0, (by decide : 0 + 0 ≤ _), (by decide : 0 + 0 ≤ _)⟩)
 dsimp only [Pt.U, Pt.locs, Pt.cells, Pt.slots] at X2 l2 y2 z2 st2 hQ2
 subst l2 y2 z2
 obtain ⟨rfl, N2q, p2_0⟩ := hQ2
 have N2 := Fr.app N0 N2q
 have R3 := fun t k => R1 t (st2 t k)
 have R4 : own_R p e below T2 (mkF m 10 #[rv b, iv 1, iv 4, iv 3, .unset] [(.int 3)]) s₁ f0 := fun t k => R3 t (by
  refine XS.iloadN X2.here hx rfl (hb hby d29_5) rfl ?_
  refine XS.iloadN X2.here hx rfl (hb hby d29_6) rfl ?_
  refine XS.isub X2.here hx rfl (hb hby d29_7) rfl ?_
  refine XS.istoreN X2.here hx rfl (hb hby d29_8) rfl (l' := #[rv b, iv 1, iv 4, iv 3, .unset]) rfl ?_
  refine XS.iloadN X2.here hx rfl (hb hby d29_9) rfl ?_
  exact k)
 obtain ⟨T5, h5, k5, X5, e5, E5, A5, st5⟩ := newP X2 hx hZ (hU 22 _ rfl) p2_0 (g := (mkF m 10 #[rv b, iv 1, iv 4, iv 3, .unset] [(.int 3)])) rfl (hb hby d29_10) rfl (by decide) (cap := 3) (by decide) (by decide) (by decide) (by decide)
 obtain ⟨b5, g5⟩ : ∃ z, z = h0.size := ⟨_, rfl⟩
 rw [← g5] at A5 st5
 have g_b5 : n0 ≤ b5 := Nat.le_trans Z0 (Nat.le_of_eq g5.symm)
 have sz_b5 : h0.size ≤ b5 := Nat.le_trans (Keep.refl h0 []).1 (Nat.le_of_eq g5.symm)
 have ne_b_b5 : b ≠ b5 := Nat.ne_of_lt (Nat.lt_of_lt_of_le A_b.lt (Nat.le_of_eq g5.symm))
 have f5_A_b := A_b.ext E5
 have z5 : n0 ≤ h5.size := Nat.le_trans Z0 E5.1
 have K5 : Keep h0 h5 [] := (Keep.refl h0 []).ext E5
 have v5 : Arv Z h5 b5 k5 .byte (3 : Int32) [(.int 0), (.int 0), (.int 0)] (.int 0) := (Arv.new A5 (by decide)).pad (pad_rep [] (.int 0) 3)
 have R6 := fun t k => R4 t (st5 t k)
 have R7 : own_R p e below T5 (mkF m 20 #[rv b, iv 1, iv 4, iv 3, rv b5] [(.ref b), (.int 0), (.ref b5), (.int 1), (.ref b)]) s₁ f0 := fun t k => R6 t (by
  refine XS.astore X5.here hx rfl (hb hby d29_12) rfl rfl (l' := #[rv b, iv 1, iv 4, iv 3, rv b5]) rfl ?_
  refine XS.aloadN X5.here hx rfl (hb hby d29_14) rfl rfl ?_
  refine XS.iloadN X5.here hx rfl (hb hby d29_15) rfl ?_
  refine XS.aload X5.here hx rfl (hb hby d29_16) rfl rfl ?_
  refine XS.iconst X5.here hx rfl (hb hby d29_18) ?_
  refine XS.aloadN X5.here hx rfl (hb hby d29_19) rfl rfl ?_
  exact k)
 obtain ⟨cl8, Ar8, -, S8, N8_, -, -⟩ := id f5_A_b
 have R9 : own_R p e below T5 (mkF m 21 #[rv b, iv 1, iv 4, iv 3, rv b5] [(.int 4), (.int 0), (.ref b5), (.int 1), (.ref b)]) s₁ f0 := fun t k => R7 t (X5.arraylength hx (by rw [e5]; exact Ar8.1) (State.isArrayOf_alike hZ.alike Ar8.2.1) (g := (mkF m 20 #[rv b, iv 1, iv 4, iv 3, rv b5] [(.ref b), (.int 0), (.ref b5), (.int 1), (.ref b)])) rfl rfl (hb hby d29_20) _ (by rw [len_of S8 N8_]; exact k))
 have R10 : own_R p e below T5 (mkF m 24 #[rv b, iv 1, iv 4, iv 3, rv b5] [(.int 3), (.int 3), (.int 0), (.ref b5), (.int 1), (.ref b)]) s₁ f0 := fun t k => R9 t (by
  refine XS.iloadN X5.here hx rfl (hb hby d29_21) rfl ?_
  refine XS.isub X5.here hx rfl (hb hby d29_22) rfl ?_
  refine XS.iloadN X5.here hx rfl (hb hby d29_23) rfl ?_
  exact k)
 obtain ⟨_, _, ⟨T11, L11, k11, n11⟩, -, X11, ⟨Lc11, hQ11, l11, y11, z11⟩, st11⟩ := Jvm.LawKit.callS X5 hx (y := yN8) hown (mvT hZ (hU 140 _ rfl)) (mvT hZ (hU 79 _ rfl)) (mvT hZ (hU 80 _ rfl)) (mvT hZ (hU 81 _ rfl)) (by decide) (backOf (W := 4) (rmMin l Z a0 hw [] (3 : Int32) h5 n0 z5 (by decide)) hZ (hU 81 _ rfl) (hU 80 _ rfl) (by decide) (by decide)) (g := (mkF m 24 #[rv b, iv 1, iv 4, iv 3, rv b5] [(.int 3), (.int 3), (.int 0), (.ref b5), (.int 1), (.ref b)])) rfl (by rw [hml]; rfl) (argsL := [(.int 3), (.int 3)]) (rest := [(.int 0), (.ref b5), (.int 1), (.ref b)]) (lenOf pd_17 rfl) rfl (Nat.le_of_eq rfl) (hb hby d29_24) (fun _ _ => ⟨rfl, e5, (by decide : 1 + 0 ≤ _), (by decide : 3 + 0 ≤ _)⟩)
 dsimp only [Pt.U, Pt.locs, Pt.cells, Pt.slots] at X11 l11 y11 z11 st11 hQ11
 subst l11 y11 z11
 obtain ⟨rfl, N11q, p11_0⟩ := hQ11
 have N11 := Fr.app N2 N11q
 have R12 := fun t k => R10 t (st11 t k)
 obtain ⟨T13, h13, L13, X13, e13, N13, Kc13, v13_, st13⟩ := cpA X11 hx hZ hown (hU 141 _ rfl) (hU 144 _ rfl) (hU 142 _ rfl) (hU 143 _ rfl) p11_0 f5_A_b v5 (us := [(.int x1), (.int x2), (.int x3)]) (Or.inl ⟨rfl, rfl⟩) (by decide) (by decide) (by decide) (by decide) (by decide) rfl (Nat.le_of_ble_eq_true rfl) N11 g_b5 (g := (mkF m 27 #[rv b, iv 1, iv 4, iv 3, rv b5] [(.int 3), (.int 0), (.ref b5), (.int 1), (.ref b)])) rfl (by rw [hml]; rfl) rfl (hb hby d29_27) (by decide) (W := 0) (Nat.le_of_eq rfl) (by decide)
 have f13_A_b := f5_A_b.keep Kc13 (ninS ne_b_b5 nin0)
 have z13 : n0 ≤ h13.size := Nat.le_trans z5 Kc13.1
 have K13 : Keep h0 h13 [] := K5.trans Kc13 (allS (Or.inr sz_b5) all0)
 have v13 : Arv Z h13 b5 k5 .byte (3 : Int32) [(.int x1), (.int x2), (.int x3)] (.int 0) := v13_
 have R14 := fun t k => R12 t (st13 t k)
 have R15 : own_R p e below T13 (mkF m 32 #[rv b, iv 1, iv 4, iv 3, rv b5] [(.ref b5)]) s₁ f0 := fun t k => R14 t (by
  refine XS.aload X13.here hx rfl (hb hby d29_30) rfl rfl ?_
  exact k)
 obtain ⟨fs, hr, hrun, hended, hW, hsame⟩ := X13.leave (v := some (.ref b5)) (fun h => by rw [Bd.returns] at h; cases h)
 refine ⟨_, _, pre0 _ (R15 _ ?_), hrun, hended, _, _, rfl, ?_, ⟨_, rfl⟩, hW, hsame.mono (by decide) (by decide)⟩
 ·
  show own_S p e below T13 (mkF m 32 #[rv b, iv 1, iv 4, iv 3, rv b5] [(.ref b5)]) _
  exact retOut X13 hx (t := (.array .byte)) Bd.returns rfl (Or.inr (Or.inr (Or.inr (Or.inr ⟨rfl, rfl, rfl⟩)))) (hb hby d29_32) hr
 ·
  show (Q_rmCp Z (3 : Int32) [(.int x1), (.int x2), (.int x3)] h0 n0) _ T13.heap _
  rw [e13]
  exact ⟨b5, k5, rfl, N13, K13, v13, sz_b5⟩
theorem ef_rmCrb42 (m : MethodId) (x0 : Addr) (x1 : Int32) (x2 : Int32) : entryFrame m #[(.ref x0), (.int x1), (.int x2)] 5 = mkF m 0 (fA46 x0 x1 x2) [] := by first | (simp [entryFrame, mkF, argsToLocals, Value.category]; done) | rfl
set_option maxRecDepth 65536 in
set_option maxHeartbeats 40000000 in
theorem rmCrb42 (l : Launch) (Z : State) (a0 : Array Value) (hw : ∀ d ∈ tables_1, d.before a0 Z = true) (ws : List Jvm.Cond) (b : Addr) (kb : ClassId) (x0 : Int32) (x1 : Int32) (x2 : Int32) (x3 : Int32) (h0 : Heap) (n0 : Nat) (Z0 : n0 ≤ h0.size) (A_b : Arv Z h0 b kb .byte (4 : Int32) [(.int x0), (.int x1), (.int x2), (.int x3)] (.int 0)) :
  own_M l yN3 (Jvm.Cond.code yN3 jdk_65_method_133_code 5 (some (.array .byte)) :: ws) ({ frames := 1, cells := 1, slots := 3, locals := 18 } : Room) #[(.ref b), (.int 2), (.int 4)] Z h0 (Q_rmCp Z (2 : Int32) [(.int x2), (.int x3)] h0 n0) := by
 refine MetFree.of_bodySF (plainFor_of_name pn_15) hisR ?_
 intro p e s m args below meth c s₁ Bd hml0 hP hK
 obtain ⟨rfl, hZ, hh⟩ := hP
 have hx := Bd.exec
 have hby := Bd.bytes
 have hml : c.maxLocals = 5 := hml0
 have hown : s.vm.findClass "java/util/Arrays" = some m.cls := findClass_of_methodNamed Bd.named
 have hnm := (name_of_methodNamed Bd.named Bd.method).1
 have X0 : Stand p l e ({ frames := 1, cells := 1, slots := 3, locals := 18 } : Room) s m #[(.ref b), (.int 2), (.int 4)] below meth c s₁ [] 0 0 := Stand.of_body Bd
 have hU : ∀ (i : Nat) (d : Jvm.Cond), tables_1[i]? = some d → d.before a0 Z = true := fun i d h => hw d (List.mem_of_getElem? h)
 have e0 : s₁.heap = h0 := by rw [← hh, Bd.state]; rfl
 have N0 := Fr.nil n0
 obtain ⟨f0, hf0⟩ : ∃ f : JFrame, f = mkF m 0 (fA76 b) [] := ⟨_, rfl⟩
 have pre0 : ∀ t, own_S p e below s₁ f0 t → Steps p.tables e below (s₁.setTop (entryFrame m #[(.ref b), (.int 2), (.int 4)] 5)) t := fun t k => castTop ((ef_rmCrb42 m b (2 : Int32) (4 : Int32)).trans hf0.symm) k
 have R0 : own_R p e below s₁ (mkF m 0 (fA76 b) []) s₁ f0 := by rw [hf0]; exact fun t k => k
 have R1 : own_R p e below s₁ (mkF m 2 (fA76 b) [(.int 4), (.int 2)]) s₁ f0 := fun t k => R0 t (by
  refine XS.iloadN X0.here hx rfl (hb hby d29_0) rfl ?_
  refine XS.iloadN X0.here hx rfl (hb hby d29_1) rfl ?_
  exact k)
 obtain ⟨_, _, ⟨T2, L2, k2, n2⟩, -, X2, ⟨Lc2, hQ2, l2, y2, z2⟩, st2⟩ := Jvm.LawKit.callS X0 hx (y := yN14) hown (mvT hZ (hU 137 _ rfl)) (mvT hZ (hU 138 _ rfl)) (mvT hZ (hU 132 _ rfl)) (mvT hZ (hU 139 _ rfl)) (by decide) (backOf (W := 0) (rmCkl l Z a0 hw [] (2 : Int32) (4 : Int32) h0 n0 Z0 (by decide)) hZ (hU 139 _ rfl) (hU 132 _ rfl) (by decide) (by decide)) (g := (mkF m 2 (fA76 b) [(.int 4), (.int 2)])) rfl (by rw [hml]; rfl) (argsL := [(.int 2), (.int 4)]) (rest := []) (lenOf pd_6 rfl) rfl (Nat.le_of_eq rfl) (hb hby d29_2) (fun _ _ => ⟨rfl, e0, (by decide : 0 + 0 ≤ _), (by decide : 0 + 0 ≤ _)⟩)
 dsimp only [Pt.U, Pt.locs, Pt.cells, Pt.slots] at X2 l2 y2 z2 st2 hQ2
 subst l2 y2 z2
 obtain ⟨rfl, N2q, p2_0⟩ := hQ2
 have N2 := Fr.app N0 N2q
 have R3 := fun t k => R1 t (st2 t k)
 have R4 : own_R p e below T2 (mkF m 10 #[rv b, iv 2, iv 4, iv 2, .unset] [(.int 2)]) s₁ f0 := fun t k => R3 t (by
  refine XS.iloadN X2.here hx rfl (hb hby d29_5) rfl ?_
  refine XS.iloadN X2.here hx rfl (hb hby d29_6) rfl ?_
  refine XS.isub X2.here hx rfl (hb hby d29_7) rfl ?_
  refine XS.istoreN X2.here hx rfl (hb hby d29_8) rfl (l' := #[rv b, iv 2, iv 4, iv 2, .unset]) rfl ?_
  refine XS.iloadN X2.here hx rfl (hb hby d29_9) rfl ?_
  exact k)
 obtain ⟨T5, h5, k5, X5, e5, E5, A5, st5⟩ := newP X2 hx hZ (hU 22 _ rfl) p2_0 (g := (mkF m 10 #[rv b, iv 2, iv 4, iv 2, .unset] [(.int 2)])) rfl (hb hby d29_10) rfl (by decide) (cap := 2) (by decide) (by decide) (by decide) (by decide)
 obtain ⟨b5, g5⟩ : ∃ z, z = h0.size := ⟨_, rfl⟩
 rw [← g5] at A5 st5
 have g_b5 : n0 ≤ b5 := Nat.le_trans Z0 (Nat.le_of_eq g5.symm)
 have sz_b5 : h0.size ≤ b5 := Nat.le_trans (Keep.refl h0 []).1 (Nat.le_of_eq g5.symm)
 have ne_b_b5 : b ≠ b5 := Nat.ne_of_lt (Nat.lt_of_lt_of_le A_b.lt (Nat.le_of_eq g5.symm))
 have f5_A_b := A_b.ext E5
 have z5 : n0 ≤ h5.size := Nat.le_trans Z0 E5.1
 have K5 : Keep h0 h5 [] := (Keep.refl h0 []).ext E5
 have v5 : Arv Z h5 b5 k5 .byte (2 : Int32) [(.int 0), (.int 0)] (.int 0) := (Arv.new A5 (by decide)).pad (pad_rep [] (.int 0) 2)
 have R6 := fun t k => R4 t (st5 t k)
 have R7 : own_R p e below T5 (mkF m 20 #[rv b, iv 2, iv 4, iv 2, rv b5] [(.ref b), (.int 0), (.ref b5), (.int 2), (.ref b)]) s₁ f0 := fun t k => R6 t (by
  refine XS.astore X5.here hx rfl (hb hby d29_12) rfl rfl (l' := #[rv b, iv 2, iv 4, iv 2, rv b5]) rfl ?_
  refine XS.aloadN X5.here hx rfl (hb hby d29_14) rfl rfl ?_
  refine XS.iloadN X5.here hx rfl (hb hby d29_15) rfl ?_
  refine XS.aload X5.here hx rfl (hb hby d29_16) rfl rfl ?_
  refine XS.iconst X5.here hx rfl (hb hby d29_18) ?_
  refine XS.aloadN X5.here hx rfl (hb hby d29_19) rfl rfl ?_
  exact k)
 obtain ⟨cl8, Ar8, -, S8, N8_, -, -⟩ := id f5_A_b
 have R9 : own_R p e below T5 (mkF m 21 #[rv b, iv 2, iv 4, iv 2, rv b5] [(.int 4), (.int 0), (.ref b5), (.int 2), (.ref b)]) s₁ f0 := fun t k => R7 t (X5.arraylength hx (by rw [e5]; exact Ar8.1) (State.isArrayOf_alike hZ.alike Ar8.2.1) (g := (mkF m 20 #[rv b, iv 2, iv 4, iv 2, rv b5] [(.ref b), (.int 0), (.ref b5), (.int 2), (.ref b)])) rfl rfl (hb hby d29_20) _ (by rw [len_of S8 N8_]; exact k))
 have R10 : own_R p e below T5 (mkF m 24 #[rv b, iv 2, iv 4, iv 2, rv b5] [(.int 2), (.int 2), (.int 0), (.ref b5), (.int 2), (.ref b)]) s₁ f0 := fun t k => R9 t (by
  refine XS.iloadN X5.here hx rfl (hb hby d29_21) rfl ?_
  refine XS.isub X5.here hx rfl (hb hby d29_22) rfl ?_
  refine XS.iloadN X5.here hx rfl (hb hby d29_23) rfl ?_
  exact k)
 obtain ⟨_, _, ⟨T11, L11, k11, n11⟩, -, X11, ⟨Lc11, hQ11, l11, y11, z11⟩, st11⟩ := Jvm.LawKit.callS X5 hx (y := yN8) hown (mvT hZ (hU 140 _ rfl)) (mvT hZ (hU 79 _ rfl)) (mvT hZ (hU 80 _ rfl)) (mvT hZ (hU 81 _ rfl)) (by decide) (backOf (W := 4) (rmMin l Z a0 hw [] (2 : Int32) h5 n0 z5 (by decide)) hZ (hU 81 _ rfl) (hU 80 _ rfl) (by decide) (by decide)) (g := (mkF m 24 #[rv b, iv 2, iv 4, iv 2, rv b5] [(.int 2), (.int 2), (.int 0), (.ref b5), (.int 2), (.ref b)])) rfl (by rw [hml]; rfl) (argsL := [(.int 2), (.int 2)]) (rest := [(.int 0), (.ref b5), (.int 2), (.ref b)]) (lenOf pd_17 rfl) rfl (Nat.le_of_eq rfl) (hb hby d29_24) (fun _ _ => ⟨rfl, e5, (by decide : 1 + 0 ≤ _), (by decide : 2 + 0 ≤ _)⟩)
 dsimp only [Pt.U, Pt.locs, Pt.cells, Pt.slots] at X11 l11 y11 z11 st11 hQ11
 subst l11 y11 z11
 obtain ⟨rfl, N11q, p11_0⟩ := hQ11
 have N11 := Fr.app N2 N11q
 have R12 := fun t k => R10 t (st11 t k)
 obtain ⟨T13, h13, L13, X13, e13, N13, Kc13, v13_, st13⟩ := cpA X11 hx hZ hown (hU 141 _ rfl) (hU 144 _ rfl) (hU 142 _ rfl) (hU 143 _ rfl) p11_0 f5_A_b v5 (us := [(.int x2), (.int x3)]) (Or.inl ⟨rfl, rfl⟩) (by decide) (by decide) (by decide) (by decide) (by decide) rfl (Nat.le_of_ble_eq_true rfl) N11 g_b5 (g := (mkF m 27 #[rv b, iv 2, iv 4, iv 2, rv b5] [(.int 2), (.int 0), (.ref b5), (.int 2), (.ref b)])) rfl (by rw [hml]; rfl) rfl (hb hby d29_27) (by decide) (W := 0) (Nat.le_of_eq rfl) (by decide)
 have f13_A_b := f5_A_b.keep Kc13 (ninS ne_b_b5 nin0)
 have z13 : n0 ≤ h13.size := Nat.le_trans z5 Kc13.1
 have K13 : Keep h0 h13 [] := K5.trans Kc13 (allS (Or.inr sz_b5) all0)
 have v13 : Arv Z h13 b5 k5 .byte (2 : Int32) [(.int x2), (.int x3)] (.int 0) := v13_
 have R14 := fun t k => R12 t (st13 t k)
 have R15 : own_R p e below T13 (mkF m 32 #[rv b, iv 2, iv 4, iv 2, rv b5] [(.ref b5)]) s₁ f0 := fun t k => R14 t (by
  refine XS.aload X13.here hx rfl (hb hby d29_30) rfl rfl ?_
  exact k)
 obtain ⟨fs, hr, hrun, hended, hW, hsame⟩ := X13.leave (v := some (.ref b5)) (fun h => by rw [Bd.returns] at h; cases h)
 refine ⟨_, _, pre0 _ (R15 _ ?_), hrun, hended, _, _, rfl, ?_, ⟨_, rfl⟩, hW, hsame.mono (by decide) (by decide)⟩
 ·
  show own_S p e below T13 (mkF m 32 #[rv b, iv 2, iv 4, iv 2, rv b5] [(.ref b5)]) _
  exact retOut X13 hx (t := (.array .byte)) Bd.returns rfl (Or.inr (Or.inr (Or.inr (Or.inr ⟨rfl, rfl, rfl⟩)))) (hb hby d29_32) hr
 ·
  show (Q_rmCp Z (2 : Int32) [(.int x2), (.int x3)] h0 n0) _ T13.heap _
  rw [e13]
  exact ⟨b5, k5, rfl, N13, K13, v13, sz_b5⟩
theorem ef_rmCrb43 (m : MethodId) (x0 : Addr) (x1 : Int32) (x2 : Int32) : entryFrame m #[(.ref x0), (.int x1), (.int x2)] 5 = mkF m 0 (fA46 x0 x1 x2) [] := by first | (simp [entryFrame, mkF, argsToLocals, Value.category]; done) | rfl
set_option maxRecDepth 65536 in
set_option maxHeartbeats 40000000 in
theorem rmCrb43 (l : Launch) (Z : State) (a0 : Array Value) (hw : ∀ d ∈ tables_1, d.before a0 Z = true) (ws : List Jvm.Cond) (b : Addr) (kb : ClassId) (x0 : Int32) (x1 : Int32) (x2 : Int32) (x3 : Int32) (h0 : Heap) (n0 : Nat) (Z0 : n0 ≤ h0.size) (A_b : Arv Z h0 b kb .byte (4 : Int32) [(.int x0), (.int x1), (.int x2), (.int x3)] (.int 0)) :
  own_M l yN3 (Jvm.Cond.code yN3 jdk_65_method_133_code 5 (some (.array .byte)) :: ws) ({ frames := 1, cells := 1, slots := 3, locals := 18 } : Room) #[(.ref b), (.int 3), (.int 4)] Z h0 (Q_rmCp Z (1 : Int32) [(.int x3)] h0 n0) := by
 refine MetFree.of_bodySF (plainFor_of_name pn_15) hisR ?_
 intro p e s m args below meth c s₁ Bd hml0 hP hK
 obtain ⟨rfl, hZ, hh⟩ := hP
 have hx := Bd.exec
 have hby := Bd.bytes
 have hml : c.maxLocals = 5 := hml0
 have hown : s.vm.findClass "java/util/Arrays" = some m.cls := findClass_of_methodNamed Bd.named
 have hnm := (name_of_methodNamed Bd.named Bd.method).1
 have X0 : Stand p l e ({ frames := 1, cells := 1, slots := 3, locals := 18 } : Room) s m #[(.ref b), (.int 3), (.int 4)] below meth c s₁ [] 0 0 := Stand.of_body Bd
 have hU : ∀ (i : Nat) (d : Jvm.Cond), tables_1[i]? = some d → d.before a0 Z = true := fun i d h => hw d (List.mem_of_getElem? h)
 have e0 : s₁.heap = h0 := by rw [← hh, Bd.state]; rfl
 have N0 := Fr.nil n0
 obtain ⟨f0, hf0⟩ : ∃ f : JFrame, f = mkF m 0 (fA77 b) [] := ⟨_, rfl⟩
 have pre0 : ∀ t, own_S p e below s₁ f0 t → Steps p.tables e below (s₁.setTop (entryFrame m #[(.ref b), (.int 3), (.int 4)] 5)) t := fun t k => castTop ((ef_rmCrb43 m b (3 : Int32) (4 : Int32)).trans hf0.symm) k
 have R0 : own_R p e below s₁ (mkF m 0 (fA77 b) []) s₁ f0 := by rw [hf0]; exact fun t k => k
 have R1 : own_R p e below s₁ (mkF m 2 (fA77 b) [(.int 4), (.int 3)]) s₁ f0 := fun t k => R0 t (by
  refine XS.iloadN X0.here hx rfl (hb hby d29_0) rfl ?_
  refine XS.iloadN X0.here hx rfl (hb hby d29_1) rfl ?_
  exact k)
 obtain ⟨_, _, ⟨T2, L2, k2, n2⟩, -, X2, ⟨Lc2, hQ2, l2, y2, z2⟩, st2⟩ := Jvm.LawKit.callS X0 hx (y := yN14) hown (mvT hZ (hU 137 _ rfl)) (mvT hZ (hU 138 _ rfl)) (mvT hZ (hU 132 _ rfl)) (mvT hZ (hU 139 _ rfl)) (by decide) (backOf (W := 0) (rmCkl l Z a0 hw [] (3 : Int32) (4 : Int32) h0 n0 Z0 (by decide)) hZ (hU 139 _ rfl) (hU 132 _ rfl) (by decide) (by decide)) (g := (mkF m 2 (fA77 b) [(.int 4), (.int 3)])) rfl (by rw [hml]; rfl) (argsL := [(.int 3), (.int 4)]) (rest := []) (lenOf pd_6 rfl) rfl (Nat.le_of_eq rfl) (hb hby d29_2) (fun _ _ => ⟨rfl, e0, (by decide : 0 + 0 ≤ _), (by decide : 0 + 0 ≤ _)⟩)
 dsimp only [Pt.U, Pt.locs, Pt.cells, Pt.slots] at X2 l2 y2 z2 st2 hQ2
 subst l2 y2 z2
 obtain ⟨rfl, N2q, p2_0⟩ := hQ2
 have N2 := Fr.app N0 N2q
 have R3 := fun t k => R1 t (st2 t k)
 have R4 : own_R p e below T2 (mkF m 10 #[rv b, iv 3, iv 4, iv 1, .unset] [(.int 1)]) s₁ f0 := fun t k => R3 t (by
  refine XS.iloadN X2.here hx rfl (hb hby d29_5) rfl ?_
  refine XS.iloadN X2.here hx rfl (hb hby d29_6) rfl ?_
  refine XS.isub X2.here hx rfl (hb hby d29_7) rfl ?_
  refine XS.istoreN X2.here hx rfl (hb hby d29_8) rfl (l' := #[rv b, iv 3, iv 4, iv 1, .unset]) rfl ?_
  refine XS.iloadN X2.here hx rfl (hb hby d29_9) rfl ?_
  exact k)
 obtain ⟨T5, h5, k5, X5, e5, E5, A5, st5⟩ := newP X2 hx hZ (hU 22 _ rfl) p2_0 (g := (mkF m 10 #[rv b, iv 3, iv 4, iv 1, .unset] [(.int 1)])) rfl (hb hby d29_10) rfl (by decide) (cap := 1) (by decide) (by decide) (by decide) (by decide)
 obtain ⟨b5, g5⟩ : ∃ z, z = h0.size := ⟨_, rfl⟩
 rw [← g5] at A5 st5
 have g_b5 : n0 ≤ b5 := Nat.le_trans Z0 (Nat.le_of_eq g5.symm)
 have sz_b5 : h0.size ≤ b5 := Nat.le_trans (Keep.refl h0 []).1 (Nat.le_of_eq g5.symm)
 have ne_b_b5 : b ≠ b5 := Nat.ne_of_lt (Nat.lt_of_lt_of_le A_b.lt (Nat.le_of_eq g5.symm))
 have f5_A_b := A_b.ext E5
 have z5 : n0 ≤ h5.size := Nat.le_trans Z0 E5.1
 have K5 : Keep h0 h5 [] := (Keep.refl h0 []).ext E5
 have v5 : Arv Z h5 b5 k5 .byte (1 : Int32) [(.int 0)] (.int 0) := (Arv.new A5 (by decide)).pad (pad_rep [] (.int 0) 1)
 have R6 := fun t k => R4 t (st5 t k)
 have R7 : own_R p e below T5 (mkF m 20 #[rv b, iv 3, iv 4, iv 1, rv b5] [(.ref b), (.int 0), (.ref b5), (.int 3), (.ref b)]) s₁ f0 := fun t k => R6 t (by
  refine XS.astore X5.here hx rfl (hb hby d29_12) rfl rfl (l' := #[rv b, iv 3, iv 4, iv 1, rv b5]) rfl ?_
  refine XS.aloadN X5.here hx rfl (hb hby d29_14) rfl rfl ?_
  refine XS.iloadN X5.here hx rfl (hb hby d29_15) rfl ?_
  refine XS.aload X5.here hx rfl (hb hby d29_16) rfl rfl ?_
  refine XS.iconst X5.here hx rfl (hb hby d29_18) ?_
  refine XS.aloadN X5.here hx rfl (hb hby d29_19) rfl rfl ?_
  exact k)
 obtain ⟨cl8, Ar8, -, S8, N8_, -, -⟩ := id f5_A_b
 have R9 : own_R p e below T5 (mkF m 21 #[rv b, iv 3, iv 4, iv 1, rv b5] [(.int 4), (.int 0), (.ref b5), (.int 3), (.ref b)]) s₁ f0 := fun t k => R7 t (X5.arraylength hx (by rw [e5]; exact Ar8.1) (State.isArrayOf_alike hZ.alike Ar8.2.1) (g := (mkF m 20 #[rv b, iv 3, iv 4, iv 1, rv b5] [(.ref b), (.int 0), (.ref b5), (.int 3), (.ref b)])) rfl rfl (hb hby d29_20) _ (by rw [len_of S8 N8_]; exact k))
 have R10 : own_R p e below T5 (mkF m 24 #[rv b, iv 3, iv 4, iv 1, rv b5] [(.int 1), (.int 1), (.int 0), (.ref b5), (.int 3), (.ref b)]) s₁ f0 := fun t k => R9 t (by
  refine XS.iloadN X5.here hx rfl (hb hby d29_21) rfl ?_
  refine XS.isub X5.here hx rfl (hb hby d29_22) rfl ?_
  refine XS.iloadN X5.here hx rfl (hb hby d29_23) rfl ?_
  exact k)
 obtain ⟨_, _, ⟨T11, L11, k11, n11⟩, -, X11, ⟨Lc11, hQ11, l11, y11, z11⟩, st11⟩ := Jvm.LawKit.callS X5 hx (y := yN8) hown (mvT hZ (hU 140 _ rfl)) (mvT hZ (hU 79 _ rfl)) (mvT hZ (hU 80 _ rfl)) (mvT hZ (hU 81 _ rfl)) (by decide) (backOf (W := 4) (rmMin l Z a0 hw [] (1 : Int32) h5 n0 z5 (by decide)) hZ (hU 81 _ rfl) (hU 80 _ rfl) (by decide) (by decide)) (g := (mkF m 24 #[rv b, iv 3, iv 4, iv 1, rv b5] [(.int 1), (.int 1), (.int 0), (.ref b5), (.int 3), (.ref b)])) rfl (by rw [hml]; rfl) (argsL := [(.int 1), (.int 1)]) (rest := [(.int 0), (.ref b5), (.int 3), (.ref b)]) (lenOf pd_17 rfl) rfl (Nat.le_of_eq rfl) (hb hby d29_24) (fun _ _ => ⟨rfl, e5, (by decide : 1 + 0 ≤ _), (by decide : 1 + 0 ≤ _)⟩)
 dsimp only [Pt.U, Pt.locs, Pt.cells, Pt.slots] at X11 l11 y11 z11 st11 hQ11
 subst l11 y11 z11
 obtain ⟨rfl, N11q, p11_0⟩ := hQ11
 have N11 := Fr.app N2 N11q
 have R12 := fun t k => R10 t (st11 t k)
 obtain ⟨T13, h13, L13, X13, e13, N13, Kc13, v13_, st13⟩ := cpA X11 hx hZ hown (hU 141 _ rfl) (hU 144 _ rfl) (hU 142 _ rfl) (hU 143 _ rfl) p11_0 f5_A_b v5 (us := [(.int x3)]) (Or.inl ⟨rfl, rfl⟩) (by decide) (by decide) (by decide) (by decide) (by decide) rfl (Nat.le_of_ble_eq_true rfl) N11 g_b5 (g := (mkF m 27 #[rv b, iv 3, iv 4, iv 1, rv b5] [(.int 1), (.int 0), (.ref b5), (.int 3), (.ref b)])) rfl (by rw [hml]; rfl) rfl (hb hby d29_27) (by decide) (W := 0) (Nat.le_of_eq rfl) (by decide)
 have f13_A_b := f5_A_b.keep Kc13 (ninS ne_b_b5 nin0)
 have z13 : n0 ≤ h13.size := Nat.le_trans z5 Kc13.1
 have K13 : Keep h0 h13 [] := K5.trans Kc13 (allS (Or.inr sz_b5) all0)
 have v13 : Arv Z h13 b5 k5 .byte (1 : Int32) [(.int x3)] (.int 0) := v13_
 have R14 := fun t k => R12 t (st13 t k)
 have R15 : own_R p e below T13 (mkF m 32 #[rv b, iv 3, iv 4, iv 1, rv b5] [(.ref b5)]) s₁ f0 := fun t k => R14 t (by
  refine XS.aload X13.here hx rfl (hb hby d29_30) rfl rfl ?_
  exact k)
 obtain ⟨fs, hr, hrun, hended, hW, hsame⟩ := X13.leave (v := some (.ref b5)) (fun h => by rw [Bd.returns] at h; cases h)
 refine ⟨_, _, pre0 _ (R15 _ ?_), hrun, hended, _, _, rfl, ?_, ⟨_, rfl⟩, hW, hsame.mono (by decide) (by decide)⟩
 ·
  show own_S p e below T13 (mkF m 32 #[rv b, iv 3, iv 4, iv 1, rv b5] [(.ref b5)]) _
  exact retOut X13 hx (t := (.array .byte)) Bd.returns rfl (Or.inr (Or.inr (Or.inr (Or.inr ⟨rfl, rfl, rfl⟩)))) (hb hby d29_32) hr
 ·
  show (Q_rmCp Z (1 : Int32) [(.int x3)] h0 n0) _ T13.heap _
  rw [e13]
  exact ⟨b5, k5, rfl, N13, K13, v13, sz_b5⟩
theorem ef_rmCrb31 (m : MethodId) (x0 : Addr) (x1 : Int32) (x2 : Int32) : entryFrame m #[(.ref x0), (.int x1), (.int x2)] 5 = mkF m 0 (fA46 x0 x1 x2) [] := by first | (simp [entryFrame, mkF, argsToLocals, Value.category]; done) | rfl
set_option maxRecDepth 65536 in
set_option maxHeartbeats 40000000 in
theorem rmCrb31 (l : Launch) (Z : State) (a0 : Array Value) (hw : ∀ d ∈ tables_1, d.before a0 Z = true) (ws : List Jvm.Cond) (b : Addr) (kb : ClassId) (x0 : Int32) (x1 : Int32) (x2 : Int32) (h0 : Heap) (n0 : Nat) (Z0 : n0 ≤ h0.size) (A_b : Arv Z h0 b kb .byte (3 : Int32) [(.int x0), (.int x1), (.int x2)] (.int 0)) :
  own_M l yN3 (Jvm.Cond.code yN3 jdk_65_method_133_code 5 (some (.array .byte)) :: ws) ({ frames := 1, cells := 1, slots := 3, locals := 18 } : Room) #[(.ref b), (.int 1), (.int 3)] Z h0 (Q_rmCp Z (2 : Int32) [(.int x1), (.int x2)] h0 n0) := by
 refine MetFree.of_bodySF (plainFor_of_name pn_15) hisR ?_
 intro p e s m args below meth c s₁ Bd hml0 hP hK
 obtain ⟨rfl, hZ, hh⟩ := hP
 have hx := Bd.exec
 have hby := Bd.bytes
 have hml : c.maxLocals = 5 := hml0
 have hown : s.vm.findClass "java/util/Arrays" = some m.cls := findClass_of_methodNamed Bd.named
 have hnm := (name_of_methodNamed Bd.named Bd.method).1
 have X0 : Stand p l e ({ frames := 1, cells := 1, slots := 3, locals := 18 } : Room) s m #[(.ref b), (.int 1), (.int 3)] below meth c s₁ [] 0 0 := Stand.of_body Bd
 have hU : ∀ (i : Nat) (d : Jvm.Cond), tables_1[i]? = some d → d.before a0 Z = true := fun i d h => hw d (List.mem_of_getElem? h)
 have e0 : s₁.heap = h0 := by rw [← hh, Bd.state]; rfl
 have N0 := Fr.nil n0
 obtain ⟨f0, hf0⟩ : ∃ f : JFrame, f = mkF m 0 (fA78 b) [] := ⟨_, rfl⟩
 have pre0 : ∀ t, own_S p e below s₁ f0 t → Steps p.tables e below (s₁.setTop (entryFrame m #[(.ref b), (.int 1), (.int 3)] 5)) t := fun t k => castTop ((ef_rmCrb31 m b (1 : Int32) (3 : Int32)).trans hf0.symm) k
 have R0 : own_R p e below s₁ (mkF m 0 (fA78 b) []) s₁ f0 := by rw [hf0]; exact fun t k => k
 have R1 : own_R p e below s₁ (mkF m 2 (fA78 b) [(.int 3), (.int 1)]) s₁ f0 := fun t k => R0 t (by
  refine XS.iloadN X0.here hx rfl (hb hby d29_0) rfl ?_
  refine XS.iloadN X0.here hx rfl (hb hby d29_1) rfl ?_
  exact k)
 obtain ⟨_, _, ⟨T2, L2, k2, n2⟩, -, X2, ⟨Lc2, hQ2, l2, y2, z2⟩, st2⟩ := Jvm.LawKit.callS X0 hx (y := yN14) hown (mvT hZ (hU 137 _ rfl)) (mvT hZ (hU 138 _ rfl)) (mvT hZ (hU 132 _ rfl)) (mvT hZ (hU 139 _ rfl)) (by decide) (backOf (W := 0) (rmCkl l Z a0 hw [] (1 : Int32) (3 : Int32) h0 n0 Z0 (by decide)) hZ (hU 139 _ rfl) (hU 132 _ rfl) (by decide) (by decide)) (g := (mkF m 2 (fA78 b) [(.int 3), (.int 1)])) rfl (by rw [hml]; rfl) (argsL := [(.int 1), (.int 3)]) (rest := []) (lenOf pd_6 rfl) rfl (Nat.le_of_eq rfl) (hb hby d29_2) (fun _ _ => ⟨rfl, e0, (by decide : 0 + 0 ≤ _), (by decide : 0 + 0 ≤ _)⟩)
 dsimp only [Pt.U, Pt.locs, Pt.cells, Pt.slots] at X2 l2 y2 z2 st2 hQ2
 subst l2 y2 z2
 obtain ⟨rfl, N2q, p2_0⟩ := hQ2
 have N2 := Fr.app N0 N2q
 have R3 := fun t k => R1 t (st2 t k)
 have R4 : own_R p e below T2 (mkF m 10 #[rv b, iv 1, iv 3, iv 2, .unset] [(.int 2)]) s₁ f0 := fun t k => R3 t (by
  refine XS.iloadN X2.here hx rfl (hb hby d29_5) rfl ?_
  refine XS.iloadN X2.here hx rfl (hb hby d29_6) rfl ?_
  refine XS.isub X2.here hx rfl (hb hby d29_7) rfl ?_
  refine XS.istoreN X2.here hx rfl (hb hby d29_8) rfl (l' := #[rv b, iv 1, iv 3, iv 2, .unset]) rfl ?_
  refine XS.iloadN X2.here hx rfl (hb hby d29_9) rfl ?_
  exact k)
 obtain ⟨T5, h5, k5, X5, e5, E5, A5, st5⟩ := newP X2 hx hZ (hU 22 _ rfl) p2_0 (g := (mkF m 10 #[rv b, iv 1, iv 3, iv 2, .unset] [(.int 2)])) rfl (hb hby d29_10) rfl (by decide) (cap := 2) (by decide) (by decide) (by decide) (by decide)
 obtain ⟨b5, g5⟩ : ∃ z, z = h0.size := ⟨_, rfl⟩
 rw [← g5] at A5 st5
 have g_b5 : n0 ≤ b5 := Nat.le_trans Z0 (Nat.le_of_eq g5.symm)
 have sz_b5 : h0.size ≤ b5 := Nat.le_trans (Keep.refl h0 []).1 (Nat.le_of_eq g5.symm)
 have ne_b_b5 : b ≠ b5 := Nat.ne_of_lt (Nat.lt_of_lt_of_le A_b.lt (Nat.le_of_eq g5.symm))
 have f5_A_b := A_b.ext E5
 have z5 : n0 ≤ h5.size := Nat.le_trans Z0 E5.1
 have K5 : Keep h0 h5 [] := (Keep.refl h0 []).ext E5
 have v5 : Arv Z h5 b5 k5 .byte (2 : Int32) [(.int 0), (.int 0)] (.int 0) := (Arv.new A5 (by decide)).pad (pad_rep [] (.int 0) 2)
 have R6 := fun t k => R4 t (st5 t k)
 have R7 : own_R p e below T5 (mkF m 20 #[rv b, iv 1, iv 3, iv 2, rv b5] [(.ref b), (.int 0), (.ref b5), (.int 1), (.ref b)]) s₁ f0 := fun t k => R6 t (by
  refine XS.astore X5.here hx rfl (hb hby d29_12) rfl rfl (l' := #[rv b, iv 1, iv 3, iv 2, rv b5]) rfl ?_
  refine XS.aloadN X5.here hx rfl (hb hby d29_14) rfl rfl ?_
  refine XS.iloadN X5.here hx rfl (hb hby d29_15) rfl ?_
  refine XS.aload X5.here hx rfl (hb hby d29_16) rfl rfl ?_
  refine XS.iconst X5.here hx rfl (hb hby d29_18) ?_
  refine XS.aloadN X5.here hx rfl (hb hby d29_19) rfl rfl ?_
  exact k)
 obtain ⟨cl8, Ar8, -, S8, N8_, -, -⟩ := id f5_A_b
 have R9 : own_R p e below T5 (mkF m 21 #[rv b, iv 1, iv 3, iv 2, rv b5] [(.int 3), (.int 0), (.ref b5), (.int 1), (.ref b)]) s₁ f0 := fun t k => R7 t (X5.arraylength hx (by rw [e5]; exact Ar8.1) (State.isArrayOf_alike hZ.alike Ar8.2.1) (g := (mkF m 20 #[rv b, iv 1, iv 3, iv 2, rv b5] [(.ref b), (.int 0), (.ref b5), (.int 1), (.ref b)])) rfl rfl (hb hby d29_20) _ (by rw [len_of S8 N8_]; exact k))
 have R10 : own_R p e below T5 (mkF m 24 #[rv b, iv 1, iv 3, iv 2, rv b5] [(.int 2), (.int 2), (.int 0), (.ref b5), (.int 1), (.ref b)]) s₁ f0 := fun t k => R9 t (by
  refine XS.iloadN X5.here hx rfl (hb hby d29_21) rfl ?_
  refine XS.isub X5.here hx rfl (hb hby d29_22) rfl ?_
  refine XS.iloadN X5.here hx rfl (hb hby d29_23) rfl ?_
  exact k)
 obtain ⟨_, _, ⟨T11, L11, k11, n11⟩, -, X11, ⟨Lc11, hQ11, l11, y11, z11⟩, st11⟩ := Jvm.LawKit.callS X5 hx (y := yN8) hown (mvT hZ (hU 140 _ rfl)) (mvT hZ (hU 79 _ rfl)) (mvT hZ (hU 80 _ rfl)) (mvT hZ (hU 81 _ rfl)) (by decide) (backOf (W := 4) (rmMin l Z a0 hw [] (2 : Int32) h5 n0 z5 (by decide)) hZ (hU 81 _ rfl) (hU 80 _ rfl) (by decide) (by decide)) (g := (mkF m 24 #[rv b, iv 1, iv 3, iv 2, rv b5] [(.int 2), (.int 2), (.int 0), (.ref b5), (.int 1), (.ref b)])) rfl (by rw [hml]; rfl) (argsL := [(.int 2), (.int 2)]) (rest := [(.int 0), (.ref b5), (.int 1), (.ref b)]) (lenOf pd_17 rfl) rfl (Nat.le_of_eq rfl) (hb hby d29_24) (fun _ _ => ⟨rfl, e5, (by decide : 1 + 0 ≤ _), (by decide : 2 + 0 ≤ _)⟩)
 dsimp only [Pt.U, Pt.locs, Pt.cells, Pt.slots] at X11 l11 y11 z11 st11 hQ11
 subst l11 y11 z11
 obtain ⟨rfl, N11q, p11_0⟩ := hQ11
 have N11 := Fr.app N2 N11q
 have R12 := fun t k => R10 t (st11 t k)
 obtain ⟨T13, h13, L13, X13, e13, N13, Kc13, v13_, st13⟩ := cpA X11 hx hZ hown (hU 141 _ rfl) (hU 144 _ rfl) (hU 142 _ rfl) (hU 143 _ rfl) p11_0 f5_A_b v5 (us := [(.int x1), (.int x2)]) (Or.inl ⟨rfl, rfl⟩) (by decide) (by decide) (by decide) (by decide) (by decide) rfl (Nat.le_of_ble_eq_true rfl) N11 g_b5 (g := (mkF m 27 #[rv b, iv 1, iv 3, iv 2, rv b5] [(.int 2), (.int 0), (.ref b5), (.int 1), (.ref b)])) rfl (by rw [hml]; rfl) rfl (hb hby d29_27) (by decide) (W := 0) (Nat.le_of_eq rfl) (by decide)
 have f13_A_b := f5_A_b.keep Kc13 (ninS ne_b_b5 nin0)
 have z13 : n0 ≤ h13.size := Nat.le_trans z5 Kc13.1
 have K13 : Keep h0 h13 [] := K5.trans Kc13 (allS (Or.inr sz_b5) all0)
 have v13 : Arv Z h13 b5 k5 .byte (2 : Int32) [(.int x1), (.int x2)] (.int 0) := v13_
 have R14 := fun t k => R12 t (st13 t k)
 have R15 : own_R p e below T13 (mkF m 32 #[rv b, iv 1, iv 3, iv 2, rv b5] [(.ref b5)]) s₁ f0 := fun t k => R14 t (by
  refine XS.aload X13.here hx rfl (hb hby d29_30) rfl rfl ?_
  exact k)
 obtain ⟨fs, hr, hrun, hended, hW, hsame⟩ := X13.leave (v := some (.ref b5)) (fun h => by rw [Bd.returns] at h; cases h)
 refine ⟨_, _, pre0 _ (R15 _ ?_), hrun, hended, _, _, rfl, ?_, ⟨_, rfl⟩, hW, hsame.mono (by decide) (by decide)⟩
 ·
  show own_S p e below T13 (mkF m 32 #[rv b, iv 1, iv 3, iv 2, rv b5] [(.ref b5)]) _
  exact retOut X13 hx (t := (.array .byte)) Bd.returns rfl (Or.inr (Or.inr (Or.inr (Or.inr ⟨rfl, rfl, rfl⟩)))) (hb hby d29_32) hr
 ·
  show (Q_rmCp Z (2 : Int32) [(.int x1), (.int x2)] h0 n0) _ T13.heap _
  rw [e13]
  exact ⟨b5, k5, rfl, N13, K13, v13, sz_b5⟩
theorem ef_rmCrb32 (m : MethodId) (x0 : Addr) (x1 : Int32) (x2 : Int32) : entryFrame m #[(.ref x0), (.int x1), (.int x2)] 5 = mkF m 0 (fA46 x0 x1 x2) [] := by first | (simp [entryFrame, mkF, argsToLocals, Value.category]; done) | rfl
set_option maxRecDepth 65536 in
set_option maxHeartbeats 40000000 in
theorem rmCrb32 (l : Launch) (Z : State) (a0 : Array Value) (hw : ∀ d ∈ tables_1, d.before a0 Z = true) (ws : List Jvm.Cond) (b : Addr) (kb : ClassId) (x0 : Int32) (x1 : Int32) (x2 : Int32) (h0 : Heap) (n0 : Nat) (Z0 : n0 ≤ h0.size) (A_b : Arv Z h0 b kb .byte (3 : Int32) [(.int x0), (.int x1), (.int x2)] (.int 0)) :
  own_M l yN3 (Jvm.Cond.code yN3 jdk_65_method_133_code 5 (some (.array .byte)) :: ws) ({ frames := 1, cells := 1, slots := 3, locals := 18 } : Room) #[(.ref b), (.int 2), (.int 3)] Z h0 (Q_rmCp Z (1 : Int32) [(.int x2)] h0 n0) := by
 refine MetFree.of_bodySF (plainFor_of_name pn_15) hisR ?_
 intro p e s m args below meth c s₁ Bd hml0 hP hK
 obtain ⟨rfl, hZ, hh⟩ := hP
 have hx := Bd.exec
 have hby := Bd.bytes
 have hml : c.maxLocals = 5 := hml0
 have hown : s.vm.findClass "java/util/Arrays" = some m.cls := findClass_of_methodNamed Bd.named
 have hnm := (name_of_methodNamed Bd.named Bd.method).1
 have X0 : Stand p l e ({ frames := 1, cells := 1, slots := 3, locals := 18 } : Room) s m #[(.ref b), (.int 2), (.int 3)] below meth c s₁ [] 0 0 := Stand.of_body Bd
 have hU : ∀ (i : Nat) (d : Jvm.Cond), tables_1[i]? = some d → d.before a0 Z = true := fun i d h => hw d (List.mem_of_getElem? h)
 have e0 : s₁.heap = h0 := by rw [← hh, Bd.state]; rfl
 have N0 := Fr.nil n0
 obtain ⟨f0, hf0⟩ : ∃ f : JFrame, f = mkF m 0 (fA79 b) [] := ⟨_, rfl⟩
 have pre0 : ∀ t, own_S p e below s₁ f0 t → Steps p.tables e below (s₁.setTop (entryFrame m #[(.ref b), (.int 2), (.int 3)] 5)) t := fun t k => castTop ((ef_rmCrb32 m b (2 : Int32) (3 : Int32)).trans hf0.symm) k
 have R0 : own_R p e below s₁ (mkF m 0 (fA79 b) []) s₁ f0 := by rw [hf0]; exact fun t k => k
 have R1 : own_R p e below s₁ (mkF m 2 (fA79 b) [(.int 3), (.int 2)]) s₁ f0 := fun t k => R0 t (by
  refine XS.iloadN X0.here hx rfl (hb hby d29_0) rfl ?_
  refine XS.iloadN X0.here hx rfl (hb hby d29_1) rfl ?_
  exact k)
 obtain ⟨_, _, ⟨T2, L2, k2, n2⟩, -, X2, ⟨Lc2, hQ2, l2, y2, z2⟩, st2⟩ := Jvm.LawKit.callS X0 hx (y := yN14) hown (mvT hZ (hU 137 _ rfl)) (mvT hZ (hU 138 _ rfl)) (mvT hZ (hU 132 _ rfl)) (mvT hZ (hU 139 _ rfl)) (by decide) (backOf (W := 0) (rmCkl l Z a0 hw [] (2 : Int32) (3 : Int32) h0 n0 Z0 (by decide)) hZ (hU 139 _ rfl) (hU 132 _ rfl) (by decide) (by decide)) (g := (mkF m 2 (fA79 b) [(.int 3), (.int 2)])) rfl (by rw [hml]; rfl) (argsL := [(.int 2), (.int 3)]) (rest := []) (lenOf pd_6 rfl) rfl (Nat.le_of_eq rfl) (hb hby d29_2) (fun _ _ => ⟨rfl, e0, (by decide : 0 + 0 ≤ _), (by decide : 0 + 0 ≤ _)⟩)
 dsimp only [Pt.U, Pt.locs, Pt.cells, Pt.slots] at X2 l2 y2 z2 st2 hQ2
 subst l2 y2 z2
 obtain ⟨rfl, N2q, p2_0⟩ := hQ2
 have N2 := Fr.app N0 N2q
 have R3 := fun t k => R1 t (st2 t k)
 have R4 : own_R p e below T2 (mkF m 10 #[rv b, iv 2, iv 3, iv 1, .unset] [(.int 1)]) s₁ f0 := fun t k => R3 t (by
  refine XS.iloadN X2.here hx rfl (hb hby d29_5) rfl ?_
  refine XS.iloadN X2.here hx rfl (hb hby d29_6) rfl ?_
  refine XS.isub X2.here hx rfl (hb hby d29_7) rfl ?_
  refine XS.istoreN X2.here hx rfl (hb hby d29_8) rfl (l' := #[rv b, iv 2, iv 3, iv 1, .unset]) rfl ?_
  refine XS.iloadN X2.here hx rfl (hb hby d29_9) rfl ?_
  exact k)
 obtain ⟨T5, h5, k5, X5, e5, E5, A5, st5⟩ := newP X2 hx hZ (hU 22 _ rfl) p2_0 (g := (mkF m 10 #[rv b, iv 2, iv 3, iv 1, .unset] [(.int 1)])) rfl (hb hby d29_10) rfl (by decide) (cap := 1) (by decide) (by decide) (by decide) (by decide)
 obtain ⟨b5, g5⟩ : ∃ z, z = h0.size := ⟨_, rfl⟩
 rw [← g5] at A5 st5
 have g_b5 : n0 ≤ b5 := Nat.le_trans Z0 (Nat.le_of_eq g5.symm)
 have sz_b5 : h0.size ≤ b5 := Nat.le_trans (Keep.refl h0 []).1 (Nat.le_of_eq g5.symm)
 have ne_b_b5 : b ≠ b5 := Nat.ne_of_lt (Nat.lt_of_lt_of_le A_b.lt (Nat.le_of_eq g5.symm))
 have f5_A_b := A_b.ext E5
 have z5 : n0 ≤ h5.size := Nat.le_trans Z0 E5.1
 have K5 : Keep h0 h5 [] := (Keep.refl h0 []).ext E5
 have v5 : Arv Z h5 b5 k5 .byte (1 : Int32) [(.int 0)] (.int 0) := (Arv.new A5 (by decide)).pad (pad_rep [] (.int 0) 1)
 have R6 := fun t k => R4 t (st5 t k)
 have R7 : own_R p e below T5 (mkF m 20 #[rv b, iv 2, iv 3, iv 1, rv b5] [(.ref b), (.int 0), (.ref b5), (.int 2), (.ref b)]) s₁ f0 := fun t k => R6 t (by
  refine XS.astore X5.here hx rfl (hb hby d29_12) rfl rfl (l' := #[rv b, iv 2, iv 3, iv 1, rv b5]) rfl ?_
  refine XS.aloadN X5.here hx rfl (hb hby d29_14) rfl rfl ?_
  refine XS.iloadN X5.here hx rfl (hb hby d29_15) rfl ?_
  refine XS.aload X5.here hx rfl (hb hby d29_16) rfl rfl ?_
  refine XS.iconst X5.here hx rfl (hb hby d29_18) ?_
  refine XS.aloadN X5.here hx rfl (hb hby d29_19) rfl rfl ?_
  exact k)
 obtain ⟨cl8, Ar8, -, S8, N8_, -, -⟩ := id f5_A_b
 have R9 : own_R p e below T5 (mkF m 21 #[rv b, iv 2, iv 3, iv 1, rv b5] [(.int 3), (.int 0), (.ref b5), (.int 2), (.ref b)]) s₁ f0 := fun t k => R7 t (X5.arraylength hx (by rw [e5]; exact Ar8.1) (State.isArrayOf_alike hZ.alike Ar8.2.1) (g := (mkF m 20 #[rv b, iv 2, iv 3, iv 1, rv b5] [(.ref b), (.int 0), (.ref b5), (.int 2), (.ref b)])) rfl rfl (hb hby d29_20) _ (by rw [len_of S8 N8_]; exact k))
 have R10 : own_R p e below T5 (mkF m 24 #[rv b, iv 2, iv 3, iv 1, rv b5] [(.int 1), (.int 1), (.int 0), (.ref b5), (.int 2), (.ref b)]) s₁ f0 := fun t k => R9 t (by
  refine XS.iloadN X5.here hx rfl (hb hby d29_21) rfl ?_
  refine XS.isub X5.here hx rfl (hb hby d29_22) rfl ?_
  refine XS.iloadN X5.here hx rfl (hb hby d29_23) rfl ?_
  exact k)
 obtain ⟨_, _, ⟨T11, L11, k11, n11⟩, -, X11, ⟨Lc11, hQ11, l11, y11, z11⟩, st11⟩ := Jvm.LawKit.callS X5 hx (y := yN8) hown (mvT hZ (hU 140 _ rfl)) (mvT hZ (hU 79 _ rfl)) (mvT hZ (hU 80 _ rfl)) (mvT hZ (hU 81 _ rfl)) (by decide) (backOf (W := 4) (rmMin l Z a0 hw [] (1 : Int32) h5 n0 z5 (by decide)) hZ (hU 81 _ rfl) (hU 80 _ rfl) (by decide) (by decide)) (g := (mkF m 24 #[rv b, iv 2, iv 3, iv 1, rv b5] [(.int 1), (.int 1), (.int 0), (.ref b5), (.int 2), (.ref b)])) rfl (by rw [hml]; rfl) (argsL := [(.int 1), (.int 1)]) (rest := [(.int 0), (.ref b5), (.int 2), (.ref b)]) (lenOf pd_17 rfl) rfl (Nat.le_of_eq rfl) (hb hby d29_24) (fun _ _ => ⟨rfl, e5, (by decide : 1 + 0 ≤ _), (by decide : 1 + 0 ≤ _)⟩)
 dsimp only [Pt.U, Pt.locs, Pt.cells, Pt.slots] at X11 l11 y11 z11 st11 hQ11
 subst l11 y11 z11
 obtain ⟨rfl, N11q, p11_0⟩ := hQ11
 have N11 := Fr.app N2 N11q
 have R12 := fun t k => R10 t (st11 t k)
 obtain ⟨T13, h13, L13, X13, e13, N13, Kc13, v13_, st13⟩ := cpA X11 hx hZ hown (hU 141 _ rfl) (hU 144 _ rfl) (hU 142 _ rfl) (hU 143 _ rfl) p11_0 f5_A_b v5 (us := [(.int x2)]) (Or.inl ⟨rfl, rfl⟩) (by decide) (by decide) (by decide) (by decide) (by decide) rfl (Nat.le_of_ble_eq_true rfl) N11 g_b5 (g := (mkF m 27 #[rv b, iv 2, iv 3, iv 1, rv b5] [(.int 1), (.int 0), (.ref b5), (.int 2), (.ref b)])) rfl (by rw [hml]; rfl) rfl (hb hby d29_27) (by decide) (W := 0) (Nat.le_of_eq rfl) (by decide)
 have f13_A_b := f5_A_b.keep Kc13 (ninS ne_b_b5 nin0)
 have z13 : n0 ≤ h13.size := Nat.le_trans z5 Kc13.1
 have K13 : Keep h0 h13 [] := K5.trans Kc13 (allS (Or.inr sz_b5) all0)
 have v13 : Arv Z h13 b5 k5 .byte (1 : Int32) [(.int x2)] (.int 0) := v13_
 have R14 := fun t k => R12 t (st13 t k)
 have R15 : own_R p e below T13 (mkF m 32 #[rv b, iv 2, iv 3, iv 1, rv b5] [(.ref b5)]) s₁ f0 := fun t k => R14 t (by
  refine XS.aload X13.here hx rfl (hb hby d29_30) rfl rfl ?_
  exact k)
 obtain ⟨fs, hr, hrun, hended, hW, hsame⟩ := X13.leave (v := some (.ref b5)) (fun h => by rw [Bd.returns] at h; cases h)
 refine ⟨_, _, pre0 _ (R15 _ ?_), hrun, hended, _, _, rfl, ?_, ⟨_, rfl⟩, hW, hsame.mono (by decide) (by decide)⟩
 ·
  show own_S p e below T13 (mkF m 32 #[rv b, iv 2, iv 3, iv 1, rv b5] [(.ref b5)]) _
  exact retOut X13 hx (t := (.array .byte)) Bd.returns rfl (Or.inr (Or.inr (Or.inr (Or.inr ⟨rfl, rfl, rfl⟩)))) (hb hby d29_32) hr
 ·
  show (Q_rmCp Z (1 : Int32) [(.int x2)] h0 n0) _ T13.heap _
  rw [e13]
  exact ⟨b5, k5, rfl, N13, K13, v13, sz_b5⟩
theorem ef_rmCrb21 (m : MethodId) (x0 : Addr) (x1 : Int32) (x2 : Int32) : entryFrame m #[(.ref x0), (.int x1), (.int x2)] 5 = mkF m 0 (fA46 x0 x1 x2) [] := by first | (simp [entryFrame, mkF, argsToLocals, Value.category]; done) | rfl
set_option maxRecDepth 65536 in
set_option maxHeartbeats 40000000 in
theorem rmCrb21 (l : Launch) (Z : State) (a0 : Array Value) (hw : ∀ d ∈ tables_1, d.before a0 Z = true) (ws : List Jvm.Cond) (b : Addr) (kb : ClassId) (x0 : Int32) (x1 : Int32) (h0 : Heap) (n0 : Nat) (Z0 : n0 ≤ h0.size) (A_b : Arv Z h0 b kb .byte (2 : Int32) [(.int x0), (.int x1)] (.int 0)) :
  own_M l yN3 (Jvm.Cond.code yN3 jdk_65_method_133_code 5 (some (.array .byte)) :: ws) ({ frames := 1, cells := 1, slots := 3, locals := 18 } : Room) #[(.ref b), (.int 1), (.int 2)] Z h0 (Q_rmCp Z (1 : Int32) [(.int x1)] h0 n0) := by
 refine MetFree.of_bodySF (plainFor_of_name pn_15) hisR ?_
 intro p e s m args below meth c s₁ Bd hml0 hP hK
 obtain ⟨rfl, hZ, hh⟩ := hP
 have hx := Bd.exec
 have hby := Bd.bytes
 have hml : c.maxLocals = 5 := hml0
 have hown : s.vm.findClass "java/util/Arrays" = some m.cls := findClass_of_methodNamed Bd.named
 have hnm := (name_of_methodNamed Bd.named Bd.method).1
 have X0 : Stand p l e ({ frames := 1, cells := 1, slots := 3, locals := 18 } : Room) s m #[(.ref b), (.int 1), (.int 2)] below meth c s₁ [] 0 0 := Stand.of_body Bd
 have hU : ∀ (i : Nat) (d : Jvm.Cond), tables_1[i]? = some d → d.before a0 Z = true := fun i d h => hw d (List.mem_of_getElem? h)
 have e0 : s₁.heap = h0 := by rw [← hh, Bd.state]; rfl
 have N0 := Fr.nil n0
 obtain ⟨f0, hf0⟩ : ∃ f : JFrame, f = mkF m 0 (fA80 b) [] := ⟨_, rfl⟩
 have pre0 : ∀ t, own_S p e below s₁ f0 t → Steps p.tables e below (s₁.setTop (entryFrame m #[(.ref b), (.int 1), (.int 2)] 5)) t := fun t k => castTop ((ef_rmCrb21 m b (1 : Int32) (2 : Int32)).trans hf0.symm) k
 have R0 : own_R p e below s₁ (mkF m 0 (fA80 b) []) s₁ f0 := by rw [hf0]; exact fun t k => k
 have R1 : own_R p e below s₁ (mkF m 2 (fA80 b) [(.int 2), (.int 1)]) s₁ f0 := fun t k => R0 t (by
  refine XS.iloadN X0.here hx rfl (hb hby d29_0) rfl ?_
  refine XS.iloadN X0.here hx rfl (hb hby d29_1) rfl ?_
  exact k)
 obtain ⟨_, _, ⟨T2, L2, k2, n2⟩, -, X2, ⟨Lc2, hQ2, l2, y2, z2⟩, st2⟩ := Jvm.LawKit.callS X0 hx (y := yN14) hown (mvT hZ (hU 137 _ rfl)) (mvT hZ (hU 138 _ rfl)) (mvT hZ (hU 132 _ rfl)) (mvT hZ (hU 139 _ rfl)) (by decide) (backOf (W := 0) (rmCkl l Z a0 hw [] (1 : Int32) (2 : Int32) h0 n0 Z0 (by decide)) hZ (hU 139 _ rfl) (hU 132 _ rfl) (by decide) (by decide)) (g := (mkF m 2 (fA80 b) [(.int 2), (.int 1)])) rfl (by rw [hml]; rfl) (argsL := [(.int 1), (.int 2)]) (rest := []) (lenOf pd_6 rfl) rfl (Nat.le_of_eq rfl) (hb hby d29_2) (fun _ _ => ⟨rfl, e0, (by decide : 0 + 0 ≤ _), (by decide : 0 + 0 ≤ _)⟩)
 dsimp only [Pt.U, Pt.locs, Pt.cells, Pt.slots] at X2 l2 y2 z2 st2 hQ2
 subst l2 y2 z2
 obtain ⟨rfl, N2q, p2_0⟩ := hQ2
 have N2 := Fr.app N0 N2q
 have R3 := fun t k => R1 t (st2 t k)
 have R4 : own_R p e below T2 (mkF m 10 #[rv b, iv 1, iv 2, iv 1, .unset] [(.int 1)]) s₁ f0 := fun t k => R3 t (by
  refine XS.iloadN X2.here hx rfl (hb hby d29_5) rfl ?_
  refine XS.iloadN X2.here hx rfl (hb hby d29_6) rfl ?_
  refine XS.isub X2.here hx rfl (hb hby d29_7) rfl ?_
  refine XS.istoreN X2.here hx rfl (hb hby d29_8) rfl (l' := #[rv b, iv 1, iv 2, iv 1, .unset]) rfl ?_
  refine XS.iloadN X2.here hx rfl (hb hby d29_9) rfl ?_
  exact k)
 obtain ⟨T5, h5, k5, X5, e5, E5, A5, st5⟩ := newP X2 hx hZ (hU 22 _ rfl) p2_0 (g := (mkF m 10 #[rv b, iv 1, iv 2, iv 1, .unset] [(.int 1)])) rfl (hb hby d29_10) rfl (by decide) (cap := 1) (by decide) (by decide) (by decide) (by decide)
 obtain ⟨b5, g5⟩ : ∃ z, z = h0.size := ⟨_, rfl⟩
 rw [← g5] at A5 st5
 have g_b5 : n0 ≤ b5 := Nat.le_trans Z0 (Nat.le_of_eq g5.symm)
 have sz_b5 : h0.size ≤ b5 := Nat.le_trans (Keep.refl h0 []).1 (Nat.le_of_eq g5.symm)
 have ne_b_b5 : b ≠ b5 := Nat.ne_of_lt (Nat.lt_of_lt_of_le A_b.lt (Nat.le_of_eq g5.symm))
 have f5_A_b := A_b.ext E5
 have z5 : n0 ≤ h5.size := Nat.le_trans Z0 E5.1
 have K5 : Keep h0 h5 [] := (Keep.refl h0 []).ext E5
 have v5 : Arv Z h5 b5 k5 .byte (1 : Int32) [(.int 0)] (.int 0) := (Arv.new A5 (by decide)).pad (pad_rep [] (.int 0) 1)
 have R6 := fun t k => R4 t (st5 t k)
 have R7 : own_R p e below T5 (mkF m 20 #[rv b, iv 1, iv 2, iv 1, rv b5] [(.ref b), (.int 0), (.ref b5), (.int 1), (.ref b)]) s₁ f0 := fun t k => R6 t (by
  refine XS.astore X5.here hx rfl (hb hby d29_12) rfl rfl (l' := #[rv b, iv 1, iv 2, iv 1, rv b5]) rfl ?_
  refine XS.aloadN X5.here hx rfl (hb hby d29_14) rfl rfl ?_
  refine XS.iloadN X5.here hx rfl (hb hby d29_15) rfl ?_
  refine XS.aload X5.here hx rfl (hb hby d29_16) rfl rfl ?_
  refine XS.iconst X5.here hx rfl (hb hby d29_18) ?_
  refine XS.aloadN X5.here hx rfl (hb hby d29_19) rfl rfl ?_
  exact k)
 obtain ⟨cl8, Ar8, -, S8, N8_, -, -⟩ := id f5_A_b
 have R9 : own_R p e below T5 (mkF m 21 #[rv b, iv 1, iv 2, iv 1, rv b5] [(.int 2), (.int 0), (.ref b5), (.int 1), (.ref b)]) s₁ f0 := fun t k => R7 t (X5.arraylength hx (by rw [e5]; exact Ar8.1) (State.isArrayOf_alike hZ.alike Ar8.2.1) (g := (mkF m 20 #[rv b, iv 1, iv 2, iv 1, rv b5] [(.ref b), (.int 0), (.ref b5), (.int 1), (.ref b)])) rfl rfl (hb hby d29_20) _ (by rw [len_of S8 N8_]; exact k))
 have R10 : own_R p e below T5 (mkF m 24 #[rv b, iv 1, iv 2, iv 1, rv b5] [(.int 1), (.int 1), (.int 0), (.ref b5), (.int 1), (.ref b)]) s₁ f0 := fun t k => R9 t (by
  refine XS.iloadN X5.here hx rfl (hb hby d29_21) rfl ?_
  refine XS.isub X5.here hx rfl (hb hby d29_22) rfl ?_
  refine XS.iloadN X5.here hx rfl (hb hby d29_23) rfl ?_
  exact k)
 obtain ⟨_, _, ⟨T11, L11, k11, n11⟩, -, X11, ⟨Lc11, hQ11, l11, y11, z11⟩, st11⟩ := Jvm.LawKit.callS X5 hx (y := yN8) hown (mvT hZ (hU 140 _ rfl)) (mvT hZ (hU 79 _ rfl)) (mvT hZ (hU 80 _ rfl)) (mvT hZ (hU 81 _ rfl)) (by decide) (backOf (W := 4) (rmMin l Z a0 hw [] (1 : Int32) h5 n0 z5 (by decide)) hZ (hU 81 _ rfl) (hU 80 _ rfl) (by decide) (by decide)) (g := (mkF m 24 #[rv b, iv 1, iv 2, iv 1, rv b5] [(.int 1), (.int 1), (.int 0), (.ref b5), (.int 1), (.ref b)])) rfl (by rw [hml]; rfl) (argsL := [(.int 1), (.int 1)]) (rest := [(.int 0), (.ref b5), (.int 1), (.ref b)]) (lenOf pd_17 rfl) rfl (Nat.le_of_eq rfl) (hb hby d29_24) (fun _ _ => ⟨rfl, e5, (by decide : 1 + 0 ≤ _), (by decide : 1 + 0 ≤ _)⟩)
 dsimp only [Pt.U, Pt.locs, Pt.cells, Pt.slots] at X11 l11 y11 z11 st11 hQ11
 subst l11 y11 z11
 obtain ⟨rfl, N11q, p11_0⟩ := hQ11
 have N11 := Fr.app N2 N11q
 have R12 := fun t k => R10 t (st11 t k)
 obtain ⟨T13, h13, L13, X13, e13, N13, Kc13, v13_, st13⟩ := cpA X11 hx hZ hown (hU 141 _ rfl) (hU 144 _ rfl) (hU 142 _ rfl) (hU 143 _ rfl) p11_0 f5_A_b v5 (us := [(.int x1)]) (Or.inl ⟨rfl, rfl⟩) (by decide) (by decide) (by decide) (by decide) (by decide) rfl (Nat.le_of_ble_eq_true rfl) N11 g_b5 (g := (mkF m 27 #[rv b, iv 1, iv 2, iv 1, rv b5] [(.int 1), (.int 0), (.ref b5), (.int 1), (.ref b)])) rfl (by rw [hml]; rfl) rfl (hb hby d29_27) (by decide) (W := 0) (Nat.le_of_eq rfl) (by decide)
 have f13_A_b := f5_A_b.keep Kc13 (ninS ne_b_b5 nin0)
 have z13 : n0 ≤ h13.size := Nat.le_trans z5 Kc13.1
 have K13 : Keep h0 h13 [] := K5.trans Kc13 (allS (Or.inr sz_b5) all0)
 have v13 : Arv Z h13 b5 k5 .byte (1 : Int32) [(.int x1)] (.int 0) := v13_
 have R14 := fun t k => R12 t (st13 t k)
 have R15 : own_R p e below T13 (mkF m 32 #[rv b, iv 1, iv 2, iv 1, rv b5] [(.ref b5)]) s₁ f0 := fun t k => R14 t (by
  refine XS.aload X13.here hx rfl (hb hby d29_30) rfl rfl ?_
  exact k)
 obtain ⟨fs, hr, hrun, hended, hW, hsame⟩ := X13.leave (v := some (.ref b5)) (fun h => by rw [Bd.returns] at h; cases h)
 refine ⟨_, _, pre0 _ (R15 _ ?_), hrun, hended, _, _, rfl, ?_, ⟨_, rfl⟩, hW, hsame.mono (by decide) (by decide)⟩
 ·
  show own_S p e below T13 (mkF m 32 #[rv b, iv 1, iv 2, iv 1, rv b5] [(.ref b5)]) _
  exact retOut X13 hx (t := (.array .byte)) Bd.returns rfl (Or.inr (Or.inr (Or.inr (Or.inr ⟨rfl, rfl, rfl⟩)))) (hb hby d29_32) hr
 ·
  show (Q_rmCp Z (1 : Int32) [(.int x1)] h0 n0) _ T13.heap _
  rw [e13]
  exact ⟨b5, k5, rfl, N13, K13, v13, sz_b5⟩
theorem ef_rmLli4 (m : MethodId) (x0 : Addr) (x1 : Int32) (x2 : Int32) : entryFrame m #[(.ref x0), (.int x1), (.int x2)] 4 = mkF m 0 #[rv x0, iv x1, iv x2, .unset] [] := by first | (simp [entryFrame, mkF, argsToLocals, Value.category]; done) | rfl
set_option maxRecDepth 65536 in
set_option maxHeartbeats 40000000 in
theorem rmLli4 (l : Launch) (Z : State) (a0 : Array Value) (hw : ∀ d ∈ tables_1, d.before a0 Z = true) (ws : List Jvm.Cond) (b : Addr) (kb : ClassId) (x0 : Int32) (x1 : Int32) (x2 : Int32) (x3 : Int32) (h0 : Heap) (n0 : Nat) (Z0 : n0 ≤ h0.size) (A_b : Arv Z h0 b kb .byte (4 : Int32) [(.int x0), (.int x1), (.int x2), (.int x3)] (.int 0)) :
  own_M l yN4 (Jvm.Cond.code yN4 jdk_43_method_27_code 4 (some .int) :: ws) ({ frames := 1, cells := 0, slots := 0, locals := 13 } : Room) #[(.ref b), (.int 47), (.int 3)] Z h0 (Q_rmI Z (own_li4 x0 x1 x2 x3) h0 n0) := by
 refine MetFree.of_bodySF (plainFor_of_name pn_5) hisR ?_
 intro p e s m args below meth c s₁ Bd hml0 hP hK
 obtain ⟨rfl, hZ, hh⟩ := hP
 have hx := Bd.exec
 have hby := Bd.bytes
 have hml : c.maxLocals = 4 := hml0
 have hown : s.vm.findClass "java/lang/StringLatin1" = some m.cls := findClass_of_methodNamed Bd.named
 have hnm := (name_of_methodNamed Bd.named Bd.method).1
 have X0 : Stand p l e ({ frames := 1, cells := 0, slots := 0, locals := 13 } : Room) s m #[(.ref b), (.int 47), (.int 3)] below meth c s₁ [] 0 0 := Stand.of_body Bd
 have hU : ∀ (i : Nat) (d : Jvm.Cond), tables_1[i]? = some d → d.before a0 Z = true := fun i d h => hw d (List.mem_of_getElem? h)
 have e0 : s₁.heap = h0 := by rw [← hh, Bd.state]; rfl
 have N0 := Fr.nil n0
 obtain ⟨f0, hf0⟩ : ∃ f : JFrame, f = mkF m 0 #[rv b, iv 47, iv 3, .unset] [] := ⟨_, rfl⟩
 have pre0 : ∀ t, own_S p e below s₁ f0 t → Steps p.tables e below (s₁.setTop (entryFrame m #[(.ref b), (.int 47), (.int 3)] 4)) t := fun t k => castTop ((ef_rmLli4 m b (47 : Int32) (3 : Int32)).trans hf0.symm) k
 have R0 : own_R p e below s₁ (mkF m 0 #[rv b, iv 47, iv 3, .unset] []) s₁ f0 := by rw [hf0]; exact fun t k => k
 have R1 : own_R p e below s₁ (mkF m 1 #[rv b, iv 47, iv 3, .unset] [(.int 47)]) s₁ f0 := fun t k => R0 t (by
  refine XS.iloadN X0.here hx rfl (hb hby d13_0) rfl ?_
  exact k)
 obtain ⟨_, _, ⟨T2, L2, k2, n2⟩, -, X2, ⟨Lc2, hQ2, l2, y2, z2⟩, st2⟩ := Jvm.LawKit.callS X0 hx (y := yN16) hown (mvT hZ (hU 75 _ rfl)) (mvT hZ (hU 76 _ rfl)) (mvT hZ (hU 73 _ rfl)) (mvT hZ (hU 77 _ rfl)) (by decide) (backOf (W := 0) (rmCan l Z a0 hw []  h0 n0 Z0) hZ (hU 77 _ rfl) (hU 73 _ rfl) (by decide) (by decide)) (g := (mkF m 1 #[rv b, iv 47, iv 3, .unset] [(.int 47)])) rfl (by rw [hml]; rfl) (argsL := [(.int 47)]) (rest := []) (lenOf pd_18 rfl) rfl (Nat.le_of_eq rfl) (hb hby d13_1) (fun _ _ => ⟨rfl, e0, (by decide : 0 + 0 ≤ _), (by decide : 0 + 0 ≤ _)⟩)
 dsimp only [Pt.U, Pt.locs, Pt.cells, Pt.slots] at X2 l2 y2 z2 st2 hQ2
 subst l2 y2 z2
 obtain ⟨rfl, N2q, p2_0⟩ := hQ2
 have N2 := Fr.app N0 N2q
 have R3 := fun t k => R1 t (st2 t k)
 have R4 : own_R p e below T2 (mkF m 11 #[rv b, iv 47, iv 3, .unset] [(.ref b), (.int 3)]) s₁ f0 := fun t k => R3 t (by
  refine XS.ifYes X2.here hx rfl (pc0 := 4) (pc' := 9) rfl (hb hby d13_4) rfl ((if0 _ _).trans (feq (by decide : ¬ ((1 : Int32) = (0 : Int32)))).2) (by decide) (by decide) ?_
  refine XS.iloadN X2.here hx rfl (hb hby d13_9) rfl ?_
  refine XS.aloadN X2.here hx rfl (hb hby d13_10) rfl rfl ?_
  exact k)
 obtain ⟨cl5, Ar5, -, S5, N5_, -, -⟩ := id A_b
 have R6 : own_R p e below T2 (mkF m 12 #[rv b, iv 47, iv 3, .unset] [(.int 4), (.int 3)]) s₁ f0 := fun t k => R4 t (X2.arraylength hx (by rw [p2_0]; exact Ar5.1) (State.isArrayOf_alike hZ.alike Ar5.2.1) (g := (mkF m 11 #[rv b, iv 47, iv 3, .unset] [(.ref b), (.int 3)])) rfl rfl (hb hby d13_11) _ (by rw [len_of S5 N5_]; exact k))
 have R7 : own_R p e below T2 (mkF m 14 #[rv b, iv 47, iv 3, .unset] [(.int 3), (.int 3)]) s₁ f0 := fun t k => R6 t (by
  refine XS.iconst X2.here hx rfl (hb hby d13_12) ?_
  refine XS.isub X2.here hx rfl (hb hby d13_13) rfl ?_
  exact k)
 obtain ⟨_, _, ⟨T8, L8, k8, n8⟩, -, X8, ⟨Lc8, hQ8, l8, y8, z8⟩, st8⟩ := Jvm.LawKit.callS X2 hx (y := yN8) hown (mvT hZ (hU 78 _ rfl)) (mvT hZ (hU 79 _ rfl)) (mvT hZ (hU 80 _ rfl)) (mvT hZ (hU 81 _ rfl)) (by decide) (backOf (W := 0) (rmMin l Z a0 hw [] (3 : Int32) h0 n0 Z0 (by decide)) hZ (hU 81 _ rfl) (hU 80 _ rfl) (by decide) (by decide)) (g := (mkF m 14 #[rv b, iv 47, iv 3, .unset] [(.int 3), (.int 3)])) rfl (by rw [hml]; rfl) (argsL := [(.int 3), (.int 3)]) (rest := []) (lenOf pd_17 rfl) rfl (Nat.le_of_eq rfl) (hb hby d13_14) (fun _ _ => ⟨rfl, p2_0, (by decide : 0 + 0 ≤ _), (by decide : 0 + 0 ≤ _)⟩)
 dsimp only [Pt.U, Pt.locs, Pt.cells, Pt.slots] at X8 l8 y8 z8 st8 hQ8
 subst l8 y8 z8
 obtain ⟨rfl, N8q, p8_0⟩ := hQ8
 have N8 := Fr.app N2 N8q
 have R9 := fun t k => R7 t (st8 t k)
 have R10 : own_R p e below T8 (mkF m 24 #[rv b, iv 47, iv 3, iv 3] [(.int 3), (.ref b)]) s₁ f0 := fun t k => R9 t (by
  refine XS.istoreN X8.here hx rfl (hb hby d13_17) rfl (l' := #[rv b, iv 47, iv 3, iv 3]) rfl ?_
  refine XS.iloadN X8.here hx rfl (hb hby d13_18) rfl ?_
  refine XS.ifNo X8.here hx rfl (hb hby d13_19) rfl ((if0 _ _).trans (flt (by decide : ¬ ((3 : Int32) < (0 : Int32)))).1) ?_
  refine XS.aloadN X8.here hx rfl (hb hby d13_22) rfl rfl ?_
  refine XS.iloadN X8.here hx rfl (hb hby d13_23) rfl ?_
  exact k)
 obtain ⟨cl11, Ar11, q11, S11, n11_, H11, G11⟩ := id A_b
 have hin11 : ¬ ((3 : Int32) < 0 ∨ cl11.slots.size ≤ ((3 : Int32)).toNatClampNeg) := inb_of S11 ⟨by decide, by decide⟩
 have hat11 : cl11.slots[((3 : Int32)).toNatClampNeg]? = some (.int x3) := Has.at H11 hin11 rfl
 have R12 : own_R p e below T8 (mkF m 25 #[rv b, iv 47, iv 3, iv 3] [(.int x3)]) s₁ f0 := fun t k => R10 t (X8.baloadBytes hx (j := (3 : Int32)) (v := (.int x3)) (by rw [p8_0]; exact Ar11.1) (State.isArrayOf_alike hZ.alike Ar11.2.1) Ar11.2.2 hin11 hat11 (g := (mkF m 24 #[rv b, iv 47, iv 3, iv 3] [(.int 3), (.ref b)])) rfl rfl (hb hby d13_24) _ k)
 have R13 : own_R p e below T8 (mkF m 27 #[rv b, iv 47, iv 3, iv 3] [(.int ((47 : Int32).toInt8.toInt32)), (.int x3)]) s₁ f0 := fun t k => R12 t (by
  refine XS.iloadN X8.here hx rfl (hb hby d13_25) rfl ?_
  refine XS.i2b X8.here hx rfl (hb hby d13_26) rfl ?_
  exact k)
 have R14 : own_R p e below T8 (mkF m 27 #[rv b, iv 47, iv 3, iv 3] [(.int 47), (.int x3)]) s₁ f0 := by have q := R13; rw [((by decide) : ((47 : Int32).toInt8.toInt32) = (47 : Int32))] at q; exact q
 by_cases hs1 : x3 = (47 : Int32)
 ·
  have R15 : own_R p e below T8 (mkF m 31 #[rv b, iv 47, iv 3, iv 3] [(.int 3)]) s₁ f0 := fun t k => R14 t (by
   refine XS.icmpNo X8.here hx rfl (hb hby d13_27) rfl (teq hs1).2 ?_
   refine XS.iloadN X8.here hx rfl (hb hby d13_30) rfl ?_
   exact k)
  obtain ⟨fs, hr, hrun, hended, hW, hsame⟩ := X8.leave (v := some (.int 3)) (fun h => by rw [Bd.returns] at h; cases h)
  refine ⟨_, _, pre0 _ (R15 _ ?_), hrun, hended, _, _, rfl, ?_, ⟨_, rfl⟩, hW, hsame.mono (by decide) (by decide)⟩
  ·
   show own_S p e below T8 (mkF m 31 #[rv b, iv 47, iv 3, iv 3] [(.int 3)]) _
   exact retI X8 hx Bd.returns (hb hby d13_31) hr
  ·
   show (Q_rmI Z (own_li4 x0 x1 x2 x3) h0 n0) _ T8.heap _
   rw [p8_0]
   exact ⟨(by simp [own_li4, hs1]), N8, rfl⟩
 ·
  have R16 : own_R p e below T8 (mkF m 24 #[rv b, iv 47, iv 3, iv 2] [(.int 2), (.ref b)]) s₁ f0 := fun t k => R14 t (by
   refine XS.icmpYes X8.here hx rfl (pc0 := 27) (pc' := 32) rfl (hb hby d13_27) rfl (feq hs1).2 (by decide) (by decide) ?_
   refine XS.iinc X8.here hx rfl (hb hby d13_32) rfl (l' := #[rv b, iv 47, iv 3, iv 2]) rfl ?_
   refine XS.goto X8.here hx rfl (pc0 := 35) (pc' := 18) rfl (hb hby d13_35) (by decide) (by decide) ?_
   refine XS.iloadN X8.here hx rfl (hb hby d13_18) rfl ?_
   refine XS.ifNo X8.here hx rfl (hb hby d13_19) rfl ((if0 _ _).trans (flt (by decide : ¬ ((2 : Int32) < (0 : Int32)))).1) ?_
   refine XS.aloadN X8.here hx rfl (hb hby d13_22) rfl rfl ?_
   refine XS.iloadN X8.here hx rfl (hb hby d13_23) rfl ?_
   exact k)
  obtain ⟨cl17, Ar17, q17, S17, n17_, H17, G17⟩ := id A_b
  have hin17 : ¬ ((2 : Int32) < 0 ∨ cl17.slots.size ≤ ((2 : Int32)).toNatClampNeg) := inb_of S17 ⟨by decide, by decide⟩
  have hat17 : cl17.slots[((2 : Int32)).toNatClampNeg]? = some (.int x2) := Has.at H17 hin17 rfl
  have R18 : own_R p e below T8 (mkF m 25 #[rv b, iv 47, iv 3, iv 2] [(.int x2)]) s₁ f0 := fun t k => R16 t (X8.baloadBytes hx (j := (2 : Int32)) (v := (.int x2)) (by rw [p8_0]; exact Ar17.1) (State.isArrayOf_alike hZ.alike Ar17.2.1) Ar17.2.2 hin17 hat17 (g := (mkF m 24 #[rv b, iv 47, iv 3, iv 2] [(.int 2), (.ref b)])) rfl rfl (hb hby d13_24) _ k)
  have R19 : own_R p e below T8 (mkF m 27 #[rv b, iv 47, iv 3, iv 2] [(.int ((47 : Int32).toInt8.toInt32)), (.int x2)]) s₁ f0 := fun t k => R18 t (by
   refine XS.iloadN X8.here hx rfl (hb hby d13_25) rfl ?_
   refine XS.i2b X8.here hx rfl (hb hby d13_26) rfl ?_
   exact k)
  have R20 : own_R p e below T8 (mkF m 27 #[rv b, iv 47, iv 3, iv 2] [(.int 47), (.int x2)]) s₁ f0 := by have q := R19; rw [((by decide) : ((47 : Int32).toInt8.toInt32) = (47 : Int32))] at q; exact q
  by_cases hs2 : x2 = (47 : Int32)
  ·
   have R21 : own_R p e below T8 (mkF m 31 #[rv b, iv 47, iv 3, iv 2] [(.int 2)]) s₁ f0 := fun t k => R20 t (by
    refine XS.icmpNo X8.here hx rfl (hb hby d13_27) rfl (teq hs2).2 ?_
    refine XS.iloadN X8.here hx rfl (hb hby d13_30) rfl ?_
    exact k)
   obtain ⟨fs, hr, hrun, hended, hW, hsame⟩ := X8.leave (v := some (.int 2)) (fun h => by rw [Bd.returns] at h; cases h)
   refine ⟨_, _, pre0 _ (R21 _ ?_), hrun, hended, _, _, rfl, ?_, ⟨_, rfl⟩, hW, hsame.mono (by decide) (by decide)⟩
   ·
    show own_S p e below T8 (mkF m 31 #[rv b, iv 47, iv 3, iv 2] [(.int 2)]) _
    exact retI X8 hx Bd.returns (hb hby d13_31) hr
   ·
    show (Q_rmI Z (own_li4 x0 x1 x2 x3) h0 n0) _ T8.heap _
    rw [p8_0]
    exact ⟨(by simp [own_li4, hs1, hs2]), N8, rfl⟩
  ·
   have R22 : own_R p e below T8 (mkF m 24 #[rv b, iv 47, iv 3, iv 1] [(.int 1), (.ref b)]) s₁ f0 := fun t k => R20 t (by
    refine XS.icmpYes X8.here hx rfl (pc0 := 27) (pc' := 32) rfl (hb hby d13_27) rfl (feq hs2).2 (by decide) (by decide) ?_
    refine XS.iinc X8.here hx rfl (hb hby d13_32) rfl (l' := #[rv b, iv 47, iv 3, iv 1]) rfl ?_
    refine XS.goto X8.here hx rfl (pc0 := 35) (pc' := 18) rfl (hb hby d13_35) (by decide) (by decide) ?_
    refine XS.iloadN X8.here hx rfl (hb hby d13_18) rfl ?_
    refine XS.ifNo X8.here hx rfl (hb hby d13_19) rfl ((if0 _ _).trans (flt (by decide : ¬ ((1 : Int32) < (0 : Int32)))).1) ?_
    refine XS.aloadN X8.here hx rfl (hb hby d13_22) rfl rfl ?_
    refine XS.iloadN X8.here hx rfl (hb hby d13_23) rfl ?_
    exact k)
   obtain ⟨cl23, Ar23, q23, S23, n23_, H23, G23⟩ := id A_b
   have hin23 : ¬ ((1 : Int32) < 0 ∨ cl23.slots.size ≤ ((1 : Int32)).toNatClampNeg) := inb_of S23 ⟨by decide, by decide⟩
   have hat23 : cl23.slots[((1 : Int32)).toNatClampNeg]? = some (.int x1) := Has.at H23 hin23 rfl
   have R24 : own_R p e below T8 (mkF m 25 #[rv b, iv 47, iv 3, iv 1] [(.int x1)]) s₁ f0 := fun t k => R22 t (X8.baloadBytes hx (j := (1 : Int32)) (v := (.int x1)) (by rw [p8_0]; exact Ar23.1) (State.isArrayOf_alike hZ.alike Ar23.2.1) Ar23.2.2 hin23 hat23 (g := (mkF m 24 #[rv b, iv 47, iv 3, iv 1] [(.int 1), (.ref b)])) rfl rfl (hb hby d13_24) _ k)
   have R25 : own_R p e below T8 (mkF m 27 #[rv b, iv 47, iv 3, iv 1] [(.int ((47 : Int32).toInt8.toInt32)), (.int x1)]) s₁ f0 := fun t k => R24 t (by
    refine XS.iloadN X8.here hx rfl (hb hby d13_25) rfl ?_
    refine XS.i2b X8.here hx rfl (hb hby d13_26) rfl ?_
    exact k)
   have R26 : own_R p e below T8 (mkF m 27 #[rv b, iv 47, iv 3, iv 1] [(.int 47), (.int x1)]) s₁ f0 := by have q := R25; rw [((by decide) : ((47 : Int32).toInt8.toInt32) = (47 : Int32))] at q; exact q
   by_cases hs3 : x1 = (47 : Int32)
   ·
    have R27 : own_R p e below T8 (mkF m 31 #[rv b, iv 47, iv 3, iv 1] [(.int 1)]) s₁ f0 := fun t k => R26 t (by
     refine XS.icmpNo X8.here hx rfl (hb hby d13_27) rfl (teq hs3).2 ?_
     refine XS.iloadN X8.here hx rfl (hb hby d13_30) rfl ?_
     exact k)
    obtain ⟨fs, hr, hrun, hended, hW, hsame⟩ := X8.leave (v := some (.int 1)) (fun h => by rw [Bd.returns] at h; cases h)
    refine ⟨_, _, pre0 _ (R27 _ ?_), hrun, hended, _, _, rfl, ?_, ⟨_, rfl⟩, hW, hsame.mono (by decide) (by decide)⟩
    ·
     show own_S p e below T8 (mkF m 31 #[rv b, iv 47, iv 3, iv 1] [(.int 1)]) _
     exact retI X8 hx Bd.returns (hb hby d13_31) hr
    ·
     show (Q_rmI Z (own_li4 x0 x1 x2 x3) h0 n0) _ T8.heap _
     rw [p8_0]
     exact ⟨(by simp [own_li4, hs1, hs2, hs3]), N8, rfl⟩
   ·
    have R28 : own_R p e below T8 (mkF m 24 #[rv b, iv 47, iv 3, iv 0] [(.int 0), (.ref b)]) s₁ f0 := fun t k => R26 t (by
     refine XS.icmpYes X8.here hx rfl (pc0 := 27) (pc' := 32) rfl (hb hby d13_27) rfl (feq hs3).2 (by decide) (by decide) ?_
     refine XS.iinc X8.here hx rfl (hb hby d13_32) rfl (l' := #[rv b, iv 47, iv 3, iv 0]) rfl ?_
     refine XS.goto X8.here hx rfl (pc0 := 35) (pc' := 18) rfl (hb hby d13_35) (by decide) (by decide) ?_
     refine XS.iloadN X8.here hx rfl (hb hby d13_18) rfl ?_
     refine XS.ifNo X8.here hx rfl (hb hby d13_19) rfl ((if0 _ _).trans (flt (by decide : ¬ ((0 : Int32) < (0 : Int32)))).1) ?_
     refine XS.aloadN X8.here hx rfl (hb hby d13_22) rfl rfl ?_
     refine XS.iloadN X8.here hx rfl (hb hby d13_23) rfl ?_
     exact k)
    obtain ⟨cl29, Ar29, q29, S29, n29_, H29, G29⟩ := id A_b
    have hin29 : ¬ ((0 : Int32) < 0 ∨ cl29.slots.size ≤ ((0 : Int32)).toNatClampNeg) := inb_of S29 ⟨by decide, by decide⟩
    have hat29 : cl29.slots[((0 : Int32)).toNatClampNeg]? = some (.int x0) := Has.at H29 hin29 rfl
    have R30 : own_R p e below T8 (mkF m 25 #[rv b, iv 47, iv 3, iv 0] [(.int x0)]) s₁ f0 := fun t k => R28 t (X8.baloadBytes hx (j := (0 : Int32)) (v := (.int x0)) (by rw [p8_0]; exact Ar29.1) (State.isArrayOf_alike hZ.alike Ar29.2.1) Ar29.2.2 hin29 hat29 (g := (mkF m 24 #[rv b, iv 47, iv 3, iv 0] [(.int 0), (.ref b)])) rfl rfl (hb hby d13_24) _ k)
    have R31 : own_R p e below T8 (mkF m 27 #[rv b, iv 47, iv 3, iv 0] [(.int ((47 : Int32).toInt8.toInt32)), (.int x0)]) s₁ f0 := fun t k => R30 t (by
     refine XS.iloadN X8.here hx rfl (hb hby d13_25) rfl ?_
     refine XS.i2b X8.here hx rfl (hb hby d13_26) rfl ?_
     exact k)
    have R32 : own_R p e below T8 (mkF m 27 #[rv b, iv 47, iv 3, iv 0] [(.int 47), (.int x0)]) s₁ f0 := by have q := R31; rw [((by decide) : ((47 : Int32).toInt8.toInt32) = (47 : Int32))] at q; exact q
    by_cases hs4 : x0 = (47 : Int32)
    ·
     have R33 : own_R p e below T8 (mkF m 31 #[rv b, iv 47, iv 3, iv 0] [(.int 0)]) s₁ f0 := fun t k => R32 t (by
      refine XS.icmpNo X8.here hx rfl (hb hby d13_27) rfl (teq hs4).2 ?_
      refine XS.iloadN X8.here hx rfl (hb hby d13_30) rfl ?_
      exact k)
     obtain ⟨fs, hr, hrun, hended, hW, hsame⟩ := X8.leave (v := some (.int 0)) (fun h => by rw [Bd.returns] at h; cases h)
     refine ⟨_, _, pre0 _ (R33 _ ?_), hrun, hended, _, _, rfl, ?_, ⟨_, rfl⟩, hW, hsame.mono (by decide) (by decide)⟩
     ·
      show own_S p e below T8 (mkF m 31 #[rv b, iv 47, iv 3, iv 0] [(.int 0)]) _
      exact retI X8 hx Bd.returns (hb hby d13_31) hr
     ·
      show (Q_rmI Z (own_li4 x0 x1 x2 x3) h0 n0) _ T8.heap _
      rw [p8_0]
      exact ⟨(by simp [own_li4, hs1, hs2, hs3, hs4]), N8, rfl⟩
    ·
     have R34 : own_R p e below T8 (mkF m 39 #[rv b, iv 47, iv 3, iv (-1)] [(.int (-1))]) s₁ f0 := fun t k => R32 t (by
      refine XS.icmpYes X8.here hx rfl (pc0 := 27) (pc' := 32) rfl (hb hby d13_27) rfl (feq hs4).2 (by decide) (by decide) ?_
      refine XS.iinc X8.here hx rfl (hb hby d13_32) rfl (l' := #[rv b, iv 47, iv 3, iv (-1)]) rfl ?_
      refine XS.goto X8.here hx rfl (pc0 := 35) (pc' := 18) rfl (hb hby d13_35) (by decide) (by decide) ?_
      refine XS.iloadN X8.here hx rfl (hb hby d13_18) rfl ?_
      refine XS.ifYes X8.here hx rfl (pc0 := 19) (pc' := 38) rfl (hb hby d13_19) rfl ((if0 _ _).trans (tlt (by decide : (-1 : Int32) < (0 : Int32))).1) (by decide) (by decide) ?_
      refine XS.iconst X8.here hx rfl (hb hby d13_38) ?_
      exact k)
     obtain ⟨fs, hr, hrun, hended, hW, hsame⟩ := X8.leave (v := some (.int (-1))) (fun h => by rw [Bd.returns] at h; cases h)
     refine ⟨_, _, pre0 _ (R34 _ ?_), hrun, hended, _, _, rfl, ?_, ⟨_, rfl⟩, hW, hsame.mono (by decide) (by decide)⟩
     ·
      show own_S p e below T8 (mkF m 39 #[rv b, iv 47, iv 3, iv (-1)] [(.int (-1))]) _
      exact retI X8 hx Bd.returns (hb hby d13_39) hr
     ·
      show (Q_rmI Z (own_li4 x0 x1 x2 x3) h0 n0) _ T8.heap _
      rw [p8_0]
      exact ⟨(by simp [own_li4, hs1, hs2, hs3, hs4]), N8, rfl⟩
theorem ef_rmLli3 (m : MethodId) (x0 : Addr) (x1 : Int32) (x2 : Int32) : entryFrame m #[(.ref x0), (.int x1), (.int x2)] 4 = mkF m 0 #[rv x0, iv x1, iv x2, .unset] [] := by first | (simp [entryFrame, mkF, argsToLocals, Value.category]; done) | rfl
set_option maxRecDepth 65536 in
set_option maxHeartbeats 40000000 in
theorem rmLli3 (l : Launch) (Z : State) (a0 : Array Value) (hw : ∀ d ∈ tables_1, d.before a0 Z = true) (ws : List Jvm.Cond) (b : Addr) (kb : ClassId) (x0 : Int32) (x1 : Int32) (x2 : Int32) (h0 : Heap) (n0 : Nat) (Z0 : n0 ≤ h0.size) (A_b : Arv Z h0 b kb .byte (3 : Int32) [(.int x0), (.int x1), (.int x2)] (.int 0)) :
  own_M l yN4 (Jvm.Cond.code yN4 jdk_43_method_27_code 4 (some .int) :: ws) ({ frames := 1, cells := 0, slots := 0, locals := 13 } : Room) #[(.ref b), (.int 47), (.int 2)] Z h0 (Q_rmI Z (own_li3 x0 x1 x2) h0 n0) := by
 refine MetFree.of_bodySF (plainFor_of_name pn_5) hisR ?_
 intro p e s m args below meth c s₁ Bd hml0 hP hK
 obtain ⟨rfl, hZ, hh⟩ := hP
 have hx := Bd.exec
 have hby := Bd.bytes
 have hml : c.maxLocals = 4 := hml0
 have hown : s.vm.findClass "java/lang/StringLatin1" = some m.cls := findClass_of_methodNamed Bd.named
 have hnm := (name_of_methodNamed Bd.named Bd.method).1
 have X0 : Stand p l e ({ frames := 1, cells := 0, slots := 0, locals := 13 } : Room) s m #[(.ref b), (.int 47), (.int 2)] below meth c s₁ [] 0 0 := Stand.of_body Bd
 have hU : ∀ (i : Nat) (d : Jvm.Cond), tables_1[i]? = some d → d.before a0 Z = true := fun i d h => hw d (List.mem_of_getElem? h)
 have e0 : s₁.heap = h0 := by rw [← hh, Bd.state]; rfl
 have N0 := Fr.nil n0
 obtain ⟨f0, hf0⟩ : ∃ f : JFrame, f = mkF m 0 #[rv b, iv 47, iv 2, .unset] [] := ⟨_, rfl⟩
 have pre0 : ∀ t, own_S p e below s₁ f0 t → Steps p.tables e below (s₁.setTop (entryFrame m #[(.ref b), (.int 47), (.int 2)] 4)) t := fun t k => castTop ((ef_rmLli3 m b (47 : Int32) (2 : Int32)).trans hf0.symm) k
 have R0 : own_R p e below s₁ (mkF m 0 #[rv b, iv 47, iv 2, .unset] []) s₁ f0 := by rw [hf0]; exact fun t k => k
 have R1 : own_R p e below s₁ (mkF m 1 #[rv b, iv 47, iv 2, .unset] [(.int 47)]) s₁ f0 := fun t k => R0 t (by
  refine XS.iloadN X0.here hx rfl (hb hby d13_0) rfl ?_
  exact k)
 obtain ⟨_, _, ⟨T2, L2, k2, n2⟩, -, X2, ⟨Lc2, hQ2, l2, y2, z2⟩, st2⟩ := Jvm.LawKit.callS X0 hx (y := yN16) hown (mvT hZ (hU 75 _ rfl)) (mvT hZ (hU 76 _ rfl)) (mvT hZ (hU 73 _ rfl)) (mvT hZ (hU 77 _ rfl)) (by decide) (backOf (W := 0) (rmCan l Z a0 hw []  h0 n0 Z0) hZ (hU 77 _ rfl) (hU 73 _ rfl) (by decide) (by decide)) (g := (mkF m 1 #[rv b, iv 47, iv 2, .unset] [(.int 47)])) rfl (by rw [hml]; rfl) (argsL := [(.int 47)]) (rest := []) (lenOf pd_18 rfl) rfl (Nat.le_of_eq rfl) (hb hby d13_1) (fun _ _ => ⟨rfl, e0, (by decide : 0 + 0 ≤ _), (by decide : 0 + 0 ≤ _)⟩)
 dsimp only [Pt.U, Pt.locs, Pt.cells, Pt.slots] at X2 l2 y2 z2 st2 hQ2
 subst l2 y2 z2
 obtain ⟨rfl, N2q, p2_0⟩ := hQ2
 have N2 := Fr.app N0 N2q
 have R3 := fun t k => R1 t (st2 t k)
 have R4 : own_R p e below T2 (mkF m 11 #[rv b, iv 47, iv 2, .unset] [(.ref b), (.int 2)]) s₁ f0 := fun t k => R3 t (by
  refine XS.ifYes X2.here hx rfl (pc0 := 4) (pc' := 9) rfl (hb hby d13_4) rfl ((if0 _ _).trans (feq (by decide : ¬ ((1 : Int32) = (0 : Int32)))).2) (by decide) (by decide) ?_
  refine XS.iloadN X2.here hx rfl (hb hby d13_9) rfl ?_
  refine XS.aloadN X2.here hx rfl (hb hby d13_10) rfl rfl ?_
  exact k)
 obtain ⟨cl5, Ar5, -, S5, N5_, -, -⟩ := id A_b
 have R6 : own_R p e below T2 (mkF m 12 #[rv b, iv 47, iv 2, .unset] [(.int 3), (.int 2)]) s₁ f0 := fun t k => R4 t (X2.arraylength hx (by rw [p2_0]; exact Ar5.1) (State.isArrayOf_alike hZ.alike Ar5.2.1) (g := (mkF m 11 #[rv b, iv 47, iv 2, .unset] [(.ref b), (.int 2)])) rfl rfl (hb hby d13_11) _ (by rw [len_of S5 N5_]; exact k))
 have R7 : own_R p e below T2 (mkF m 14 #[rv b, iv 47, iv 2, .unset] [(.int 2), (.int 2)]) s₁ f0 := fun t k => R6 t (by
  refine XS.iconst X2.here hx rfl (hb hby d13_12) ?_
  refine XS.isub X2.here hx rfl (hb hby d13_13) rfl ?_
  exact k)
 obtain ⟨_, _, ⟨T8, L8, k8, n8⟩, -, X8, ⟨Lc8, hQ8, l8, y8, z8⟩, st8⟩ := Jvm.LawKit.callS X2 hx (y := yN8) hown (mvT hZ (hU 78 _ rfl)) (mvT hZ (hU 79 _ rfl)) (mvT hZ (hU 80 _ rfl)) (mvT hZ (hU 81 _ rfl)) (by decide) (backOf (W := 0) (rmMin l Z a0 hw [] (2 : Int32) h0 n0 Z0 (by decide)) hZ (hU 81 _ rfl) (hU 80 _ rfl) (by decide) (by decide)) (g := (mkF m 14 #[rv b, iv 47, iv 2, .unset] [(.int 2), (.int 2)])) rfl (by rw [hml]; rfl) (argsL := [(.int 2), (.int 2)]) (rest := []) (lenOf pd_17 rfl) rfl (Nat.le_of_eq rfl) (hb hby d13_14) (fun _ _ => ⟨rfl, p2_0, (by decide : 0 + 0 ≤ _), (by decide : 0 + 0 ≤ _)⟩)
 dsimp only [Pt.U, Pt.locs, Pt.cells, Pt.slots] at X8 l8 y8 z8 st8 hQ8
 subst l8 y8 z8
 obtain ⟨rfl, N8q, p8_0⟩ := hQ8
 have N8 := Fr.app N2 N8q
 have R9 := fun t k => R7 t (st8 t k)
 have R10 : own_R p e below T8 (mkF m 24 #[rv b, iv 47, iv 2, iv 2] [(.int 2), (.ref b)]) s₁ f0 := fun t k => R9 t (by
  refine XS.istoreN X8.here hx rfl (hb hby d13_17) rfl (l' := #[rv b, iv 47, iv 2, iv 2]) rfl ?_
  refine XS.iloadN X8.here hx rfl (hb hby d13_18) rfl ?_
  refine XS.ifNo X8.here hx rfl (hb hby d13_19) rfl ((if0 _ _).trans (flt (by decide : ¬ ((2 : Int32) < (0 : Int32)))).1) ?_
  refine XS.aloadN X8.here hx rfl (hb hby d13_22) rfl rfl ?_
  refine XS.iloadN X8.here hx rfl (hb hby d13_23) rfl ?_
  exact k)
 obtain ⟨cl11, Ar11, q11, S11, n11_, H11, G11⟩ := id A_b
 have hin11 : ¬ ((2 : Int32) < 0 ∨ cl11.slots.size ≤ ((2 : Int32)).toNatClampNeg) := inb_of S11 ⟨by decide, by decide⟩
 have hat11 : cl11.slots[((2 : Int32)).toNatClampNeg]? = some (.int x2) := Has.at H11 hin11 rfl
 have R12 : own_R p e below T8 (mkF m 25 #[rv b, iv 47, iv 2, iv 2] [(.int x2)]) s₁ f0 := fun t k => R10 t (X8.baloadBytes hx (j := (2 : Int32)) (v := (.int x2)) (by rw [p8_0]; exact Ar11.1) (State.isArrayOf_alike hZ.alike Ar11.2.1) Ar11.2.2 hin11 hat11 (g := (mkF m 24 #[rv b, iv 47, iv 2, iv 2] [(.int 2), (.ref b)])) rfl rfl (hb hby d13_24) _ k)
 have R13 : own_R p e below T8 (mkF m 27 #[rv b, iv 47, iv 2, iv 2] [(.int ((47 : Int32).toInt8.toInt32)), (.int x2)]) s₁ f0 := fun t k => R12 t (by
  refine XS.iloadN X8.here hx rfl (hb hby d13_25) rfl ?_
  refine XS.i2b X8.here hx rfl (hb hby d13_26) rfl ?_
  exact k)
 have R14 : own_R p e below T8 (mkF m 27 #[rv b, iv 47, iv 2, iv 2] [(.int 47), (.int x2)]) s₁ f0 := by have q := R13; rw [((by decide) : ((47 : Int32).toInt8.toInt32) = (47 : Int32))] at q; exact q
 by_cases hs1 : x2 = (47 : Int32)
 ·
  have R15 : own_R p e below T8 (mkF m 31 #[rv b, iv 47, iv 2, iv 2] [(.int 2)]) s₁ f0 := fun t k => R14 t (by
   refine XS.icmpNo X8.here hx rfl (hb hby d13_27) rfl (teq hs1).2 ?_
   refine XS.iloadN X8.here hx rfl (hb hby d13_30) rfl ?_
   exact k)
  obtain ⟨fs, hr, hrun, hended, hW, hsame⟩ := X8.leave (v := some (.int 2)) (fun h => by rw [Bd.returns] at h; cases h)
  refine ⟨_, _, pre0 _ (R15 _ ?_), hrun, hended, _, _, rfl, ?_, ⟨_, rfl⟩, hW, hsame.mono (by decide) (by decide)⟩
  ·
   show own_S p e below T8 (mkF m 31 #[rv b, iv 47, iv 2, iv 2] [(.int 2)]) _
   exact retI X8 hx Bd.returns (hb hby d13_31) hr
  ·
   show (Q_rmI Z (own_li3 x0 x1 x2) h0 n0) _ T8.heap _
   rw [p8_0]
   exact ⟨(by simp [own_li3, hs1]), N8, rfl⟩
 ·
  have R16 : own_R p e below T8 (mkF m 24 #[rv b, iv 47, iv 2, iv 1] [(.int 1), (.ref b)]) s₁ f0 := fun t k => R14 t (by
   refine XS.icmpYes X8.here hx rfl (pc0 := 27) (pc' := 32) rfl (hb hby d13_27) rfl (feq hs1).2 (by decide) (by decide) ?_
   refine XS.iinc X8.here hx rfl (hb hby d13_32) rfl (l' := #[rv b, iv 47, iv 2, iv 1]) rfl ?_
   refine XS.goto X8.here hx rfl (pc0 := 35) (pc' := 18) rfl (hb hby d13_35) (by decide) (by decide) ?_
   refine XS.iloadN X8.here hx rfl (hb hby d13_18) rfl ?_
   refine XS.ifNo X8.here hx rfl (hb hby d13_19) rfl ((if0 _ _).trans (flt (by decide : ¬ ((1 : Int32) < (0 : Int32)))).1) ?_
   refine XS.aloadN X8.here hx rfl (hb hby d13_22) rfl rfl ?_
   refine XS.iloadN X8.here hx rfl (hb hby d13_23) rfl ?_
   exact k)
  obtain ⟨cl17, Ar17, q17, S17, n17_, H17, G17⟩ := id A_b
  have hin17 : ¬ ((1 : Int32) < 0 ∨ cl17.slots.size ≤ ((1 : Int32)).toNatClampNeg) := inb_of S17 ⟨by decide, by decide⟩
  have hat17 : cl17.slots[((1 : Int32)).toNatClampNeg]? = some (.int x1) := Has.at H17 hin17 rfl
  have R18 : own_R p e below T8 (mkF m 25 #[rv b, iv 47, iv 2, iv 1] [(.int x1)]) s₁ f0 := fun t k => R16 t (X8.baloadBytes hx (j := (1 : Int32)) (v := (.int x1)) (by rw [p8_0]; exact Ar17.1) (State.isArrayOf_alike hZ.alike Ar17.2.1) Ar17.2.2 hin17 hat17 (g := (mkF m 24 #[rv b, iv 47, iv 2, iv 1] [(.int 1), (.ref b)])) rfl rfl (hb hby d13_24) _ k)
  have R19 : own_R p e below T8 (mkF m 27 #[rv b, iv 47, iv 2, iv 1] [(.int ((47 : Int32).toInt8.toInt32)), (.int x1)]) s₁ f0 := fun t k => R18 t (by
   refine XS.iloadN X8.here hx rfl (hb hby d13_25) rfl ?_
   refine XS.i2b X8.here hx rfl (hb hby d13_26) rfl ?_
   exact k)
  have R20 : own_R p e below T8 (mkF m 27 #[rv b, iv 47, iv 2, iv 1] [(.int 47), (.int x1)]) s₁ f0 := by have q := R19; rw [((by decide) : ((47 : Int32).toInt8.toInt32) = (47 : Int32))] at q; exact q
  by_cases hs2 : x1 = (47 : Int32)
  ·
   have R21 : own_R p e below T8 (mkF m 31 #[rv b, iv 47, iv 2, iv 1] [(.int 1)]) s₁ f0 := fun t k => R20 t (by
    refine XS.icmpNo X8.here hx rfl (hb hby d13_27) rfl (teq hs2).2 ?_
    refine XS.iloadN X8.here hx rfl (hb hby d13_30) rfl ?_
    exact k)
   obtain ⟨fs, hr, hrun, hended, hW, hsame⟩ := X8.leave (v := some (.int 1)) (fun h => by rw [Bd.returns] at h; cases h)
   refine ⟨_, _, pre0 _ (R21 _ ?_), hrun, hended, _, _, rfl, ?_, ⟨_, rfl⟩, hW, hsame.mono (by decide) (by decide)⟩
   ·
    show own_S p e below T8 (mkF m 31 #[rv b, iv 47, iv 2, iv 1] [(.int 1)]) _
    exact retI X8 hx Bd.returns (hb hby d13_31) hr
   ·
    show (Q_rmI Z (own_li3 x0 x1 x2) h0 n0) _ T8.heap _
    rw [p8_0]
    exact ⟨(by simp [own_li3, hs1, hs2]), N8, rfl⟩
  ·
   have R22 : own_R p e below T8 (mkF m 24 #[rv b, iv 47, iv 2, iv 0] [(.int 0), (.ref b)]) s₁ f0 := fun t k => R20 t (by
    refine XS.icmpYes X8.here hx rfl (pc0 := 27) (pc' := 32) rfl (hb hby d13_27) rfl (feq hs2).2 (by decide) (by decide) ?_
    refine XS.iinc X8.here hx rfl (hb hby d13_32) rfl (l' := #[rv b, iv 47, iv 2, iv 0]) rfl ?_
    refine XS.goto X8.here hx rfl (pc0 := 35) (pc' := 18) rfl (hb hby d13_35) (by decide) (by decide) ?_
    refine XS.iloadN X8.here hx rfl (hb hby d13_18) rfl ?_
    refine XS.ifNo X8.here hx rfl (hb hby d13_19) rfl ((if0 _ _).trans (flt (by decide : ¬ ((0 : Int32) < (0 : Int32)))).1) ?_
    refine XS.aloadN X8.here hx rfl (hb hby d13_22) rfl rfl ?_
    refine XS.iloadN X8.here hx rfl (hb hby d13_23) rfl ?_
    exact k)
   obtain ⟨cl23, Ar23, q23, S23, n23_, H23, G23⟩ := id A_b
   have hin23 : ¬ ((0 : Int32) < 0 ∨ cl23.slots.size ≤ ((0 : Int32)).toNatClampNeg) := inb_of S23 ⟨by decide, by decide⟩
   have hat23 : cl23.slots[((0 : Int32)).toNatClampNeg]? = some (.int x0) := Has.at H23 hin23 rfl
   have R24 : own_R p e below T8 (mkF m 25 #[rv b, iv 47, iv 2, iv 0] [(.int x0)]) s₁ f0 := fun t k => R22 t (X8.baloadBytes hx (j := (0 : Int32)) (v := (.int x0)) (by rw [p8_0]; exact Ar23.1) (State.isArrayOf_alike hZ.alike Ar23.2.1) Ar23.2.2 hin23 hat23 (g := (mkF m 24 #[rv b, iv 47, iv 2, iv 0] [(.int 0), (.ref b)])) rfl rfl (hb hby d13_24) _ k)
   have R25 : own_R p e below T8 (mkF m 27 #[rv b, iv 47, iv 2, iv 0] [(.int ((47 : Int32).toInt8.toInt32)), (.int x0)]) s₁ f0 := fun t k => R24 t (by
    refine XS.iloadN X8.here hx rfl (hb hby d13_25) rfl ?_
    refine XS.i2b X8.here hx rfl (hb hby d13_26) rfl ?_
    exact k)
   have R26 : own_R p e below T8 (mkF m 27 #[rv b, iv 47, iv 2, iv 0] [(.int 47), (.int x0)]) s₁ f0 := by have q := R25; rw [((by decide) : ((47 : Int32).toInt8.toInt32) = (47 : Int32))] at q; exact q
   by_cases hs3 : x0 = (47 : Int32)
   ·
    have R27 : own_R p e below T8 (mkF m 31 #[rv b, iv 47, iv 2, iv 0] [(.int 0)]) s₁ f0 := fun t k => R26 t (by
     refine XS.icmpNo X8.here hx rfl (hb hby d13_27) rfl (teq hs3).2 ?_
     refine XS.iloadN X8.here hx rfl (hb hby d13_30) rfl ?_
     exact k)
    obtain ⟨fs, hr, hrun, hended, hW, hsame⟩ := X8.leave (v := some (.int 0)) (fun h => by rw [Bd.returns] at h; cases h)
    refine ⟨_, _, pre0 _ (R27 _ ?_), hrun, hended, _, _, rfl, ?_, ⟨_, rfl⟩, hW, hsame.mono (by decide) (by decide)⟩
    ·
     show own_S p e below T8 (mkF m 31 #[rv b, iv 47, iv 2, iv 0] [(.int 0)]) _
     exact retI X8 hx Bd.returns (hb hby d13_31) hr
    ·
     show (Q_rmI Z (own_li3 x0 x1 x2) h0 n0) _ T8.heap _
     rw [p8_0]
     exact ⟨(by simp [own_li3, hs1, hs2, hs3]), N8, rfl⟩
   ·
    have R28 : own_R p e below T8 (mkF m 39 #[rv b, iv 47, iv 2, iv (-1)] [(.int (-1))]) s₁ f0 := fun t k => R26 t (by
     refine XS.icmpYes X8.here hx rfl (pc0 := 27) (pc' := 32) rfl (hb hby d13_27) rfl (feq hs3).2 (by decide) (by decide) ?_
     refine XS.iinc X8.here hx rfl (hb hby d13_32) rfl (l' := #[rv b, iv 47, iv 2, iv (-1)]) rfl ?_
     refine XS.goto X8.here hx rfl (pc0 := 35) (pc' := 18) rfl (hb hby d13_35) (by decide) (by decide) ?_
     refine XS.iloadN X8.here hx rfl (hb hby d13_18) rfl ?_
     refine XS.ifYes X8.here hx rfl (pc0 := 19) (pc' := 38) rfl (hb hby d13_19) rfl ((if0 _ _).trans (tlt (by decide : (-1 : Int32) < (0 : Int32))).1) (by decide) (by decide) ?_
     refine XS.iconst X8.here hx rfl (hb hby d13_38) ?_
     exact k)
    obtain ⟨fs, hr, hrun, hended, hW, hsame⟩ := X8.leave (v := some (.int (-1))) (fun h => by rw [Bd.returns] at h; cases h)
    refine ⟨_, _, pre0 _ (R28 _ ?_), hrun, hended, _, _, rfl, ?_, ⟨_, rfl⟩, hW, hsame.mono (by decide) (by decide)⟩
    ·
     show own_S p e below T8 (mkF m 39 #[rv b, iv 47, iv 2, iv (-1)] [(.int (-1))]) _
     exact retI X8 hx Bd.returns (hb hby d13_39) hr
    ·
     show (Q_rmI Z (own_li3 x0 x1 x2) h0 n0) _ T8.heap _
     rw [p8_0]
     exact ⟨(by simp [own_li3, hs1, hs2, hs3]), N8, rfl⟩
theorem ef_rmLli2 (m : MethodId) (x0 : Addr) (x1 : Int32) (x2 : Int32) : entryFrame m #[(.ref x0), (.int x1), (.int x2)] 4 = mkF m 0 #[rv x0, iv x1, iv x2, .unset] [] := by first | (simp [entryFrame, mkF, argsToLocals, Value.category]; done) | rfl
set_option maxRecDepth 65536 in
set_option maxHeartbeats 40000000 in
theorem rmLli2 (l : Launch) (Z : State) (a0 : Array Value) (hw : ∀ d ∈ tables_1, d.before a0 Z = true) (ws : List Jvm.Cond) (b : Addr) (kb : ClassId) (x0 : Int32) (x1 : Int32) (h0 : Heap) (n0 : Nat) (Z0 : n0 ≤ h0.size) (A_b : Arv Z h0 b kb .byte (2 : Int32) [(.int x0), (.int x1)] (.int 0)) :
  own_M l yN4 (Jvm.Cond.code yN4 jdk_43_method_27_code 4 (some .int) :: ws) ({ frames := 1, cells := 0, slots := 0, locals := 13 } : Room) #[(.ref b), (.int 47), (.int 1)] Z h0 (Q_rmI Z (own_li2 x0 x1) h0 n0) := by
 refine MetFree.of_bodySF (plainFor_of_name pn_5) hisR ?_
 intro p e s m args below meth c s₁ Bd hml0 hP hK
 obtain ⟨rfl, hZ, hh⟩ := hP
 have hx := Bd.exec
 have hby := Bd.bytes
 have hml : c.maxLocals = 4 := hml0
 have hown : s.vm.findClass "java/lang/StringLatin1" = some m.cls := findClass_of_methodNamed Bd.named
 have hnm := (name_of_methodNamed Bd.named Bd.method).1
 have X0 : Stand p l e ({ frames := 1, cells := 0, slots := 0, locals := 13 } : Room) s m #[(.ref b), (.int 47), (.int 1)] below meth c s₁ [] 0 0 := Stand.of_body Bd
 have hU : ∀ (i : Nat) (d : Jvm.Cond), tables_1[i]? = some d → d.before a0 Z = true := fun i d h => hw d (List.mem_of_getElem? h)
 have e0 : s₁.heap = h0 := by rw [← hh, Bd.state]; rfl
 have N0 := Fr.nil n0
 obtain ⟨f0, hf0⟩ : ∃ f : JFrame, f = mkF m 0 #[rv b, iv 47, iv 1, .unset] [] := ⟨_, rfl⟩
 have pre0 : ∀ t, own_S p e below s₁ f0 t → Steps p.tables e below (s₁.setTop (entryFrame m #[(.ref b), (.int 47), (.int 1)] 4)) t := fun t k => castTop ((ef_rmLli2 m b (47 : Int32) (1 : Int32)).trans hf0.symm) k
 have R0 : own_R p e below s₁ (mkF m 0 #[rv b, iv 47, iv 1, .unset] []) s₁ f0 := by rw [hf0]; exact fun t k => k
 have R1 : own_R p e below s₁ (mkF m 1 #[rv b, iv 47, iv 1, .unset] [(.int 47)]) s₁ f0 := fun t k => R0 t (by
  refine XS.iloadN X0.here hx rfl (hb hby d13_0) rfl ?_
  exact k)
 obtain ⟨_, _, ⟨T2, L2, k2, n2⟩, -, X2, ⟨Lc2, hQ2, l2, y2, z2⟩, st2⟩ := Jvm.LawKit.callS X0 hx (y := yN16) hown (mvT hZ (hU 75 _ rfl)) (mvT hZ (hU 76 _ rfl)) (mvT hZ (hU 73 _ rfl)) (mvT hZ (hU 77 _ rfl)) (by decide) (backOf (W := 0) (rmCan l Z a0 hw []  h0 n0 Z0) hZ (hU 77 _ rfl) (hU 73 _ rfl) (by decide) (by decide)) (g := (mkF m 1 #[rv b, iv 47, iv 1, .unset] [(.int 47)])) rfl (by rw [hml]; rfl) (argsL := [(.int 47)]) (rest := []) (lenOf pd_18 rfl) rfl (Nat.le_of_eq rfl) (hb hby d13_1) (fun _ _ => ⟨rfl, e0, (by decide : 0 + 0 ≤ _), (by decide : 0 + 0 ≤ _)⟩)
 dsimp only [Pt.U, Pt.locs, Pt.cells, Pt.slots] at X2 l2 y2 z2 st2 hQ2
 subst l2 y2 z2
 obtain ⟨rfl, N2q, p2_0⟩ := hQ2
 have N2 := Fr.app N0 N2q
 have R3 := fun t k => R1 t (st2 t k)
 have R4 : own_R p e below T2 (mkF m 11 #[rv b, iv 47, iv 1, .unset] [(.ref b), (.int 1)]) s₁ f0 := fun t k => R3 t (by
  refine XS.ifYes X2.here hx rfl (pc0 := 4) (pc' := 9) rfl (hb hby d13_4) rfl ((if0 _ _).trans (feq (by decide : ¬ ((1 : Int32) = (0 : Int32)))).2) (by decide) (by decide) ?_
  refine XS.iloadN X2.here hx rfl (hb hby d13_9) rfl ?_
  refine XS.aloadN X2.here hx rfl (hb hby d13_10) rfl rfl ?_
  exact k)
 obtain ⟨cl5, Ar5, -, S5, N5_, -, -⟩ := id A_b
 have R6 : own_R p e below T2 (mkF m 12 #[rv b, iv 47, iv 1, .unset] [(.int 2), (.int 1)]) s₁ f0 := fun t k => R4 t (X2.arraylength hx (by rw [p2_0]; exact Ar5.1) (State.isArrayOf_alike hZ.alike Ar5.2.1) (g := (mkF m 11 #[rv b, iv 47, iv 1, .unset] [(.ref b), (.int 1)])) rfl rfl (hb hby d13_11) _ (by rw [len_of S5 N5_]; exact k))
 have R7 : own_R p e below T2 (mkF m 14 #[rv b, iv 47, iv 1, .unset] [(.int 1), (.int 1)]) s₁ f0 := fun t k => R6 t (by
  refine XS.iconst X2.here hx rfl (hb hby d13_12) ?_
  refine XS.isub X2.here hx rfl (hb hby d13_13) rfl ?_
  exact k)
 obtain ⟨_, _, ⟨T8, L8, k8, n8⟩, -, X8, ⟨Lc8, hQ8, l8, y8, z8⟩, st8⟩ := Jvm.LawKit.callS X2 hx (y := yN8) hown (mvT hZ (hU 78 _ rfl)) (mvT hZ (hU 79 _ rfl)) (mvT hZ (hU 80 _ rfl)) (mvT hZ (hU 81 _ rfl)) (by decide) (backOf (W := 0) (rmMin l Z a0 hw [] (1 : Int32) h0 n0 Z0 (by decide)) hZ (hU 81 _ rfl) (hU 80 _ rfl) (by decide) (by decide)) (g := (mkF m 14 #[rv b, iv 47, iv 1, .unset] [(.int 1), (.int 1)])) rfl (by rw [hml]; rfl) (argsL := [(.int 1), (.int 1)]) (rest := []) (lenOf pd_17 rfl) rfl (Nat.le_of_eq rfl) (hb hby d13_14) (fun _ _ => ⟨rfl, p2_0, (by decide : 0 + 0 ≤ _), (by decide : 0 + 0 ≤ _)⟩)
 dsimp only [Pt.U, Pt.locs, Pt.cells, Pt.slots] at X8 l8 y8 z8 st8 hQ8
 subst l8 y8 z8
 obtain ⟨rfl, N8q, p8_0⟩ := hQ8
 have N8 := Fr.app N2 N8q
 have R9 := fun t k => R7 t (st8 t k)
 have R10 : own_R p e below T8 (mkF m 24 #[rv b, iv 47, iv 1, iv 1] [(.int 1), (.ref b)]) s₁ f0 := fun t k => R9 t (by
  refine XS.istoreN X8.here hx rfl (hb hby d13_17) rfl (l' := #[rv b, iv 47, iv 1, iv 1]) rfl ?_
  refine XS.iloadN X8.here hx rfl (hb hby d13_18) rfl ?_
  refine XS.ifNo X8.here hx rfl (hb hby d13_19) rfl ((if0 _ _).trans (flt (by decide : ¬ ((1 : Int32) < (0 : Int32)))).1) ?_
  refine XS.aloadN X8.here hx rfl (hb hby d13_22) rfl rfl ?_
  refine XS.iloadN X8.here hx rfl (hb hby d13_23) rfl ?_
  exact k)
 obtain ⟨cl11, Ar11, q11, S11, n11_, H11, G11⟩ := id A_b
 have hin11 : ¬ ((1 : Int32) < 0 ∨ cl11.slots.size ≤ ((1 : Int32)).toNatClampNeg) := inb_of S11 ⟨by decide, by decide⟩
 have hat11 : cl11.slots[((1 : Int32)).toNatClampNeg]? = some (.int x1) := Has.at H11 hin11 rfl
 have R12 : own_R p e below T8 (mkF m 25 #[rv b, iv 47, iv 1, iv 1] [(.int x1)]) s₁ f0 := fun t k => R10 t (X8.baloadBytes hx (j := (1 : Int32)) (v := (.int x1)) (by rw [p8_0]; exact Ar11.1) (State.isArrayOf_alike hZ.alike Ar11.2.1) Ar11.2.2 hin11 hat11 (g := (mkF m 24 #[rv b, iv 47, iv 1, iv 1] [(.int 1), (.ref b)])) rfl rfl (hb hby d13_24) _ k)
 have R13 : own_R p e below T8 (mkF m 27 #[rv b, iv 47, iv 1, iv 1] [(.int ((47 : Int32).toInt8.toInt32)), (.int x1)]) s₁ f0 := fun t k => R12 t (by
  refine XS.iloadN X8.here hx rfl (hb hby d13_25) rfl ?_
  refine XS.i2b X8.here hx rfl (hb hby d13_26) rfl ?_
  exact k)
 have R14 : own_R p e below T8 (mkF m 27 #[rv b, iv 47, iv 1, iv 1] [(.int 47), (.int x1)]) s₁ f0 := by have q := R13; rw [((by decide) : ((47 : Int32).toInt8.toInt32) = (47 : Int32))] at q; exact q
 by_cases hs1 : x1 = (47 : Int32)
 ·
  have R15 : own_R p e below T8 (mkF m 31 #[rv b, iv 47, iv 1, iv 1] [(.int 1)]) s₁ f0 := fun t k => R14 t (by
   refine XS.icmpNo X8.here hx rfl (hb hby d13_27) rfl (teq hs1).2 ?_
   refine XS.iloadN X8.here hx rfl (hb hby d13_30) rfl ?_
   exact k)
  obtain ⟨fs, hr, hrun, hended, hW, hsame⟩ := X8.leave (v := some (.int 1)) (fun h => by rw [Bd.returns] at h; cases h)
  refine ⟨_, _, pre0 _ (R15 _ ?_), hrun, hended, _, _, rfl, ?_, ⟨_, rfl⟩, hW, hsame.mono (by decide) (by decide)⟩
  ·
   show own_S p e below T8 (mkF m 31 #[rv b, iv 47, iv 1, iv 1] [(.int 1)]) _
   exact retI X8 hx Bd.returns (hb hby d13_31) hr
  ·
   show (Q_rmI Z (own_li2 x0 x1) h0 n0) _ T8.heap _
   rw [p8_0]
   exact ⟨(by simp [own_li2, hs1]), N8, rfl⟩
 ·
  have R16 : own_R p e below T8 (mkF m 24 #[rv b, iv 47, iv 1, iv 0] [(.int 0), (.ref b)]) s₁ f0 := fun t k => R14 t (by
   refine XS.icmpYes X8.here hx rfl (pc0 := 27) (pc' := 32) rfl (hb hby d13_27) rfl (feq hs1).2 (by decide) (by decide) ?_
   refine XS.iinc X8.here hx rfl (hb hby d13_32) rfl (l' := #[rv b, iv 47, iv 1, iv 0]) rfl ?_
   refine XS.goto X8.here hx rfl (pc0 := 35) (pc' := 18) rfl (hb hby d13_35) (by decide) (by decide) ?_
   refine XS.iloadN X8.here hx rfl (hb hby d13_18) rfl ?_
   refine XS.ifNo X8.here hx rfl (hb hby d13_19) rfl ((if0 _ _).trans (flt (by decide : ¬ ((0 : Int32) < (0 : Int32)))).1) ?_
   refine XS.aloadN X8.here hx rfl (hb hby d13_22) rfl rfl ?_
   refine XS.iloadN X8.here hx rfl (hb hby d13_23) rfl ?_
   exact k)
  obtain ⟨cl17, Ar17, q17, S17, n17_, H17, G17⟩ := id A_b
  have hin17 : ¬ ((0 : Int32) < 0 ∨ cl17.slots.size ≤ ((0 : Int32)).toNatClampNeg) := inb_of S17 ⟨by decide, by decide⟩
  have hat17 : cl17.slots[((0 : Int32)).toNatClampNeg]? = some (.int x0) := Has.at H17 hin17 rfl
  have R18 : own_R p e below T8 (mkF m 25 #[rv b, iv 47, iv 1, iv 0] [(.int x0)]) s₁ f0 := fun t k => R16 t (X8.baloadBytes hx (j := (0 : Int32)) (v := (.int x0)) (by rw [p8_0]; exact Ar17.1) (State.isArrayOf_alike hZ.alike Ar17.2.1) Ar17.2.2 hin17 hat17 (g := (mkF m 24 #[rv b, iv 47, iv 1, iv 0] [(.int 0), (.ref b)])) rfl rfl (hb hby d13_24) _ k)
  have R19 : own_R p e below T8 (mkF m 27 #[rv b, iv 47, iv 1, iv 0] [(.int ((47 : Int32).toInt8.toInt32)), (.int x0)]) s₁ f0 := fun t k => R18 t (by
   refine XS.iloadN X8.here hx rfl (hb hby d13_25) rfl ?_
   refine XS.i2b X8.here hx rfl (hb hby d13_26) rfl ?_
   exact k)
  have R20 : own_R p e below T8 (mkF m 27 #[rv b, iv 47, iv 1, iv 0] [(.int 47), (.int x0)]) s₁ f0 := by have q := R19; rw [((by decide) : ((47 : Int32).toInt8.toInt32) = (47 : Int32))] at q; exact q
  by_cases hs2 : x0 = (47 : Int32)
  ·
   have R21 : own_R p e below T8 (mkF m 31 #[rv b, iv 47, iv 1, iv 0] [(.int 0)]) s₁ f0 := fun t k => R20 t (by
    refine XS.icmpNo X8.here hx rfl (hb hby d13_27) rfl (teq hs2).2 ?_
    refine XS.iloadN X8.here hx rfl (hb hby d13_30) rfl ?_
    exact k)
   obtain ⟨fs, hr, hrun, hended, hW, hsame⟩ := X8.leave (v := some (.int 0)) (fun h => by rw [Bd.returns] at h; cases h)
   refine ⟨_, _, pre0 _ (R21 _ ?_), hrun, hended, _, _, rfl, ?_, ⟨_, rfl⟩, hW, hsame.mono (by decide) (by decide)⟩
   ·
    show own_S p e below T8 (mkF m 31 #[rv b, iv 47, iv 1, iv 0] [(.int 0)]) _
    exact retI X8 hx Bd.returns (hb hby d13_31) hr
   ·
    show (Q_rmI Z (own_li2 x0 x1) h0 n0) _ T8.heap _
    rw [p8_0]
    exact ⟨(by simp [own_li2, hs1, hs2]), N8, rfl⟩
  ·
   have R22 : own_R p e below T8 (mkF m 39 #[rv b, iv 47, iv 1, iv (-1)] [(.int (-1))]) s₁ f0 := fun t k => R20 t (by
    refine XS.icmpYes X8.here hx rfl (pc0 := 27) (pc' := 32) rfl (hb hby d13_27) rfl (feq hs2).2 (by decide) (by decide) ?_
    refine XS.iinc X8.here hx rfl (hb hby d13_32) rfl (l' := #[rv b, iv 47, iv 1, iv (-1)]) rfl ?_
    refine XS.goto X8.here hx rfl (pc0 := 35) (pc' := 18) rfl (hb hby d13_35) (by decide) (by decide) ?_
    refine XS.iloadN X8.here hx rfl (hb hby d13_18) rfl ?_
    refine XS.ifYes X8.here hx rfl (pc0 := 19) (pc' := 38) rfl (hb hby d13_19) rfl ((if0 _ _).trans (tlt (by decide : (-1 : Int32) < (0 : Int32))).1) (by decide) (by decide) ?_
    refine XS.iconst X8.here hx rfl (hb hby d13_38) ?_
    exact k)
   obtain ⟨fs, hr, hrun, hended, hW, hsame⟩ := X8.leave (v := some (.int (-1))) (fun h => by rw [Bd.returns] at h; cases h)
   refine ⟨_, _, pre0 _ (R22 _ ?_), hrun, hended, _, _, rfl, ?_, ⟨_, rfl⟩, hW, hsame.mono (by decide) (by decide)⟩
   ·
    show own_S p e below T8 (mkF m 39 #[rv b, iv 47, iv 1, iv (-1)] [(.int (-1))]) _
    exact retI X8 hx Bd.returns (hb hby d13_39) hr
   ·
    show (Q_rmI Z (own_li2 x0 x1) h0 n0) _ T8.heap _
    rw [p8_0]
    exact ⟨(by simp [own_li2, hs1, hs2]), N8, rfl⟩
theorem ef_rmLli1 (m : MethodId) (x0 : Addr) (x1 : Int32) (x2 : Int32) : entryFrame m #[(.ref x0), (.int x1), (.int x2)] 4 = mkF m 0 #[rv x0, iv x1, iv x2, .unset] [] := by first | (simp [entryFrame, mkF, argsToLocals, Value.category]; done) | rfl
set_option maxRecDepth 65536 in
set_option maxHeartbeats 40000000 in
theorem rmLli1 (l : Launch) (Z : State) (a0 : Array Value) (hw : ∀ d ∈ tables_1, d.before a0 Z = true) (ws : List Jvm.Cond) (b : Addr) (kb : ClassId) (x0 : Int32) (h0 : Heap) (n0 : Nat) (Z0 : n0 ≤ h0.size) (A_b : Arv Z h0 b kb .byte (1 : Int32) [(.int x0)] (.int 0)) :
  own_M l yN4 (Jvm.Cond.code yN4 jdk_43_method_27_code 4 (some .int) :: ws) ({ frames := 1, cells := 0, slots := 0, locals := 13 } : Room) #[(.ref b), (.int 47), (.int 0)] Z h0 (Q_rmI Z (own_li1 x0) h0 n0) := by
 refine MetFree.of_bodySF (plainFor_of_name pn_5) hisR ?_
 intro p e s m args below meth c s₁ Bd hml0 hP hK
 obtain ⟨rfl, hZ, hh⟩ := hP
 have hx := Bd.exec
 have hby := Bd.bytes
 have hml : c.maxLocals = 4 := hml0
 have hown : s.vm.findClass "java/lang/StringLatin1" = some m.cls := findClass_of_methodNamed Bd.named
 have hnm := (name_of_methodNamed Bd.named Bd.method).1
 have X0 : Stand p l e ({ frames := 1, cells := 0, slots := 0, locals := 13 } : Room) s m #[(.ref b), (.int 47), (.int 0)] below meth c s₁ [] 0 0 := Stand.of_body Bd
 have hU : ∀ (i : Nat) (d : Jvm.Cond), tables_1[i]? = some d → d.before a0 Z = true := fun i d h => hw d (List.mem_of_getElem? h)
 have e0 : s₁.heap = h0 := by rw [← hh, Bd.state]; rfl
 have N0 := Fr.nil n0
 obtain ⟨f0, hf0⟩ : ∃ f : JFrame, f = mkF m 0 #[rv b, iv 47, iv 0, .unset] [] := ⟨_, rfl⟩
 have pre0 : ∀ t, own_S p e below s₁ f0 t → Steps p.tables e below (s₁.setTop (entryFrame m #[(.ref b), (.int 47), (.int 0)] 4)) t := fun t k => castTop ((ef_rmLli1 m b (47 : Int32) (0 : Int32)).trans hf0.symm) k
 have R0 : own_R p e below s₁ (mkF m 0 #[rv b, iv 47, iv 0, .unset] []) s₁ f0 := by rw [hf0]; exact fun t k => k
 have R1 : own_R p e below s₁ (mkF m 1 #[rv b, iv 47, iv 0, .unset] [(.int 47)]) s₁ f0 := fun t k => R0 t (by
  refine XS.iloadN X0.here hx rfl (hb hby d13_0) rfl ?_
  exact k)
 obtain ⟨_, _, ⟨T2, L2, k2, n2⟩, -, X2, ⟨Lc2, hQ2, l2, y2, z2⟩, st2⟩ := Jvm.LawKit.callS X0 hx (y := yN16) hown (mvT hZ (hU 75 _ rfl)) (mvT hZ (hU 76 _ rfl)) (mvT hZ (hU 73 _ rfl)) (mvT hZ (hU 77 _ rfl)) (by decide) (backOf (W := 0) (rmCan l Z a0 hw []  h0 n0 Z0) hZ (hU 77 _ rfl) (hU 73 _ rfl) (by decide) (by decide)) (g := (mkF m 1 #[rv b, iv 47, iv 0, .unset] [(.int 47)])) rfl (by rw [hml]; rfl) (argsL := [(.int 47)]) (rest := []) (lenOf pd_18 rfl) rfl (Nat.le_of_eq rfl) (hb hby d13_1) (fun _ _ => ⟨rfl, e0, (by decide : 0 + 0 ≤ _), (by decide : 0 + 0 ≤ _)⟩)
 dsimp only [Pt.U, Pt.locs, Pt.cells, Pt.slots] at X2 l2 y2 z2 st2 hQ2
 subst l2 y2 z2
 obtain ⟨rfl, N2q, p2_0⟩ := hQ2
 have N2 := Fr.app N0 N2q
 have R3 := fun t k => R1 t (st2 t k)
 have R4 : own_R p e below T2 (mkF m 11 #[rv b, iv 47, iv 0, .unset] [(.ref b), (.int 0)]) s₁ f0 := fun t k => R3 t (by
  refine XS.ifYes X2.here hx rfl (pc0 := 4) (pc' := 9) rfl (hb hby d13_4) rfl ((if0 _ _).trans (feq (by decide : ¬ ((1 : Int32) = (0 : Int32)))).2) (by decide) (by decide) ?_
  refine XS.iloadN X2.here hx rfl (hb hby d13_9) rfl ?_
  refine XS.aloadN X2.here hx rfl (hb hby d13_10) rfl rfl ?_
  exact k)
 obtain ⟨cl5, Ar5, -, S5, N5_, -, -⟩ := id A_b
 have R6 : own_R p e below T2 (mkF m 12 #[rv b, iv 47, iv 0, .unset] [(.int 1), (.int 0)]) s₁ f0 := fun t k => R4 t (X2.arraylength hx (by rw [p2_0]; exact Ar5.1) (State.isArrayOf_alike hZ.alike Ar5.2.1) (g := (mkF m 11 #[rv b, iv 47, iv 0, .unset] [(.ref b), (.int 0)])) rfl rfl (hb hby d13_11) _ (by rw [len_of S5 N5_]; exact k))
 have R7 : own_R p e below T2 (mkF m 14 #[rv b, iv 47, iv 0, .unset] [(.int 0), (.int 0)]) s₁ f0 := fun t k => R6 t (by
  refine XS.iconst X2.here hx rfl (hb hby d13_12) ?_
  refine XS.isub X2.here hx rfl (hb hby d13_13) rfl ?_
  exact k)
 obtain ⟨_, _, ⟨T8, L8, k8, n8⟩, -, X8, ⟨Lc8, hQ8, l8, y8, z8⟩, st8⟩ := Jvm.LawKit.callS X2 hx (y := yN8) hown (mvT hZ (hU 78 _ rfl)) (mvT hZ (hU 79 _ rfl)) (mvT hZ (hU 80 _ rfl)) (mvT hZ (hU 81 _ rfl)) (by decide) (backOf (W := 0) (rmMin l Z a0 hw [] (0 : Int32) h0 n0 Z0 (by decide)) hZ (hU 81 _ rfl) (hU 80 _ rfl) (by decide) (by decide)) (g := (mkF m 14 #[rv b, iv 47, iv 0, .unset] [(.int 0), (.int 0)])) rfl (by rw [hml]; rfl) (argsL := [(.int 0), (.int 0)]) (rest := []) (lenOf pd_17 rfl) rfl (Nat.le_of_eq rfl) (hb hby d13_14) (fun _ _ => ⟨rfl, p2_0, (by decide : 0 + 0 ≤ _), (by decide : 0 + 0 ≤ _)⟩)
 dsimp only [Pt.U, Pt.locs, Pt.cells, Pt.slots] at X8 l8 y8 z8 st8 hQ8
 subst l8 y8 z8
 obtain ⟨rfl, N8q, p8_0⟩ := hQ8
 have N8 := Fr.app N2 N8q
 have R9 := fun t k => R7 t (st8 t k)
 have R10 : own_R p e below T8 (mkF m 24 #[rv b, iv 47, iv 0, iv 0] [(.int 0), (.ref b)]) s₁ f0 := fun t k => R9 t (by
  refine XS.istoreN X8.here hx rfl (hb hby d13_17) rfl (l' := #[rv b, iv 47, iv 0, iv 0]) rfl ?_
  refine XS.iloadN X8.here hx rfl (hb hby d13_18) rfl ?_
  refine XS.ifNo X8.here hx rfl (hb hby d13_19) rfl ((if0 _ _).trans (flt (by decide : ¬ ((0 : Int32) < (0 : Int32)))).1) ?_
  refine XS.aloadN X8.here hx rfl (hb hby d13_22) rfl rfl ?_
  refine XS.iloadN X8.here hx rfl (hb hby d13_23) rfl ?_
  exact k)
 obtain ⟨cl11, Ar11, q11, S11, n11_, H11, G11⟩ := id A_b
 have hin11 : ¬ ((0 : Int32) < 0 ∨ cl11.slots.size ≤ ((0 : Int32)).toNatClampNeg) := inb_of S11 ⟨by decide, by decide⟩
 have hat11 : cl11.slots[((0 : Int32)).toNatClampNeg]? = some (.int x0) := Has.at H11 hin11 rfl
 have R12 : own_R p e below T8 (mkF m 25 #[rv b, iv 47, iv 0, iv 0] [(.int x0)]) s₁ f0 := fun t k => R10 t (X8.baloadBytes hx (j := (0 : Int32)) (v := (.int x0)) (by rw [p8_0]; exact Ar11.1) (State.isArrayOf_alike hZ.alike Ar11.2.1) Ar11.2.2 hin11 hat11 (g := (mkF m 24 #[rv b, iv 47, iv 0, iv 0] [(.int 0), (.ref b)])) rfl rfl (hb hby d13_24) _ k)
 have R13 : own_R p e below T8 (mkF m 27 #[rv b, iv 47, iv 0, iv 0] [(.int ((47 : Int32).toInt8.toInt32)), (.int x0)]) s₁ f0 := fun t k => R12 t (by
  refine XS.iloadN X8.here hx rfl (hb hby d13_25) rfl ?_
  refine XS.i2b X8.here hx rfl (hb hby d13_26) rfl ?_
  exact k)
 have R14 : own_R p e below T8 (mkF m 27 #[rv b, iv 47, iv 0, iv 0] [(.int 47), (.int x0)]) s₁ f0 := by have q := R13; rw [((by decide) : ((47 : Int32).toInt8.toInt32) = (47 : Int32))] at q; exact q
 by_cases hs1 : x0 = (47 : Int32)
 ·
  have R15 : own_R p e below T8 (mkF m 31 #[rv b, iv 47, iv 0, iv 0] [(.int 0)]) s₁ f0 := fun t k => R14 t (by
   refine XS.icmpNo X8.here hx rfl (hb hby d13_27) rfl (teq hs1).2 ?_
   refine XS.iloadN X8.here hx rfl (hb hby d13_30) rfl ?_
   exact k)
  obtain ⟨fs, hr, hrun, hended, hW, hsame⟩ := X8.leave (v := some (.int 0)) (fun h => by rw [Bd.returns] at h; cases h)
  refine ⟨_, _, pre0 _ (R15 _ ?_), hrun, hended, _, _, rfl, ?_, ⟨_, rfl⟩, hW, hsame.mono (by decide) (by decide)⟩
  ·
   show own_S p e below T8 (mkF m 31 #[rv b, iv 47, iv 0, iv 0] [(.int 0)]) _
   exact retI X8 hx Bd.returns (hb hby d13_31) hr
  ·
   show (Q_rmI Z (own_li1 x0) h0 n0) _ T8.heap _
   rw [p8_0]
   exact ⟨(by simp [own_li1, hs1]), N8, rfl⟩
 ·
  have R16 : own_R p e below T8 (mkF m 39 #[rv b, iv 47, iv 0, iv (-1)] [(.int (-1))]) s₁ f0 := fun t k => R14 t (by
   refine XS.icmpYes X8.here hx rfl (pc0 := 27) (pc' := 32) rfl (hb hby d13_27) rfl (feq hs1).2 (by decide) (by decide) ?_
   refine XS.iinc X8.here hx rfl (hb hby d13_32) rfl (l' := #[rv b, iv 47, iv 0, iv (-1)]) rfl ?_
   refine XS.goto X8.here hx rfl (pc0 := 35) (pc' := 18) rfl (hb hby d13_35) (by decide) (by decide) ?_
   refine XS.iloadN X8.here hx rfl (hb hby d13_18) rfl ?_
   refine XS.ifYes X8.here hx rfl (pc0 := 19) (pc' := 38) rfl (hb hby d13_19) rfl ((if0 _ _).trans (tlt (by decide : (-1 : Int32) < (0 : Int32))).1) (by decide) (by decide) ?_
   refine XS.iconst X8.here hx rfl (hb hby d13_38) ?_
   exact k)
  obtain ⟨fs, hr, hrun, hended, hW, hsame⟩ := X8.leave (v := some (.int (-1))) (fun h => by rw [Bd.returns] at h; cases h)
  refine ⟨_, _, pre0 _ (R16 _ ?_), hrun, hended, _, _, rfl, ?_, ⟨_, rfl⟩, hW, hsame.mono (by decide) (by decide)⟩
  ·
   show own_S p e below T8 (mkF m 39 #[rv b, iv 47, iv 0, iv (-1)] [(.int (-1))]) _
   exact retI X8 hx Bd.returns (hb hby d13_39) hr
  ·
   show (Q_rmI Z (own_li1 x0) h0 n0) _ T8.heap _
   rw [p8_0]
   exact ⟨(by simp [own_li1, hs1]), N8, rfl⟩
theorem ef_rmLli0 (m : MethodId) (x0 : Addr) (x1 : Int32) (x2 : Int32) : entryFrame m #[(.ref x0), (.int x1), (.int x2)] 4 = mkF m 0 #[rv x0, iv x1, iv x2, .unset] [] := by first | (simp [entryFrame, mkF, argsToLocals, Value.category]; done) | rfl
set_option maxRecDepth 65536 in
set_option maxHeartbeats 40000000 in
theorem rmLli0 (l : Launch) (Z : State) (a0 : Array Value) (hw : ∀ d ∈ tables_1, d.before a0 Z = true) (ws : List Jvm.Cond) (b : Addr) (kb : ClassId) (h0 : Heap) (n0 : Nat) (Z0 : n0 ≤ h0.size) (A_b : Arv Z h0 b kb .byte (0 : Int32) [] (.int 0)) :
  own_M l yN4 (Jvm.Cond.code yN4 jdk_43_method_27_code 4 (some .int) :: ws) ({ frames := 1, cells := 0, slots := 0, locals := 13 } : Room) #[(.ref b), (.int 47), (.int (-1))] Z h0 (Q_rmI Z (own_li0 ) h0 n0) := by
 refine MetFree.of_bodySF (plainFor_of_name pn_5) hisR ?_
 intro p e s m args below meth c s₁ Bd hml0 hP hK
 obtain ⟨rfl, hZ, hh⟩ := hP
 have hx := Bd.exec
 have hby := Bd.bytes
 have hml : c.maxLocals = 4 := hml0
 have hown : s.vm.findClass "java/lang/StringLatin1" = some m.cls := findClass_of_methodNamed Bd.named
 have hnm := (name_of_methodNamed Bd.named Bd.method).1
 have X0 : Stand p l e ({ frames := 1, cells := 0, slots := 0, locals := 13 } : Room) s m #[(.ref b), (.int 47), (.int (-1))] below meth c s₁ [] 0 0 := Stand.of_body Bd
 have hU : ∀ (i : Nat) (d : Jvm.Cond), tables_1[i]? = some d → d.before a0 Z = true := fun i d h => hw d (List.mem_of_getElem? h)
 have e0 : s₁.heap = h0 := by rw [← hh, Bd.state]; rfl
 have N0 := Fr.nil n0
 obtain ⟨f0, hf0⟩ : ∃ f : JFrame, f = mkF m 0 #[rv b, iv 47, iv (-1), .unset] [] := ⟨_, rfl⟩
 have pre0 : ∀ t, own_S p e below s₁ f0 t → Steps p.tables e below (s₁.setTop (entryFrame m #[(.ref b), (.int 47), (.int (-1))] 4)) t := fun t k => castTop ((ef_rmLli0 m b (47 : Int32) (-1 : Int32)).trans hf0.symm) k
 have R0 : own_R p e below s₁ (mkF m 0 #[rv b, iv 47, iv (-1), .unset] []) s₁ f0 := by rw [hf0]; exact fun t k => k
 have R1 : own_R p e below s₁ (mkF m 1 #[rv b, iv 47, iv (-1), .unset] [(.int 47)]) s₁ f0 := fun t k => R0 t (by
  refine XS.iloadN X0.here hx rfl (hb hby d13_0) rfl ?_
  exact k)
 obtain ⟨_, _, ⟨T2, L2, k2, n2⟩, -, X2, ⟨Lc2, hQ2, l2, y2, z2⟩, st2⟩ := Jvm.LawKit.callS X0 hx (y := yN16) hown (mvT hZ (hU 75 _ rfl)) (mvT hZ (hU 76 _ rfl)) (mvT hZ (hU 73 _ rfl)) (mvT hZ (hU 77 _ rfl)) (by decide) (backOf (W := 0) (rmCan l Z a0 hw []  h0 n0 Z0) hZ (hU 77 _ rfl) (hU 73 _ rfl) (by decide) (by decide)) (g := (mkF m 1 #[rv b, iv 47, iv (-1), .unset] [(.int 47)])) rfl (by rw [hml]; rfl) (argsL := [(.int 47)]) (rest := []) (lenOf pd_18 rfl) rfl (Nat.le_of_eq rfl) (hb hby d13_1) (fun _ _ => ⟨rfl, e0, (by decide : 0 + 0 ≤ _), (by decide : 0 + 0 ≤ _)⟩)
 dsimp only [Pt.U, Pt.locs, Pt.cells, Pt.slots] at X2 l2 y2 z2 st2 hQ2
 subst l2 y2 z2
 obtain ⟨rfl, N2q, p2_0⟩ := hQ2
 have N2 := Fr.app N0 N2q
 have R3 := fun t k => R1 t (st2 t k)
 have R4 : own_R p e below T2 (mkF m 11 #[rv b, iv 47, iv (-1), .unset] [(.ref b), (.int (-1))]) s₁ f0 := fun t k => R3 t (by
  refine XS.ifYes X2.here hx rfl (pc0 := 4) (pc' := 9) rfl (hb hby d13_4) rfl ((if0 _ _).trans (feq (by decide : ¬ ((1 : Int32) = (0 : Int32)))).2) (by decide) (by decide) ?_
  refine XS.iloadN X2.here hx rfl (hb hby d13_9) rfl ?_
  refine XS.aloadN X2.here hx rfl (hb hby d13_10) rfl rfl ?_
  exact k)
 obtain ⟨cl5, Ar5, -, S5, N5_, -, -⟩ := id A_b
 have R6 : own_R p e below T2 (mkF m 12 #[rv b, iv 47, iv (-1), .unset] [(.int 0), (.int (-1))]) s₁ f0 := fun t k => R4 t (X2.arraylength hx (by rw [p2_0]; exact Ar5.1) (State.isArrayOf_alike hZ.alike Ar5.2.1) (g := (mkF m 11 #[rv b, iv 47, iv (-1), .unset] [(.ref b), (.int (-1))])) rfl rfl (hb hby d13_11) _ (by rw [len_of S5 N5_]; exact k))
 have R7 : own_R p e below T2 (mkF m 14 #[rv b, iv 47, iv (-1), .unset] [(.int (-1)), (.int (-1))]) s₁ f0 := fun t k => R6 t (by
  refine XS.iconst X2.here hx rfl (hb hby d13_12) ?_
  refine XS.isub X2.here hx rfl (hb hby d13_13) rfl ?_
  exact k)
 obtain ⟨_, _, ⟨T8, L8, k8, n8⟩, -, X8, ⟨Lc8, hQ8, l8, y8, z8⟩, st8⟩ := Jvm.LawKit.callS X2 hx (y := yN8) hown (mvT hZ (hU 78 _ rfl)) (mvT hZ (hU 79 _ rfl)) (mvT hZ (hU 80 _ rfl)) (mvT hZ (hU 81 _ rfl)) (by decide) (backOf (W := 0) (rmMin l Z a0 hw [] (-1 : Int32) h0 n0 Z0 (by decide)) hZ (hU 81 _ rfl) (hU 80 _ rfl) (by decide) (by decide)) (g := (mkF m 14 #[rv b, iv 47, iv (-1), .unset] [(.int (-1)), (.int (-1))])) rfl (by rw [hml]; rfl) (argsL := [(.int (-1)), (.int (-1))]) (rest := []) (lenOf pd_17 rfl) rfl (Nat.le_of_eq rfl) (hb hby d13_14) (fun _ _ => ⟨rfl, p2_0, (by decide : 0 + 0 ≤ _), (by decide : 0 + 0 ≤ _)⟩)
 dsimp only [Pt.U, Pt.locs, Pt.cells, Pt.slots] at X8 l8 y8 z8 st8 hQ8
 subst l8 y8 z8
 obtain ⟨rfl, N8q, p8_0⟩ := hQ8
 have N8 := Fr.app N2 N8q
 have R9 := fun t k => R7 t (st8 t k)
 have R10 : own_R p e below T8 (mkF m 39 #[rv b, iv 47, iv (-1), iv (-1)] [(.int (-1))]) s₁ f0 := fun t k => R9 t (by
  refine XS.istoreN X8.here hx rfl (hb hby d13_17) rfl (l' := #[rv b, iv 47, iv (-1), iv (-1)]) rfl ?_
  refine XS.iloadN X8.here hx rfl (hb hby d13_18) rfl ?_
  refine XS.ifYes X8.here hx rfl (pc0 := 19) (pc' := 38) rfl (hb hby d13_19) rfl ((if0 _ _).trans (tlt (by decide : (-1 : Int32) < (0 : Int32))).1) (by decide) (by decide) ?_
  refine XS.iconst X8.here hx rfl (hb hby d13_38) ?_
  exact k)
 obtain ⟨fs, hr, hrun, hended, hW, hsame⟩ := X8.leave (v := some (.int (-1))) (fun h => by rw [Bd.returns] at h; cases h)
 refine ⟨_, _, pre0 _ (R10 _ ?_), hrun, hended, _, _, rfl, ?_, ⟨_, rfl⟩, hW, hsame.mono (by decide) (by decide)⟩
 ·
  show own_S p e below T8 (mkF m 39 #[rv b, iv 47, iv (-1), iv (-1)] [(.int (-1))]) _
  exact retI X8 hx Bd.returns (hb hby d13_39) hr
 ·
  show (Q_rmI Z (own_li0 ) h0 n0) _ T8.heap _
  rw [p8_0]
  exact ⟨(by simp [own_li0]), N8, rfl⟩
theorem ef_rmLii (m : MethodId) (x0 : Addr) (x1 : Int32) (x2 : Int32) : entryFrame m #[(.ref x0), (.int x1), (.int x2)] 3 = mkF m 0 #[rv x0, iv x1, iv x2] [] := by first | (simp [entryFrame, mkF, argsToLocals, Value.category]; done) | rfl
set_option maxRecDepth 65536 in
set_option maxHeartbeats 40000000 in
theorem rmLii (l : Launch) (Z : State) (a0 : Array Value) (hw : ∀ d ∈ tables_1, d.before a0 Z = true) (ws : List Jvm.Cond) (a1 : Addr) (b : Addr) (kb : ClassId) (z : Int32) (vs : List Value) (cs : Int32) (p3 : Int32) (kk : Int32) (h0 : Heap) (n0 : Nat) (Z0 : n0 ≤ h0.size) (E_a1 : Exa Z h0 a1 "java/lang/String") (F_coder_a1 : Fld Z h0 a1 "java/lang/String" "coder" "B" (.int 0)) (F_value_a1 : Fld Z h0 a1 "java/lang/String" "value" "[B" (.ref b)) (A_b : Arv Z h0 b kb .byte z vs (.int 0)) (S_String_COMPACT_STRINGS : Sta Z h0 "java/lang/String" "COMPACT_STRINGS" "Z" (.int cs)) (hcs : ¬ cs = (0 : Int32)) (hL : own_M l yN4 [Jvm.Cond.code yN4 jdk_43_method_27_code 4 (some .int)] ({ frames := 1, cells := 0, slots := 0, locals := 13 } : Room) #[(.ref b), (.int 47), (.int p3)] Z h0 (Q_rmI Z kk h0 n0)) :
  own_M l yN24 (Jvm.Cond.code yN24 jdk_42_method_83_code 3 (some .int) :: ws) ({ frames := 2, cells := 0, slots := 0, locals := 28 } : Room) #[(.ref a1), (.int 47), (.int p3)] Z h0 (Q_rmI Z kk h0 n0) := by
 refine MetFree.of_bodySF (plainFor_of_name pn_1) hisR ?_
 intro p e s m args below meth c s₁ Bd hml0 hP hK
 obtain ⟨rfl, hZ, hh⟩ := hP
 have hx := Bd.exec
 have hby := Bd.bytes
 have hml : c.maxLocals = 3 := hml0
 have hown : s.vm.findClass "java/lang/String" = some m.cls := findClass_of_methodNamed Bd.named
 have hnm := (name_of_methodNamed Bd.named Bd.method).1
 have X0 : Stand p l e ({ frames := 2, cells := 0, slots := 0, locals := 28 } : Room) s m #[(.ref a1), (.int 47), (.int p3)] below meth c s₁ [] 0 0 := Stand.of_body Bd
 have hU : ∀ (i : Nat) (d : Jvm.Cond), tables_1[i]? = some d → d.before a0 Z = true := fun i d h => hw d (List.mem_of_getElem? h)
 have e0 : s₁.heap = h0 := by rw [← hh, Bd.state]; rfl
 have N0 := Fr.nil n0
 obtain ⟨f0, hf0⟩ : ∃ f : JFrame, f = mkF m 0 #[rv a1, iv 47, iv p3] [] := ⟨_, rfl⟩
 have pre0 : ∀ t, own_S p e below s₁ f0 t → Steps p.tables e below (s₁.setTop (entryFrame m #[(.ref a1), (.int 47), (.int p3)] 3)) t := fun t k => castTop ((ef_rmLii m a1 (47 : Int32) p3).trans hf0.symm) k
 have R0 : own_R p e below s₁ (mkF m 0 #[rv a1, iv 47, iv p3] []) s₁ f0 := by rw [hf0]; exact fun t k => k
 have R1 : own_R p e below s₁ (mkF m 1 #[rv a1, iv 47, iv p3] [(.ref a1)]) s₁ f0 := fun t k => R0 t (by
  refine XS.aloadN X0.here hx rfl (hb hby d11_0) rfl rfl ?_
  exact k)
 obtain ⟨cq2, kq2, q2a, q2b, q2c⟩ := isOf hZ e0 E_a1
 obtain ⟨_, _, ⟨T2, L2, k2, n2⟩, -, X2, ⟨Lc2, hQ2, l2, y2, z2⟩, st2⟩ := X0.virtualBack hx (y := yN12) (z := yN12) hown (mvT hZ (hU 66 _ rfl)) (mvT hZ (hU 67 _ rfl)) (notFace_of_selects (args := #[]) (mvT hZ (hU 69 _ rfl))) (mvT hZ (hU 69 _ rfl)) (mvT hZ (hU 68 _ rfl)) (by decide) (backOf (W := 0) (rmLat l Z a0 hw [] a1 cs h0 n0 Z0 S_String_COMPACT_STRINGS hcs F_coder_a1) hZ (hU 70 _ rfl) (hU 7 _ rfl) (by decide) (by decide)) q2a q2c (g := (mkF m 1 #[rv a1, iv 47, iv p3] [(.ref a1)])) rfl (by rw [hml]; rfl) (Steps.refl _) (argsL := []) (rest := []) (lenOf pd_7 rfl) rfl (Nat.le_of_eq rfl) (hb hby d11_1) (fun _ _ => ⟨rfl, e0, (by decide : 0 + 0 ≤ _), (by decide : 0 + 0 ≤ _)⟩)
 dsimp only [Pt.U, Pt.locs, Pt.cells, Pt.slots] at X2 l2 y2 z2 st2 hQ2
 subst l2 y2 z2
 obtain ⟨rfl, N2q, p2_0⟩ := hQ2
 have N2 := Fr.app N0 N2q
 have R3 := fun t k => R1 t (st2.trans k)
 have R4 : own_R p e below T2 (mkF m 8 #[rv a1, iv 47, iv p3] [(.ref a1)]) s₁ f0 := fun t k => R3 t (by
  refine XS.ifNo X2.here hx rfl (hb hby d11_4) rfl ((if0 _ _).trans (feq (by decide : ¬ ((1 : Int32) = (0 : Int32)))).1) ?_
  refine XS.aloadN X2.here hx rfl (hb hby d11_7) rfl rfl ?_
  exact k)
 obtain ⟨T5, X5, e5, R6⟩ := own_gF R4 X2 hx hZ hown (host := "") (Or.inl (hU 27 _ rfl)) Via.refl p2_0 F_value_a1 rfl rfl (hb hby d11_8)
 have R7 : own_R p e below T5 (mkF m 13 #[rv a1, iv 47, iv p3] [(.int p3), (.int 47), (.ref b)]) s₁ f0 := fun t k => R6 t (by
  refine XS.iloadN X5.here hx rfl (hb hby d11_11) rfl ?_
  refine XS.iloadN X5.here hx rfl (hb hby d11_12) rfl ?_
  exact k)
 obtain ⟨_, _, ⟨T8, L8, k8, n8⟩, -, X8, ⟨Lc8, hQ8, l8, y8, z8⟩, st8⟩ := Jvm.LawKit.callS X5 hx (y := yN4) hown (mvT hZ (hU 71 _ rfl)) (mvT hZ (hU 72 _ rfl)) (mvT hZ (hU 73 _ rfl)) (mvT hZ (hU 74 _ rfl)) (by decide) (backOf (W := 0) hL hZ (hU 74 _ rfl) (hU 73 _ rfl) (by decide) (by decide)) (g := (mkF m 13 #[rv a1, iv 47, iv p3] [(.int p3), (.int 47), (.ref b)])) rfl (by rw [hml]; rfl) (argsL := [(.ref b), (.int 47), (.int p3)]) (rest := []) (lenOf pd_19 rfl) rfl (Nat.le_of_eq rfl) (hb hby d11_13) (fun _ _ => ⟨rfl, e5, (by decide : 0 + 0 ≤ _), (by decide : 0 + 0 ≤ _)⟩)
 dsimp only [Pt.U, Pt.locs, Pt.cells, Pt.slots] at X8 l8 y8 z8 st8 hQ8
 subst l8 y8 z8
 obtain ⟨rfl, N8q, p8_0⟩ := hQ8
 have N8 := Fr.app N2 N8q
 have R9 := fun t k => R7 t (st8 t k)
 have R10 : own_R p e below T8 (mkF m 28 #[rv a1, iv 47, iv p3] [(.int kk)]) s₁ f0 := fun t k => R9 t (by
  refine XS.goto X8.here hx rfl (pc0 := 16) (pc' := 28) rfl (hb hby d11_16) (by decide) (by decide) ?_
  exact k)
 obtain ⟨fs, hr, hrun, hended, hW, hsame⟩ := X8.leave (v := some (.int kk)) (fun h => by rw [Bd.returns] at h; cases h)
 refine ⟨_, _, pre0 _ (R10 _ ?_), hrun, hended, _, _, rfl, ?_, ⟨_, rfl⟩, hW, hsame.mono (by decide) (by decide)⟩
 ·
  show own_S p e below T8 (mkF m 28 #[rv a1, iv 47, iv p3] [(.int kk)]) _
  exact retI X8 hx Bd.returns (hb hby d11_28) hr
 ·
  show (Q_rmI Z kk h0 n0) _ T8.heap _
  rw [p8_0]
  exact ⟨rfl, N8, rfl⟩
theorem ef_rmLix (m : MethodId) (x0 : Addr) (x1 : Int32) : entryFrame m #[(.ref x0), (.int x1)] 2 = mkF m 0 #[rv x0, iv x1] [] := by first | (simp [entryFrame, mkF, argsToLocals, Value.category]; done) | rfl
set_option maxRecDepth 65536 in
set_option maxHeartbeats 40000000 in
theorem rmLix (l : Launch) (Z : State) (a0 : Array Value) (hw : ∀ d ∈ tables_1, d.before a0 Z = true) (ws : List Jvm.Cond) (a1 : Addr) (b : Addr) (kb : ClassId) (z : Int32) (vs : List Value) (cs : Int32) (p3 : Int32) (kk : Int32) (h0 : Heap) (n0 : Nat) (Z0 : n0 ≤ h0.size) (E_a1 : Exa Z h0 a1 "java/lang/String") (F_coder_a1 : Fld Z h0 a1 "java/lang/String" "coder" "B" (.int 0)) (F_value_a1 : Fld Z h0 a1 "java/lang/String" "value" "[B" (.ref b)) (A_b : Arv Z h0 b kb .byte z vs (.int 0)) (S_String_COMPACT_STRINGS : Sta Z h0 "java/lang/String" "COMPACT_STRINGS" "Z" (.int cs)) (hcs : ¬ cs = (0 : Int32)) (he : z - (1 : Int32) = p3) (hL : own_M l yN4 [Jvm.Cond.code yN4 jdk_43_method_27_code 4 (some .int)] ({ frames := 1, cells := 0, slots := 0, locals := 13 } : Room) #[(.ref b), (.int 47), (.int p3)] Z h0 (Q_rmI Z kk h0 n0)) :
  own_M l yN15 (Jvm.Cond.code yN15 jdk_42_method_82_code 2 (some .int) :: ws) ({ frames := 3, cells := 0, slots := 0, locals := 42 } : Room) #[(.ref a1), (.int 47)] Z h0 (Q_rmI Z kk h0 n0) := by
 refine MetFree.of_bodySF (plainFor_of_name pn_1) hisR ?_
 intro p e s m args below meth c s₁ Bd hml0 hP hK
 obtain ⟨rfl, hZ, hh⟩ := hP
 have hx := Bd.exec
 have hby := Bd.bytes
 have hml : c.maxLocals = 2 := hml0
 have hown : s.vm.findClass "java/lang/String" = some m.cls := findClass_of_methodNamed Bd.named
 have hnm := (name_of_methodNamed Bd.named Bd.method).1
 have X0 : Stand p l e ({ frames := 3, cells := 0, slots := 0, locals := 42 } : Room) s m #[(.ref a1), (.int 47)] below meth c s₁ [] 0 0 := Stand.of_body Bd
 have hU : ∀ (i : Nat) (d : Jvm.Cond), tables_1[i]? = some d → d.before a0 Z = true := fun i d h => hw d (List.mem_of_getElem? h)
 have e0 : s₁.heap = h0 := by rw [← hh, Bd.state]; rfl
 have N0 := Fr.nil n0
 obtain ⟨f0, hf0⟩ : ∃ f : JFrame, f = mkF m 0 #[rv a1, iv 47] [] := ⟨_, rfl⟩
 have pre0 : ∀ t, own_S p e below s₁ f0 t → Steps p.tables e below (s₁.setTop (entryFrame m #[(.ref a1), (.int 47)] 2)) t := fun t k => castTop ((ef_rmLix m a1 (47 : Int32)).trans hf0.symm) k
 have R0 : own_R p e below s₁ (mkF m 0 #[rv a1, iv 47] []) s₁ f0 := by rw [hf0]; exact fun t k => k
 have R1 : own_R p e below s₁ (mkF m 3 #[rv a1, iv 47] [(.ref a1), (.int 47), (.ref a1)]) s₁ f0 := fun t k => R0 t (by
  refine XS.aloadN X0.here hx rfl (hb hby d8_0) rfl rfl ?_
  refine XS.iloadN X0.here hx rfl (hb hby d8_1) rfl ?_
  refine XS.aloadN X0.here hx rfl (hb hby d8_2) rfl rfl ?_
  exact k)
 obtain ⟨cq2, kq2, q2a, q2b, q2c⟩ := isOf hZ e0 E_a1
 obtain ⟨_, _, ⟨T2, L2, k2, n2⟩, -, X2, ⟨Lc2, hQ2, l2, y2, z2⟩, st2⟩ := X0.virtualBack hx (y := yN0) (z := yN0) hown (mvT hZ (hU 50 _ rfl)) (mvT hZ (hU 51 _ rfl)) (notFace_of_selects (args := #[]) (mvT hZ (hU 53 _ rfl))) (mvT hZ (hU 53 _ rfl)) (mvT hZ (hU 52 _ rfl)) (by decide) (backOf (W := 2) (rmLen l Z a0 hw [] a1 b kb z vs (.int 0) cs h0 n0 Z0 E_a1 F_coder_a1 F_value_a1 A_b S_String_COMPACT_STRINGS hcs) hZ (hU 54 _ rfl) (hU 7 _ rfl) (by decide) (by decide)) q2a q2c (g := (mkF m 3 #[rv a1, iv 47] [(.ref a1), (.int 47), (.ref a1)])) rfl (by rw [hml]; rfl) (Steps.refl _) (argsL := []) (rest := [(.int 47), (.ref a1)]) (lenOf pd_20 rfl) rfl (Nat.le_of_eq rfl) (hb hby d8_3) (fun _ _ => ⟨rfl, e0, (by decide : 0 + 0 ≤ _), (by decide : 0 + 0 ≤ _)⟩)
 dsimp only [Pt.U, Pt.locs, Pt.cells, Pt.slots] at X2 l2 y2 z2 st2 hQ2
 subst l2 y2 z2
 obtain ⟨rfl, N2q, p2_0⟩ := hQ2
 have N2 := Fr.app N0 N2q
 have R3 := fun t k => R1 t (st2.trans k)
 have R4 : own_R p e below T2 (mkF m 6 #[rv a1, iv 47] [(.int z), (.int 47), (.ref a1)]) s₁ f0 := by have q := R3; rw [((own_sh z) : (z >>> ((0 : Int32) &&& 31)) = z)] at q; exact q
 have R5 : own_R p e below T2 (mkF m 8 #[rv a1, iv 47] [(.int (z - (1 : Int32))), (.int 47), (.ref a1)]) s₁ f0 := fun t k => R4 t (by
  refine XS.iconst X2.here hx rfl (hb hby d8_6) ?_
  refine XS.isub X2.here hx rfl (hb hby d8_7) rfl ?_
  exact k)
 have R6 : own_R p e below T2 (mkF m 8 #[rv a1, iv 47] [(.int p3), (.int 47), (.ref a1)]) s₁ f0 := by have q := R5; rw [(he : (z - (1 : Int32)) = p3)] at q; exact q
 obtain ⟨cq7, kq7, q7a, q7b, q7c⟩ := isOf hZ p2_0 E_a1
 obtain ⟨_, _, ⟨T7, L7, k7, n7⟩, -, X7, ⟨Lc7, hQ7, l7, y7, z7⟩, st7⟩ := X2.virtualBack hx (y := yN24) (z := yN24) hown (mvT hZ (hU 61 _ rfl)) (mvT hZ (hU 62 _ rfl)) (notFace_of_selects (args := #[]) (mvT hZ (hU 64 _ rfl))) (mvT hZ (hU 64 _ rfl)) (mvT hZ (hU 63 _ rfl)) (by decide) (backOf (W := 0) (rmLii l Z a0 hw [] a1 b kb z vs cs p3 kk h0 n0 Z0 E_a1 F_coder_a1 F_value_a1 A_b S_String_COMPACT_STRINGS hcs hL) hZ (hU 65 _ rfl) (hU 7 _ rfl) (by decide) (by decide)) q7a q7c (g := (mkF m 8 #[rv a1, iv 47] [(.int p3), (.int 47), (.ref a1)])) rfl (by rw [hml]; rfl) (Steps.refl _) (argsL := [(.int 47), (.int p3)]) (rest := []) (lenOf pd_17 rfl) rfl (Nat.le_of_eq rfl) (hb hby d8_8) (fun _ _ => ⟨rfl, p2_0, (by decide : 0 + 0 ≤ _), (by decide : 0 + 0 ≤ _)⟩)
 dsimp only [Pt.U, Pt.locs, Pt.cells, Pt.slots] at X7 l7 y7 z7 st7 hQ7
 subst l7 y7 z7
 obtain ⟨rfl, N7q, p7_0⟩ := hQ7
 have N7 := Fr.app N2 N7q
 have R8 := fun t k => R6 t (st7.trans k)
 obtain ⟨fs, hr, hrun, hended, hW, hsame⟩ := X7.leave (v := some (.int kk)) (fun h => by rw [Bd.returns] at h; cases h)
 refine ⟨_, _, pre0 _ (R8 _ ?_), hrun, hended, _, _, rfl, ?_, ⟨_, rfl⟩, hW, hsame.mono (by decide) (by decide)⟩
 ·
  show own_S p e below T7 (mkF m 11 #[rv a1, iv 47] [(.int kk)]) _
  exact retI X7 hx Bd.returns (hb hby d8_11) hr
 ·
  show (Q_rmI Z kk h0 n0) _ T7.heap _
  rw [p7_0]
  exact ⟨rfl, N7, rfl⟩
theorem ef_rmCr (m : MethodId) (x0 : Addr) (x1 : Int32) (x2 : Int32) : entryFrame m #[(.ref x0), (.int x1), (.int x2)] 3 = mkF m 0 #[rv x0, iv x1, iv x2] [] := by first | (simp [entryFrame, mkF, argsToLocals, Value.category]; done) | rfl
set_option maxRecDepth 65536 in
set_option maxHeartbeats 40000000 in
theorem rmCr (l : Launch) (Z : State) (a0 : Array Value) (hw : ∀ d ∈ tables_1, d.before a0 Z = true) (ws : List Jvm.Cond) (b : Addr) (kb : ClassId) (z : Int32) (vs : List Value) (p1 : Int32) (p2 : Int32) (ys : List Value) (h0 : Heap) (n0 : Nat) (Z0 : n0 ≤ h0.size) (A_b : Arv Z h0 b kb .byte z vs (.int 0)) (hne : ¬ p1 = (0 : Int32)) (hB : ∀ h1 : Heap, n0 ≤ h1.size → Arv Z h1 b kb .byte z vs (.int 0) → own_M l yN3 [Jvm.Cond.code yN3 jdk_65_method_133_code 5 (some (.array .byte))] ({ frames := 1, cells := 1, slots := 3, locals := 18 } : Room) #[(.ref b), (.int p1), (.int z)] Z h1 (Q_rmCp Z p2 ys h1 n0)) :
  own_M l yN29 (Jvm.Cond.code yN29 jdk_65_method_132_code 3 (some (.array .byte)) :: ws) ({ frames := 2, cells := 1, slots := 3, locals := 34 } : Room) #[(.ref b), (.int p1), (.int z)] Z h0 (Q_rmCp Z p2 ys h0 n0) := by
 refine MetFree.of_bodySF (plainFor_of_name pn_15) hisR ?_
 intro p e s m args below meth c s₁ Bd hml0 hP hK
 obtain ⟨rfl, hZ, hh⟩ := hP
 have hx := Bd.exec
 have hby := Bd.bytes
 have hml : c.maxLocals = 3 := hml0
 have hown : s.vm.findClass "java/util/Arrays" = some m.cls := findClass_of_methodNamed Bd.named
 have hnm := (name_of_methodNamed Bd.named Bd.method).1
 have X0 : Stand p l e ({ frames := 2, cells := 1, slots := 3, locals := 34 } : Room) s m #[(.ref b), (.int p1), (.int z)] below meth c s₁ [] 0 0 := Stand.of_body Bd
 have hU : ∀ (i : Nat) (d : Jvm.Cond), tables_1[i]? = some d → d.before a0 Z = true := fun i d h => hw d (List.mem_of_getElem? h)
 have e0 : s₁.heap = h0 := by rw [← hh, Bd.state]; rfl
 have N0 := Fr.nil n0
 obtain ⟨f0, hf0⟩ : ∃ f : JFrame, f = mkF m 0 #[rv b, iv p1, iv z] [] := ⟨_, rfl⟩
 have pre0 : ∀ t, own_S p e below s₁ f0 t → Steps p.tables e below (s₁.setTop (entryFrame m #[(.ref b), (.int p1), (.int z)] 3)) t := fun t k => castTop ((ef_rmCr m b p1 z).trans hf0.symm) k
 have R0 : own_R p e below s₁ (mkF m 0 #[rv b, iv p1, iv z] []) s₁ f0 := by rw [hf0]; exact fun t k => k
 have R1 : own_R p e below s₁ (mkF m 13 #[rv b, iv p1, iv z] [(.int z), (.int p1), (.ref b)]) s₁ f0 := fun t k => R0 t (by
  refine XS.iloadN X0.here hx rfl (hb hby d28_0) rfl ?_
  refine XS.ifYes X0.here hx rfl (pc0 := 1) (pc' := 10) rfl (hb hby d28_1) rfl ((if0 _ _).trans (feq hne).2) (by decide) (by decide) ?_
  refine XS.aloadN X0.here hx rfl (hb hby d28_10) rfl rfl ?_
  refine XS.iloadN X0.here hx rfl (hb hby d28_11) rfl ?_
  refine XS.iloadN X0.here hx rfl (hb hby d28_12) rfl ?_
  exact k)
 obtain ⟨_, _, ⟨T2, L2, k2, n2⟩, -, X2, ⟨Lc2, hQ2, l2, y2, z2⟩, st2⟩ := Jvm.LawKit.callS X0 hx (y := yN3) hown (mvT hZ (hU 134 _ rfl)) (mvT hZ (hU 135 _ rfl)) (mvT hZ (hU 132 _ rfl)) (mvT hZ (hU 136 _ rfl)) (by decide) (backOf (W := 0) (hB h0 Z0 A_b) hZ (hU 136 _ rfl) (hU 132 _ rfl) (by decide) (by decide)) (g := (mkF m 13 #[rv b, iv p1, iv z] [(.int z), (.int p1), (.ref b)])) rfl (by rw [hml]; rfl) (argsL := [(.ref b), (.int p1), (.int z)]) (rest := []) (lenOf pd_21 rfl) rfl (Nat.le_of_eq rfl) (hb hby d28_13) (fun _ _ => ⟨rfl, e0, (by decide : 0 + 1 ≤ _), (by decide : 0 + 3 ≤ _)⟩)
 dsimp only [Pt.U, Pt.locs, Pt.cells, Pt.slots] at X2 l2 y2 z2 st2 hQ2
 subst l2 y2 z2
 obtain ⟨b2_2, kb2_2, rfl, N2q, p2_0, p2_1, p2_2⟩ := hQ2
 have N2 := Fr.app N0 N2q
 have f2_A_b := A_b.keep p2_0 nin0
 have z2 : n0 ≤ T2.heap.size := Nat.le_trans Z0 p2_0.1
 have K2 : Keep h0 T2.heap [] := (Keep.refl h0 []).trans p2_0 all0
 have g_b2_2 : n0 ≤ b2_2 := Nat.le_trans Z0 p2_2
 have sz_b2_2 : h0.size ≤ b2_2 := Nat.le_trans (Keep.refl h0 []).1 p2_2
 have ne_b_b2_2 : b ≠ b2_2 := Nat.ne_of_lt (Nat.lt_of_lt_of_le A_b.lt p2_2)
 have R3 := fun t k => R1 t (st2 t k)
 obtain ⟨fs, hr, hrun, hended, hW, hsame⟩ := X2.leave (v := some (.ref b2_2)) (fun h => by rw [Bd.returns] at h; cases h)
 refine ⟨_, _, pre0 _ (R3 _ ?_), hrun, hended, _, _, rfl, ?_, ⟨_, rfl⟩, hW, hsame.mono (by decide) (by decide)⟩
 ·
  show own_S p e below T2 (mkF m 16 #[rv b, iv p1, iv z] [(.ref b2_2)]) _
  exact retOut X2 hx (t := (.array .byte)) Bd.returns rfl (Or.inr (Or.inr (Or.inr (Or.inr ⟨rfl, rfl, rfl⟩)))) (hb hby d28_16) hr
 ·
  show (Q_rmCp Z p2 ys h0 n0) _ T2.heap _
  exact ⟨b2_2, kb2_2, rfl, N2, K2, p2_1, sz_b2_2⟩
theorem ef_rmNwM (m : MethodId) (x0 : Addr) (x1 : Int32) (x2 : Int32) : entryFrame m #[(.ref x0), (.int x1), (.int x2)] 3 = mkF m 0 #[rv x0, iv x1, iv x2] [] := by first | (simp [entryFrame, mkF, argsToLocals, Value.category]; done) | rfl
set_option maxRecDepth 65536 in
set_option maxHeartbeats 40000000 in
theorem rmNwM (l : Launch) (Z : State) (a0 : Array Value) (hw : ∀ d ∈ tables_1, d.before a0 Z = true) (ws : List Jvm.Cond) (b : Addr) (kb : ClassId) (z : Int32) (vs : List Value) (p1 : Int32) (p2 : Int32) (ys : List Value) (h0 : Heap) (n0 : Nat) (Z0 : n0 ≤ h0.size) (A_b : Arv Z h0 b kb .byte z vs (.int 0)) (hne : ¬ p1 = (0 : Int32)) (hn2 : ¬ p2 = (0 : Int32)) (heZ : p1 + p2 = z) (hB : ∀ h1 : Heap, n0 ≤ h1.size → Arv Z h1 b kb .byte z vs (.int 0) → own_M l yN3 [Jvm.Cond.code yN3 jdk_65_method_133_code 5 (some (.array .byte))] ({ frames := 1, cells := 1, slots := 3, locals := 18 } : Room) #[(.ref b), (.int p1), (.int z)] Z h1 (Q_rmCp Z p2 ys h1 n0)) :
  own_M l yN21 (Jvm.Cond.code yN21 jdk_43_method_47_code 3 (some (.object "java/lang/String")) :: ws) ({ frames := 3, cells := 2, slots := 7, locals := 50 } : Room) #[(.ref b), (.int p1), (.int p2)] Z h0 (Q_rmNw Z p2 ys h0 n0) := by
 refine MetFree.of_bodySF (plainFor_of_name pn_5) hisR ?_
 intro p e s m args below meth c s₁ Bd hml0 hP hK
 obtain ⟨rfl, hZ, hh⟩ := hP
 have hx := Bd.exec
 have hby := Bd.bytes
 have hml : c.maxLocals = 3 := hml0
 have hown : s.vm.findClass "java/lang/StringLatin1" = some m.cls := findClass_of_methodNamed Bd.named
 have hnm := (name_of_methodNamed Bd.named Bd.method).1
 have X0 : Stand p l e ({ frames := 3, cells := 2, slots := 7, locals := 50 } : Room) s m #[(.ref b), (.int p1), (.int p2)] below meth c s₁ [] 0 0 := Stand.of_body Bd
 have hU : ∀ (i : Nat) (d : Jvm.Cond), tables_1[i]? = some d → d.before a0 Z = true := fun i d h => hw d (List.mem_of_getElem? h)
 have e0 : s₁.heap = h0 := by rw [← hh, Bd.state]; rfl
 have N0 := Fr.nil n0
 obtain ⟨f0, hf0⟩ : ∃ f : JFrame, f = mkF m 0 #[rv b, iv p1, iv p2] [] := ⟨_, rfl⟩
 have pre0 : ∀ t, own_S p e below s₁ f0 t → Steps p.tables e below (s₁.setTop (entryFrame m #[(.ref b), (.int p1), (.int p2)] 3)) t := fun t k => castTop ((ef_rmNwM m b p1 p2).trans hf0.symm) k
 have R0 : own_R p e below s₁ (mkF m 0 #[rv b, iv p1, iv p2] []) s₁ f0 := by rw [hf0]; exact fun t k => k
 have R1 : own_R p e below s₁ (mkF m 7 #[rv b, iv p1, iv p2] []) s₁ f0 := fun t k => R0 t (by
  refine XS.iloadN X0.here hx rfl (hb hby d27_0) rfl ?_
  refine XS.ifYes X0.here hx rfl (pc0 := 1) (pc' := 7) rfl (hb hby d27_1) rfl ((if0 _ _).trans (feq hn2).2) (by decide) (by decide) ?_
  exact k)
 obtain ⟨T2, h2, X2, e2, E2, A2, D2, -, st2⟩ := newO X0 hx hZ hown (hU 129 _ rfl) (hU 6 _ rfl) (hU 7 _ rfl) e0 (g := (mkF m 7 #[rv b, iv p1, iv p2] [])) rfl (hb hby d27_7) (by decide) (by decide)
 obtain ⟨b2, g2⟩ : ∃ z, z = h0.size := ⟨_, rfl⟩
 rw [← g2] at A2 D2 st2
 have g_b2 : n0 ≤ b2 := Nat.le_trans Z0 (Nat.le_of_eq g2.symm)
 have sz_b2 : h0.size ≤ b2 := Nat.le_trans (Keep.refl h0 []).1 (Nat.le_of_eq g2.symm)
 have ne_b_b2 : b ≠ b2 := Nat.ne_of_lt (Nat.lt_of_lt_of_le A_b.lt (Nat.le_of_eq g2.symm))
 have f2_A_b := A_b.ext E2
 have z2 : n0 ≤ h2.size := Nat.le_trans Z0 E2.1
 have K2 : Keep h0 h2 [] := (Keep.refl h0 []).ext E2
 have d2_value : Fld Z h2 b2 "java/lang/String" "value" "[B" .null := D2 (Or.inr (hU 23 _ rfl)) (ty := (.array .byte)) (by decide)
 have d2_coder : Fld Z h2 b2 "java/lang/String" "coder" "B" (.int 0) := D2 (Or.inr (hU 24 _ rfl)) (ty := .byte) (by decide)
 have R3 := fun t k => R1 t (st2 t k)
 have R4 : own_R p e below T2 (mkF m 16 #[rv b, iv p1, iv p2] [(.int (p1 + p2)), (.int p1), (.ref b), (.ref b2), (.ref b2)]) s₁ f0 := fun t k => R3 t (by
  refine XS.dup X2.here hx rfl (hb hby d27_10) rfl rfl ?_
  refine XS.aloadN X2.here hx rfl (hb hby d27_11) rfl rfl ?_
  refine XS.iloadN X2.here hx rfl (hb hby d27_12) rfl ?_
  refine XS.iloadN X2.here hx rfl (hb hby d27_13) rfl ?_
  refine XS.iloadN X2.here hx rfl (hb hby d27_14) rfl ?_
  refine XS.iadd X2.here hx rfl (hb hby d27_15) rfl ?_
  exact k)
 have R5 : own_R p e below T2 (mkF m 16 #[rv b, iv p1, iv p2] [(.int z), (.int p1), (.ref b), (.ref b2), (.ref b2)]) s₁ f0 := by have q := R4; rw [(heZ : (p1 + p2) = z)] at q; exact q
 obtain ⟨_, _, ⟨T6, L6, k6, n6⟩, -, X6, ⟨Lc6, hQ6, l6, y6, z6⟩, st6⟩ := Jvm.LawKit.callS X2 hx (y := yN29) hown (mvT hZ (hU 130 _ rfl)) (mvT hZ (hU 131 _ rfl)) (mvT hZ (hU 132 _ rfl)) (mvT hZ (hU 133 _ rfl)) (by decide) (backOf (W := 2) (rmCr l Z a0 hw [] b kb z vs p1 p2 ys h2 n0 z2 f2_A_b hne hB) hZ (hU 133 _ rfl) (hU 132 _ rfl) (by decide) (by decide)) (g := (mkF m 16 #[rv b, iv p1, iv p2] [(.int z), (.int p1), (.ref b), (.ref b2), (.ref b2)])) rfl (by rw [hml]; rfl) (argsL := [(.ref b), (.int p1), (.int z)]) (rest := [(.ref b2), (.ref b2)]) (lenOf pd_21 rfl) rfl (Nat.le_of_eq rfl) (hb hby d27_16) (fun _ _ => ⟨rfl, e2, (by decide : 1 + 1 ≤ _), (by decide : 4 + 3 ≤ _)⟩)
 dsimp only [Pt.U, Pt.locs, Pt.cells, Pt.slots] at X6 l6 y6 z6 st6 hQ6
 subst l6 y6 z6
 obtain ⟨b2_6, kb2_6, rfl, N6q, p6_0, p6_1, p6_2⟩ := hQ6
 have N6 := Fr.app N0 N6q
 have f6_A_b := f2_A_b.keep p6_0 nin0
 have f6_E_b2 := A2.keep p6_0
 have f6_F_value_b2 := d2_value.keep p6_0 nin0
 have f6_F_coder_b2 := d2_coder.keep p6_0 nin0
 have z6 : n0 ≤ T6.heap.size := Nat.le_trans z2 p6_0.1
 have K6 : Keep h0 T6.heap [] := K2.trans p6_0 all0
 have g_b2_6 : n0 ≤ b2_6 := Nat.le_trans z2 p6_2
 have sz_b2_6 : h0.size ≤ b2_6 := Nat.le_trans K2.1 p6_2
 have ne_b_b2_6 : b ≠ b2_6 := Nat.ne_of_lt (Nat.lt_of_lt_of_le f2_A_b.lt p6_2)
 have ne_b2_b2_6 : b2 ≠ b2_6 := Nat.ne_of_lt (Nat.lt_of_lt_of_le d2_value.lt p6_2)
 have R7 := fun t k => R5 t (st6 t k)
 have R8 : own_R p e below T6 (mkF m 20 #[rv b, iv p1, iv p2] [(.int 0), (.ref b2_6), (.ref b2), (.ref b2)]) s₁ f0 := fun t k => R7 t (by
  refine XS.iconst X6.here hx rfl (hb hby d27_19) ?_
  exact k)
 obtain ⟨_, _, ⟨T9, L9, k9, n9⟩, -, X9, ⟨Lc9, hQ9, l9, y9, z9⟩, st9⟩ := X6.specialBack hx (y := yN28) rfl hown (mvT hZ (hU 145 _ rfl)) (mvT hZ (hU 146 _ rfl)) (mvT hZ (hU 147 _ rfl)) (by decide) (backOf (W := 1) (rmSbb l Z a0 hw [] b2 b2_6 .null (.int 0) T6.heap n0 z6 f6_E_b2 f6_F_value_b2 f6_F_coder_b2 g_b2) hZ (hU 147 _ rfl) (hU 7 _ rfl) (by decide) (by decide)) (g := (mkF m 20 #[rv b, iv p1, iv p2] [(.int 0), (.ref b2_6), (.ref b2), (.ref b2)])) rfl (by rw [hml]; rfl) (Steps.refl _) (a := b2) (argsL := [(.ref b2_6), (.int 0)]) (rest := [(.ref b2)]) (lenOf pd_22 rfl) rfl (Nat.le_of_eq rfl) (hb hby d27_20) (fun _ _ => ⟨rfl, rfl, (by decide : 2 + 0 ≤ _), (by decide : 7 + 0 ≤ _)⟩)
 dsimp only [Pt.U, Pt.locs, Pt.cells, Pt.slots] at X9 l9 y9 z9 st9 hQ9
 subst l9 y9 z9
 obtain ⟨rfl, N9q, p9_0, p9_1, p9_2⟩ := hQ9
 have N9 := Fr.app N6 N9q
 have f9_A_b := f6_A_b.keep p9_0 (ninS ne_b_b2 nin0)
 have f9_E_b2 := f6_E_b2.keep p9_0
 have f9_A_b2_6 := p6_1.keep p9_0 (ninS (Ne.symm ne_b2_b2_6) nin0)
 have z9 : n0 ≤ T9.heap.size := Nat.le_trans z6 p9_0.1
 have K9 : Keep h0 T9.heap [] := K6.trans p9_0 (allS (Or.inr sz_b2) all0)
 have R10 := fun t k => R8 t (st9.trans k)
 obtain ⟨fs, hr, hrun, hended, hW, hsame⟩ := X9.leave (v := some (.ref b2)) (fun h => by rw [Bd.returns] at h; cases h)
 refine ⟨_, _, pre0 _ (R10 _ ?_), hrun, hended, _, _, rfl, ?_, ⟨_, rfl⟩, hW, hsame.mono (by decide) (by decide)⟩
 ·
  show own_S p e below T9 (mkF m 23 #[rv b, iv p1, iv p2] [(.ref b2)]) _
  exact retOut X9 hx (t := (.object "java/lang/String")) Bd.returns rfl (Or.inr (Or.inr (Or.inr (Or.inr ⟨rfl, rfl, rfl⟩)))) (hb hby d27_23) hr
 ·
  show (Q_rmNw Z p2 ys h0 n0) _ T9.heap _
  exact ⟨b2, b2_6, kb2_6, rfl, N9, K9, f9_E_b2, p9_2, p9_1, f9_A_b2_6, sz_b2, sz_b2_6⟩
theorem ef_rmNwE (m : MethodId) (x0 : Addr) (x1 : Int32) (x2 : Int32) : entryFrame m #[(.ref x0), (.int x1), (.int x2)] 3 = mkF m 0 #[rv x0, iv x1, iv x2] [] := by first | (simp [entryFrame, mkF, argsToLocals, Value.category]; done) | rfl
set_option maxRecDepth 65536 in
set_option maxHeartbeats 40000000 in
theorem rmNwE (l : Launch) (Z : State) (a0 : Array Value) (hw : ∀ d ∈ tables_1, d.before a0 Z = true) (ws : List Jvm.Cond) (b : Addr) (p1 : Int32) (h0 : Heap) (n0 : Nat) (Z0 : n0 ≤ h0.size) :
  own_MS l yN21 (Jvm.Cond.code yN21 jdk_43_method_47_code 3 (some (.object "java/lang/String")) :: ws) ({ frames := 0, cells := 2, slots := 4, locals := 0 } : Room) #[(.ref b), (.int p1), (.int 0)] Z h0 (Q_rmNe Z h0 n0) := by
 refine MetFree.of_bodySF (plainFor_of_name pn_5) hisR ?_
 intro p e s m args below meth c s₁ Bd hml0 hP hK
 obtain ⟨rfl, hZ, hh, hCH⟩ := hP
 have hx := Bd.exec
 have hby := Bd.bytes
 have hml : c.maxLocals = 3 := hml0
 have hown : s.vm.findClass "java/lang/StringLatin1" = some m.cls := findClass_of_methodNamed Bd.named
 have hnm := (name_of_methodNamed Bd.named Bd.method).1
 have X0 : Stand p l e ({ frames := 0, cells := 2, slots := 4, locals := 0 } : Room) s m #[(.ref b), (.int p1), (.int 0)] below meth c s₁ [] 0 0 := Stand.of_body Bd
 have hU : ∀ (i : Nat) (d : Jvm.Cond), tables_1[i]? = some d → d.before a0 Z = true := fun i d h => hw d (List.mem_of_getElem? h)
 have hEL : EW Z a0 own_EL := own_ew hU
 have e0 : s₁.heap = h0 := by rw [← hh, Bd.state]; rfl
 have N0 := Fr.nil n0
 obtain ⟨f0, hf0⟩ : ∃ f : JFrame, f = mkF m 0 #[rv b, iv p1, iv 0] [] := ⟨_, rfl⟩
 have pre0 : ∀ t, own_S p e below s₁ f0 t → Steps p.tables e below (s₁.setTop (entryFrame m #[(.ref b), (.int p1), (.int 0)] 3)) t := fun t k => castTop ((ef_rmNwE m b p1 (0 : Int32)).trans hf0.symm) k
 have R0 : own_R p e below s₁ (mkF m 0 #[rv b, iv p1, iv 0] []) s₁ f0 := by rw [hf0]; exact fun t k => k
 have R1 : own_R p e below s₁ (mkF m 4 #[rv b, iv p1, iv 0] []) s₁ f0 := fun t k => R0 t (by
  refine XS.iloadN X0.here hx rfl (hb hby d27_0) rfl ?_
  refine XS.ifNo X0.here hx rfl (hb hby d27_1) rfl ((if0 _ _).trans (teq (by decide : (0 : Int32) = (0 : Int32))).2) ?_
  exact k)
 obtain ⟨b2, T2, h2, k2, ba2, kl2, X2, e2, E2, S2, l2, Z2, o2, Ex2, Fc2, Fv2, Av2, -, -, -, Lt2, -, st2⟩ := ldcCH (s := s) (vm0 := s.vm) (EL := own_EL) X0 hx hZ hown (hU 128 _ rfl) (fun a ha => by simp only [Bundle.stringAtoms, List.mem_cons, List.not_mem_nil, or_false] at ha; rcases ha with rfl | rfl | rfl | rfl | rfl | rfl | rfl <;> first | exact (hU 7 _ rfl) | exact (hU 6 _ rfl) | exact (hU 22 _ rfl) | exact (hU 23 _ rfl) | exact (hU 24 _ rfl) | exact (hU 25 _ rfl) | exact (hU 26 _ rfl)) e0 (k0 := h0.size) ((State.WarmedH.refl s).since _) (Nat.le_refl _) hEL (List.mem_of_getElem? (i := 1) rfl) hCH (vs := []) (z := (0 : Int32)) own_et (by decide) (by decide) (g := (mkF m 4 #[rv b, iv p1, iv 0] [])) rfl (hb hby d27_4) (n := 0) (by decide) (by decide) (by decide) (by decide)
 have z2 : n0 ≤ h2.size := Nat.le_trans Z0 E2.1
 have K2 : Keep h0 h2 [] := (Keep.refl h0 []).ext E2
 have hZ := Z2
 have hown := o2
 have R3 := fun t k => R1 t (st2 t k)
 obtain ⟨fs, hr, hrun, hended, hend⟩ := X2.leaveW S2 (by rw [e2]; exact l2) (v := some (.ref b2)) (fun h => by rw [Bd.returns] at h; cases h)
 refine ⟨_, _, pre0 _ (R3 _ ?_), hrun, hended, _, _, rfl, ?_, hend.1, hend.2.1, hend.2.2.1, hend.2.2.2.mono (by decide) (by decide)⟩
 ·
  show own_S p e below T2 (mkF m 6 #[rv b, iv p1, iv 0] [(.ref b2)]) _
  exact retOut X2 hx (t := (.object "java/lang/String")) Bd.returns rfl (Or.inr (Or.inr (Or.inr (Or.inr ⟨rfl, rfl, rfl⟩)))) (hb hby d27_6) hr
 ·
  show (Q_rmNe Z h0 n0) _ T2.heap _
  rw [e2]
  exact ⟨b2, ba2, kl2, rfl, N0, K2, Ex2, Fc2, Fv2, Av2⟩
theorem ef_rmSi0 (m : MethodId) (x0 : Addr) (x1 : Int32) (x2 : Int32) : entryFrame m #[(.ref x0), (.int x1), (.int x2)] 5 = mkF m 0 (fA46 x0 x1 x2) [] := by first | (simp [entryFrame, mkF, argsToLocals, Value.category]; done) | rfl
set_option maxRecDepth 65536 in
set_option maxHeartbeats 40000000 in
theorem rmSi0 (l : Launch) (Z : State) (a0 : Array Value) (hw : ∀ d ∈ tables_1, d.before a0 Z = true) (ws : List Jvm.Cond) (a1 : Addr) (b : Addr) (kb : ClassId) (z : Int32) (vs : List Value) (cs : Int32) (sf : Value) (h0 : Heap) (n0 : Nat) (Z0 : n0 ≤ h0.size) (E_a1 : Exa Z h0 a1 "java/lang/String") (F_coder_a1 : Fld Z h0 a1 "java/lang/String" "coder" "B" (.int 0)) (F_value_a1 : Fld Z h0 a1 "java/lang/String" "value" "[B" (.ref b)) (A_b : Arv Z h0 b kb .byte z vs (.int 0)) (S_String_COMPACT_STRINGS : Sta Z h0 "java/lang/String" "COMPACT_STRINGS" "Z" (.int cs)) (hcs : ¬ cs = (0 : Int32)) (S_Preconditions_SIOOBE_FORMATTER : Sta Z h0 sN2 "SIOOBE_FORMATTER" sN3 sf) (hsf : sf.isRef = true) (hz : ¬ z < (0 : Int32)) :
  own_M l yN10 (Jvm.Cond.code yN10 jdk_42_method_92_code 5 (some (.object "java/lang/String")) :: ws) ({ frames := 2, cells := 0, slots := 0, locals := 29 } : Room) #[(.ref a1), (.int 0), (.int z)] Z h0 (Q_rmId Z a1 h0 n0) := by
 refine MetFree.of_bodySF (plainFor_of_name pn_1) hisR ?_
 intro p e s m args below meth c s₁ Bd hml0 hP hK
 obtain ⟨rfl, hZ, hh⟩ := hP
 have hx := Bd.exec
 have hby := Bd.bytes
 have hml : c.maxLocals = 5 := hml0
 have hown : s.vm.findClass "java/lang/String" = some m.cls := findClass_of_methodNamed Bd.named
 have hnm := (name_of_methodNamed Bd.named Bd.method).1
 have X0 : Stand p l e ({ frames := 2, cells := 0, slots := 0, locals := 29 } : Room) s m #[(.ref a1), (.int 0), (.int z)] below meth c s₁ [] 0 0 := Stand.of_body Bd
 have hU : ∀ (i : Nat) (d : Jvm.Cond), tables_1[i]? = some d → d.before a0 Z = true := fun i d h => hw d (List.mem_of_getElem? h)
 have e0 : s₁.heap = h0 := by rw [← hh, Bd.state]; rfl
 have N0 := Fr.nil n0
 obtain ⟨f0, hf0⟩ : ∃ f : JFrame, f = mkF m 0 (fA65 a1 z) [] := ⟨_, rfl⟩
 have pre0 : ∀ t, own_S p e below s₁ f0 t → Steps p.tables e below (s₁.setTop (entryFrame m #[(.ref a1), (.int 0), (.int z)] 5)) t := fun t k => castTop ((ef_rmSi0 m a1 (0 : Int32) z).trans hf0.symm) k
 have R0 : own_R p e below s₁ (mkF m 0 (fA65 a1 z) []) s₁ f0 := by rw [hf0]; exact fun t k => k
 have R1 : own_R p e below s₁ (mkF m 1 (fA65 a1 z) [(.ref a1)]) s₁ f0 := fun t k => R0 t (by
  refine XS.aloadN X0.here hx rfl (hb hby d17_0) rfl rfl ?_
  exact k)
 obtain ⟨cq2, kq2, q2a, q2b, q2c⟩ := isOf hZ e0 E_a1
 obtain ⟨_, _, ⟨T2, L2, k2, n2⟩, -, X2, ⟨Lc2, hQ2, l2, y2, z2⟩, st2⟩ := X0.virtualBack hx (y := yN0) (z := yN0) hown (mvT hZ (hU 50 _ rfl)) (mvT hZ (hU 51 _ rfl)) (notFace_of_selects (args := #[]) (mvT hZ (hU 53 _ rfl))) (mvT hZ (hU 53 _ rfl)) (mvT hZ (hU 52 _ rfl)) (by decide) (backOf (W := 0) (rmLen l Z a0 hw [] a1 b kb z vs (.int 0) cs h0 n0 Z0 E_a1 F_coder_a1 F_value_a1 A_b S_String_COMPACT_STRINGS hcs) hZ (hU 54 _ rfl) (hU 7 _ rfl) (by decide) (by decide)) q2a q2c (g := (mkF m 1 (fA65 a1 z) [(.ref a1)])) rfl (by rw [hml]; rfl) (Steps.refl _) (argsL := []) (rest := []) (lenOf pd_20 rfl) rfl (Nat.le_of_eq rfl) (hb hby d17_1) (fun _ _ => ⟨rfl, e0, (by decide : 0 + 0 ≤ _), (by decide : 0 + 0 ≤ _)⟩)
 dsimp only [Pt.U, Pt.locs, Pt.cells, Pt.slots] at X2 l2 y2 z2 st2 hQ2
 subst l2 y2 z2
 obtain ⟨rfl, N2q, p2_0⟩ := hQ2
 have N2 := Fr.app N0 N2q
 have R3 := fun t k => R1 t (st2.trans k)
 have R4 : own_R p e below T2 (mkF m 4 (fA65 a1 z) [(.int z)]) s₁ f0 := by have q := R3; rw [((own_sh z) : (z >>> ((0 : Int32) &&& 31)) = z)] at q; exact q
 have R5 : own_R p e below T2 (mkF m 8 (fA73 a1 z) [(.int z), (.int z), (.int 0)]) s₁ f0 := fun t k => R4 t (by
  refine XS.istoreN X2.here hx rfl (hb hby d17_4) rfl (l' := (fA73 a1 z)) rfl ?_
  refine XS.iloadN X2.here hx rfl (hb hby d17_5) rfl ?_
  refine XS.iloadN X2.here hx rfl (hb hby d17_6) rfl ?_
  refine XS.iloadN X2.here hx rfl (hb hby d17_7) rfl ?_
  exact k)
 obtain ⟨_, _, ⟨T6, L6, k6, n6⟩, -, X6, ⟨Lc6, hQ6, l6, y6, z6⟩, st6⟩ := Jvm.LawKit.callS X2 hx (y := yN22) hown (mvT hZ (hU 92 _ rfl)) (mvT hZ (hU 93 _ rfl)) (mvT hZ (hU 7 _ rfl)) (mvT hZ (hU 94 _ rfl)) (by decide) (backOf (W := 0) (rmCbe l Z a0 hw [] (0 : Int32) z z sf h0 n0 Z0 S_Preconditions_SIOOBE_FORMATTER hsf (by decide) hz (own_irr z)) hZ (hU 94 _ rfl) (hU 7 _ rfl) (by decide) (by decide)) (g := (mkF m 8 (fA73 a1 z) [(.int z), (.int z), (.int 0)])) rfl (by rw [hml]; rfl) (argsL := [(.int 0), (.int z), (.int z)]) (rest := []) (lenOf pd_23 rfl) rfl (Nat.le_of_eq rfl) (hb hby d17_8) (fun _ _ => ⟨rfl, p2_0, (by decide : 0 + 0 ≤ _), (by decide : 0 + 0 ≤ _)⟩)
 dsimp only [Pt.U, Pt.locs, Pt.cells, Pt.slots] at X6 l6 y6 z6 st6 hQ6
 subst l6 y6 z6
 obtain ⟨rfl, N6q, p6_0⟩ := hQ6
 have N6 := Fr.app N2 N6q
 have R7 := fun t k => R5 t (st6 t k)
 have R8 : own_R p e below T6 (mkF m 21 (fA73 a1 z) [(.ref a1)]) s₁ f0 := fun t k => R7 t (by
  refine XS.iloadN X6.here hx rfl (hb hby d17_11) rfl ?_
  refine XS.ifNo X6.here hx rfl (hb hby d17_12) rfl ((if0 _ _).trans (teq (by decide : (0 : Int32) = (0 : Int32))).2) ?_
  refine XS.iloadN X6.here hx rfl (hb hby d17_15) rfl ?_
  refine XS.iloadN X6.here hx rfl (hb hby d17_16) rfl ?_
  refine XS.icmpNo X6.here hx rfl (hb hby d17_17) rfl (teq rfl).2 ?_
  refine XS.aloadN X6.here hx rfl (hb hby d17_20) rfl rfl ?_
  exact k)
 obtain ⟨fs, hr, hrun, hended, hW, hsame⟩ := X6.leave (v := some (.ref a1)) (fun h => by rw [Bd.returns] at h; cases h)
 refine ⟨_, _, pre0 _ (R8 _ ?_), hrun, hended, _, _, rfl, ?_, ⟨_, rfl⟩, hW, hsame.mono (by decide) (by decide)⟩
 ·
  show own_S p e below T6 (mkF m 21 (fA73 a1 z) [(.ref a1)]) _
  exact retOut X6 hx (t := (.object "java/lang/String")) Bd.returns rfl (Or.inr (Or.inr (Or.inr (Or.inr ⟨rfl, rfl, rfl⟩)))) (hb hby d17_21) hr
 ·
  show (Q_rmId Z a1 h0 n0) _ T6.heap _
  rw [p6_0]
  exact ⟨rfl, N6, rfl⟩
theorem ef_rmSx0 (m : MethodId) (x0 : Addr) (x1 : Int32) : entryFrame m #[(.ref x0), (.int x1)] 2 = mkF m 0 #[rv x0, iv x1] [] := by first | (simp [entryFrame, mkF, argsToLocals, Value.category]; done) | rfl
set_option maxRecDepth 65536 in
set_option maxHeartbeats 40000000 in
theorem rmSx0 (l : Launch) (Z : State) (a0 : Array Value) (hw : ∀ d ∈ tables_1, d.before a0 Z = true) (ws : List Jvm.Cond) (a1 : Addr) (b : Addr) (kb : ClassId) (z : Int32) (vs : List Value) (cs : Int32) (sf : Value) (h0 : Heap) (n0 : Nat) (Z0 : n0 ≤ h0.size) (E_a1 : Exa Z h0 a1 "java/lang/String") (F_coder_a1 : Fld Z h0 a1 "java/lang/String" "coder" "B" (.int 0)) (F_value_a1 : Fld Z h0 a1 "java/lang/String" "value" "[B" (.ref b)) (A_b : Arv Z h0 b kb .byte z vs (.int 0)) (S_String_COMPACT_STRINGS : Sta Z h0 "java/lang/String" "COMPACT_STRINGS" "Z" (.int cs)) (hcs : ¬ cs = (0 : Int32)) (S_Preconditions_SIOOBE_FORMATTER : Sta Z h0 sN2 "SIOOBE_FORMATTER" sN3 sf) (hsf : sf.isRef = true) (hz : ¬ z < (0 : Int32)) :
  own_M l yN11 (Jvm.Cond.code yN11 jdk_42_method_91_code 2 (some (.object "java/lang/String")) :: ws) ({ frames := 3, cells := 0, slots := 0, locals := 45 } : Room) #[(.ref a1), (.int 0)] Z h0 (Q_rmId Z a1 h0 n0) := by
 refine MetFree.of_bodySF (plainFor_of_name pn_1) hisR ?_
 intro p e s m args below meth c s₁ Bd hml0 hP hK
 obtain ⟨rfl, hZ, hh⟩ := hP
 have hx := Bd.exec
 have hby := Bd.bytes
 have hml : c.maxLocals = 2 := hml0
 have hown : s.vm.findClass "java/lang/String" = some m.cls := findClass_of_methodNamed Bd.named
 have hnm := (name_of_methodNamed Bd.named Bd.method).1
 have X0 : Stand p l e ({ frames := 3, cells := 0, slots := 0, locals := 45 } : Room) s m #[(.ref a1), (.int 0)] below meth c s₁ [] 0 0 := Stand.of_body Bd
 have hU : ∀ (i : Nat) (d : Jvm.Cond), tables_1[i]? = some d → d.before a0 Z = true := fun i d h => hw d (List.mem_of_getElem? h)
 have e0 : s₁.heap = h0 := by rw [← hh, Bd.state]; rfl
 have N0 := Fr.nil n0
 obtain ⟨f0, hf0⟩ : ∃ f : JFrame, f = mkF m 0 #[rv a1, iv 0] [] := ⟨_, rfl⟩
 have pre0 : ∀ t, own_S p e below s₁ f0 t → Steps p.tables e below (s₁.setTop (entryFrame m #[(.ref a1), (.int 0)] 2)) t := fun t k => castTop ((ef_rmSx0 m a1 (0 : Int32)).trans hf0.symm) k
 have R0 : own_R p e below s₁ (mkF m 0 #[rv a1, iv 0] []) s₁ f0 := by rw [hf0]; exact fun t k => k
 have R1 : own_R p e below s₁ (mkF m 3 #[rv a1, iv 0] [(.ref a1), (.int 0), (.ref a1)]) s₁ f0 := fun t k => R0 t (by
  refine XS.aloadN X0.here hx rfl (hb hby d16_0) rfl rfl ?_
  refine XS.iloadN X0.here hx rfl (hb hby d16_1) rfl ?_
  refine XS.aloadN X0.here hx rfl (hb hby d16_2) rfl rfl ?_
  exact k)
 obtain ⟨cq2, kq2, q2a, q2b, q2c⟩ := isOf hZ e0 E_a1
 obtain ⟨_, _, ⟨T2, L2, k2, n2⟩, -, X2, ⟨Lc2, hQ2, l2, y2, z2⟩, st2⟩ := X0.virtualBack hx (y := yN0) (z := yN0) hown (mvT hZ (hU 50 _ rfl)) (mvT hZ (hU 51 _ rfl)) (notFace_of_selects (args := #[]) (mvT hZ (hU 53 _ rfl))) (mvT hZ (hU 53 _ rfl)) (mvT hZ (hU 52 _ rfl)) (by decide) (backOf (W := 2) (rmLen l Z a0 hw [] a1 b kb z vs (.int 0) cs h0 n0 Z0 E_a1 F_coder_a1 F_value_a1 A_b S_String_COMPACT_STRINGS hcs) hZ (hU 54 _ rfl) (hU 7 _ rfl) (by decide) (by decide)) q2a q2c (g := (mkF m 3 #[rv a1, iv 0] [(.ref a1), (.int 0), (.ref a1)])) rfl (by rw [hml]; rfl) (Steps.refl _) (argsL := []) (rest := [(.int 0), (.ref a1)]) (lenOf pd_20 rfl) rfl (Nat.le_of_eq rfl) (hb hby d16_3) (fun _ _ => ⟨rfl, e0, (by decide : 0 + 0 ≤ _), (by decide : 0 + 0 ≤ _)⟩)
 dsimp only [Pt.U, Pt.locs, Pt.cells, Pt.slots] at X2 l2 y2 z2 st2 hQ2
 subst l2 y2 z2
 obtain ⟨rfl, N2q, p2_0⟩ := hQ2
 have N2 := Fr.app N0 N2q
 have R3 := fun t k => R1 t (st2.trans k)
 have R4 : own_R p e below T2 (mkF m 6 #[rv a1, iv 0] [(.int z), (.int 0), (.ref a1)]) s₁ f0 := by have q := R3; rw [((own_sh z) : (z >>> ((0 : Int32) &&& 31)) = z)] at q; exact q
 obtain ⟨cq5, kq5, q5a, q5b, q5c⟩ := isOf hZ p2_0 E_a1
 obtain ⟨_, _, ⟨T5, L5, k5, n5⟩, -, X5, ⟨Lc5, hQ5, l5, y5, z5⟩, st5⟩ := X2.virtualBack hx (y := yN10) (z := yN10) hown (mvT hZ (hU 87 _ rfl)) (mvT hZ (hU 88 _ rfl)) (notFace_of_selects (args := #[]) (mvT hZ (hU 90 _ rfl))) (mvT hZ (hU 90 _ rfl)) (mvT hZ (hU 89 _ rfl)) (by decide) (backOf (W := 0) (rmSi0 l Z a0 hw [] a1 b kb z vs cs sf h0 n0 Z0 E_a1 F_coder_a1 F_value_a1 A_b S_String_COMPACT_STRINGS hcs S_Preconditions_SIOOBE_FORMATTER hsf hz) hZ (hU 91 _ rfl) (hU 7 _ rfl) (by decide) (by decide)) q5a q5c (g := (mkF m 6 #[rv a1, iv 0] [(.int z), (.int 0), (.ref a1)])) rfl (by rw [hml]; rfl) (Steps.refl _) (argsL := [(.int 0), (.int z)]) (rest := []) (lenOf pd_24 rfl) rfl (Nat.le_of_eq rfl) (hb hby d16_6) (fun _ _ => ⟨rfl, p2_0, (by decide : 0 + 0 ≤ _), (by decide : 0 + 0 ≤ _)⟩)
 dsimp only [Pt.U, Pt.locs, Pt.cells, Pt.slots] at X5 l5 y5 z5 st5 hQ5
 subst l5 y5 z5
 obtain ⟨rfl, N5q, p5_0⟩ := hQ5
 have N5 := Fr.app N2 N5q
 have R6 := fun t k => R4 t (st5.trans k)
 obtain ⟨fs, hr, hrun, hended, hW, hsame⟩ := X5.leave (v := some (.ref a1)) (fun h => by rw [Bd.returns] at h; cases h)
 refine ⟨_, _, pre0 _ (R6 _ ?_), hrun, hended, _, _, rfl, ?_, ⟨_, rfl⟩, hW, hsame.mono (by decide) (by decide)⟩
 ·
  show own_S p e below T5 (mkF m 9 #[rv a1, iv 0] [(.ref a1)]) _
  exact retOut X5 hx (t := (.object "java/lang/String")) Bd.returns rfl (Or.inr (Or.inr (Or.inr (Or.inr ⟨rfl, rfl, rfl⟩)))) (hb hby d16_9) hr
 ·
  show (Q_rmId Z a1 h0 n0) _ T5.heap _
  rw [p5_0]
  exact ⟨rfl, N5, rfl⟩
theorem ef_rmSiM (m : MethodId) (x0 : Addr) (x1 : Int32) (x2 : Int32) : entryFrame m #[(.ref x0), (.int x1), (.int x2)] 5 = mkF m 0 (fA46 x0 x1 x2) [] := by first | (simp [entryFrame, mkF, argsToLocals, Value.category]; done) | rfl
set_option maxRecDepth 65536 in
set_option maxHeartbeats 40000000 in
theorem rmSiM (l : Launch) (Z : State) (a0 : Array Value) (hw : ∀ d ∈ tables_1, d.before a0 Z = true) (ws : List Jvm.Cond) (a1 : Addr) (b : Addr) (kb : ClassId) (z : Int32) (vs : List Value) (cs : Int32) (sf : Value) (p1 : Int32) (p2 : Int32) (ys : List Value) (h0 : Heap) (n0 : Nat) (Z0 : n0 ≤ h0.size) (E_a1 : Exa Z h0 a1 "java/lang/String") (F_coder_a1 : Fld Z h0 a1 "java/lang/String" "coder" "B" (.int 0)) (F_value_a1 : Fld Z h0 a1 "java/lang/String" "value" "[B" (.ref b)) (A_b : Arv Z h0 b kb .byte z vs (.int 0)) (S_String_COMPACT_STRINGS : Sta Z h0 "java/lang/String" "COMPACT_STRINGS" "Z" (.int cs)) (hcs : ¬ cs = (0 : Int32)) (S_Preconditions_SIOOBE_FORMATTER : Sta Z h0 sN2 "SIOOBE_FORMATTER" sN3 sf) (hsf : sf.isRef = true) (hlo : ¬ p1 < (0 : Int32)) (hmi : ¬ z < p1) (hp3 : z - p1 = p2) (hne : ¬ p1 = (0 : Int32)) (hn2 : ¬ p2 = (0 : Int32)) (heZ : p1 + p2 = z) (hB : ∀ h1 : Heap, n0 ≤ h1.size → Arv Z h1 b kb .byte z vs (.int 0) → own_M l yN3 [Jvm.Cond.code yN3 jdk_65_method_133_code 5 (some (.array .byte))] ({ frames := 1, cells := 1, slots := 3, locals := 18 } : Room) #[(.ref b), (.int p1), (.int z)] Z h1 (Q_rmCp Z p2 ys h1 n0)) :
  own_M l yN10 (Jvm.Cond.code yN10 jdk_42_method_92_code 5 (some (.object "java/lang/String")) :: ws) ({ frames := 4, cells := 2, slots := 7, locals := 64 } : Room) #[(.ref a1), (.int p1), (.int z)] Z h0 (Q_rmNw Z p2 ys h0 n0) := by
 refine MetFree.of_bodySF (plainFor_of_name pn_1) hisR ?_
 intro p e s m args below meth c s₁ Bd hml0 hP hK
 obtain ⟨rfl, hZ, hh⟩ := hP
 have hx := Bd.exec
 have hby := Bd.bytes
 have hml : c.maxLocals = 5 := hml0
 have hown : s.vm.findClass "java/lang/String" = some m.cls := findClass_of_methodNamed Bd.named
 have hnm := (name_of_methodNamed Bd.named Bd.method).1
 have X0 : Stand p l e ({ frames := 4, cells := 2, slots := 7, locals := 64 } : Room) s m #[(.ref a1), (.int p1), (.int z)] below meth c s₁ [] 0 0 := Stand.of_body Bd
 have hU : ∀ (i : Nat) (d : Jvm.Cond), tables_1[i]? = some d → d.before a0 Z = true := fun i d h => hw d (List.mem_of_getElem? h)
 have e0 : s₁.heap = h0 := by rw [← hh, Bd.state]; rfl
 have N0 := Fr.nil n0
 obtain ⟨f0, hf0⟩ : ∃ f : JFrame, f = mkF m 0 (fA56 a1 p1 z) [] := ⟨_, rfl⟩
 have pre0 : ∀ t, own_S p e below s₁ f0 t → Steps p.tables e below (s₁.setTop (entryFrame m #[(.ref a1), (.int p1), (.int z)] 5)) t := fun t k => castTop ((ef_rmSiM m a1 p1 z).trans hf0.symm) k
 have R0 : own_R p e below s₁ (mkF m 0 (fA56 a1 p1 z) []) s₁ f0 := by rw [hf0]; exact fun t k => k
 have R1 : own_R p e below s₁ (mkF m 1 (fA56 a1 p1 z) [(.ref a1)]) s₁ f0 := fun t k => R0 t (by
  refine XS.aloadN X0.here hx rfl (hb hby d17_0) rfl rfl ?_
  exact k)
 obtain ⟨cq2, kq2, q2a, q2b, q2c⟩ := isOf hZ e0 E_a1
 obtain ⟨_, _, ⟨T2, L2, k2, n2⟩, -, X2, ⟨Lc2, hQ2, l2, y2, z2⟩, st2⟩ := X0.virtualBack hx (y := yN0) (z := yN0) hown (mvT hZ (hU 50 _ rfl)) (mvT hZ (hU 51 _ rfl)) (notFace_of_selects (args := #[]) (mvT hZ (hU 53 _ rfl))) (mvT hZ (hU 53 _ rfl)) (mvT hZ (hU 52 _ rfl)) (by decide) (backOf (W := 0) (rmLen l Z a0 hw [] a1 b kb z vs (.int 0) cs h0 n0 Z0 E_a1 F_coder_a1 F_value_a1 A_b S_String_COMPACT_STRINGS hcs) hZ (hU 54 _ rfl) (hU 7 _ rfl) (by decide) (by decide)) q2a q2c (g := (mkF m 1 (fA56 a1 p1 z) [(.ref a1)])) rfl (by rw [hml]; rfl) (Steps.refl _) (argsL := []) (rest := []) (lenOf pd_20 rfl) rfl (Nat.le_of_eq rfl) (hb hby d17_1) (fun _ _ => ⟨rfl, e0, (by decide : 0 + 0 ≤ _), (by decide : 0 + 0 ≤ _)⟩)
 dsimp only [Pt.U, Pt.locs, Pt.cells, Pt.slots] at X2 l2 y2 z2 st2 hQ2
 subst l2 y2 z2
 obtain ⟨rfl, N2q, p2_0⟩ := hQ2
 have N2 := Fr.app N0 N2q
 have R3 := fun t k => R1 t (st2.trans k)
 have R4 : own_R p e below T2 (mkF m 4 (fA56 a1 p1 z) [(.int z)]) s₁ f0 := by have q := R3; rw [((own_sh z) : (z >>> ((0 : Int32) &&& 31)) = z)] at q; exact q
 have R5 : own_R p e below T2 (mkF m 8 (fA72 a1 p1 z) [(.int z), (.int z), (.int p1)]) s₁ f0 := fun t k => R4 t (by
  refine XS.istoreN X2.here hx rfl (hb hby d17_4) rfl (l' := (fA72 a1 p1 z)) rfl ?_
  refine XS.iloadN X2.here hx rfl (hb hby d17_5) rfl ?_
  refine XS.iloadN X2.here hx rfl (hb hby d17_6) rfl ?_
  refine XS.iloadN X2.here hx rfl (hb hby d17_7) rfl ?_
  exact k)
 obtain ⟨_, _, ⟨T6, L6, k6, n6⟩, -, X6, ⟨Lc6, hQ6, l6, y6, z6⟩, st6⟩ := Jvm.LawKit.callS X2 hx (y := yN22) hown (mvT hZ (hU 92 _ rfl)) (mvT hZ (hU 93 _ rfl)) (mvT hZ (hU 7 _ rfl)) (mvT hZ (hU 94 _ rfl)) (by decide) (backOf (W := 0) (rmCbe l Z a0 hw [] p1 z z sf h0 n0 Z0 S_Preconditions_SIOOBE_FORMATTER hsf hlo hmi (own_irr z)) hZ (hU 94 _ rfl) (hU 7 _ rfl) (by decide) (by decide)) (g := (mkF m 8 (fA72 a1 p1 z) [(.int z), (.int z), (.int p1)])) rfl (by rw [hml]; rfl) (argsL := [(.int p1), (.int z), (.int z)]) (rest := []) (lenOf pd_23 rfl) rfl (Nat.le_of_eq rfl) (hb hby d17_8) (fun _ _ => ⟨rfl, p2_0, (by decide : 0 + 0 ≤ _), (by decide : 0 + 0 ≤ _)⟩)
 dsimp only [Pt.U, Pt.locs, Pt.cells, Pt.slots] at X6 l6 y6 z6 st6 hQ6
 subst l6 y6 z6
 obtain ⟨rfl, N6q, p6_0⟩ := hQ6
 have N6 := Fr.app N2 N6q
 have R7 := fun t k => R5 t (st6 t k)
 have R8 : own_R p e below T6 (mkF m 25 (fA72 a1 p1 z) [(.int (z - p1))]) s₁ f0 := fun t k => R7 t (by
  refine XS.iloadN X6.here hx rfl (hb hby d17_11) rfl ?_
  refine XS.ifYes X6.here hx rfl (pc0 := 12) (pc' := 22) rfl (hb hby d17_12) rfl ((if0 _ _).trans (feq hne).2) (by decide) (by decide) ?_
  refine XS.iloadN X6.here hx rfl (hb hby d17_22) rfl ?_
  refine XS.iloadN X6.here hx rfl (hb hby d17_23) rfl ?_
  refine XS.isub X6.here hx rfl (hb hby d17_24) rfl ?_
  exact k)
 have R9 : own_R p e below T6 (mkF m 25 (fA72 a1 p1 z) [(.int p2)]) s₁ f0 := by have q := R8; rw [(hp3 : (z - p1) = p2)] at q; exact q
 have R10 : own_R p e below T6 (mkF m 28 (fA49 a1 p1 p2 z) [(.ref a1)]) s₁ f0 := fun t k => R9 t (by
  refine XS.istore X6.here hx rfl (hb hby d17_25) rfl (l' := (fA49 a1 p1 p2 z)) rfl ?_
  refine XS.aloadN X6.here hx rfl (hb hby d17_27) rfl rfl ?_
  exact k)
 obtain ⟨cq11, kq11, q11a, q11b, q11c⟩ := isOf hZ p6_0 E_a1
 obtain ⟨_, _, ⟨T11, L11, k11, n11⟩, -, X11, ⟨Lc11, hQ11, l11, y11, z11⟩, st11⟩ := X6.virtualBack hx (y := yN12) (z := yN12) hown (mvT hZ (hU 66 _ rfl)) (mvT hZ (hU 67 _ rfl)) (notFace_of_selects (args := #[]) (mvT hZ (hU 69 _ rfl))) (mvT hZ (hU 69 _ rfl)) (mvT hZ (hU 68 _ rfl)) (by decide) (backOf (W := 0) (rmLat l Z a0 hw [] a1 cs h0 n0 Z0 S_String_COMPACT_STRINGS hcs F_coder_a1) hZ (hU 70 _ rfl) (hU 7 _ rfl) (by decide) (by decide)) q11a q11c (g := (mkF m 28 (fA49 a1 p1 p2 z) [(.ref a1)])) rfl (by rw [hml]; rfl) (Steps.refl _) (argsL := []) (rest := []) (lenOf pd_7 rfl) rfl (Nat.le_of_eq rfl) (hb hby d17_28) (fun _ _ => ⟨rfl, p6_0, (by decide : 0 + 0 ≤ _), (by decide : 0 + 0 ≤ _)⟩)
 dsimp only [Pt.U, Pt.locs, Pt.cells, Pt.slots] at X11 l11 y11 z11 st11 hQ11
 subst l11 y11 z11
 obtain ⟨rfl, N11q, p11_0⟩ := hQ11
 have N11 := Fr.app N6 N11q
 have R12 := fun t k => R10 t (st11.trans k)
 have R13 : own_R p e below T11 (mkF m 35 (fA49 a1 p1 p2 z) [(.ref a1)]) s₁ f0 := fun t k => R12 t (by
  refine XS.ifNo X11.here hx rfl (hb hby d17_31) rfl ((if0 _ _).trans (feq (by decide : ¬ ((1 : Int32) = (0 : Int32)))).1) ?_
  refine XS.aloadN X11.here hx rfl (hb hby d17_34) rfl rfl ?_
  exact k)
 obtain ⟨T14, X14, e14, R15⟩ := own_gF R13 X11 hx hZ hown (host := "") (Or.inl (hU 27 _ rfl)) Via.refl p11_0 F_value_a1 rfl rfl (hb hby d17_35)
 have R16 : own_R p e below T14 (mkF m 41 (fA49 a1 p1 p2 z) [(.int p2), (.int p1), (.ref b)]) s₁ f0 := fun t k => R15 t (by
  refine XS.iloadN X14.here hx rfl (hb hby d17_38) rfl ?_
  refine XS.iload X14.here hx rfl (hb hby d17_39) rfl ?_
  exact k)
 obtain ⟨_, _, ⟨T17, L17, k17, n17⟩, -, X17, ⟨Lc17, hQ17, l17, y17, z17⟩, st17⟩ := Jvm.LawKit.callS X14 hx (y := yN21) hown (mvT hZ (hU 125 _ rfl)) (mvT hZ (hU 126 _ rfl)) (mvT hZ (hU 73 _ rfl)) (mvT hZ (hU 127 _ rfl)) (by decide) (backOf (W := 0) (rmNwM l Z a0 hw [] b kb z vs p1 p2 ys h0 n0 Z0 A_b hne hn2 heZ hB) hZ (hU 127 _ rfl) (hU 73 _ rfl) (by decide) (by decide)) (g := (mkF m 41 (fA49 a1 p1 p2 z) [(.int p2), (.int p1), (.ref b)])) rfl (by rw [hml]; rfl) (argsL := [(.ref b), (.int p1), (.int p2)]) (rest := []) (lenOf pd_25 rfl) rfl (Nat.le_of_eq rfl) (hb hby d17_41) (fun _ _ => ⟨rfl, e14, (by decide : 0 + 2 ≤ _), (by decide : 0 + 7 ≤ _)⟩)
 dsimp only [Pt.U, Pt.locs, Pt.cells, Pt.slots] at X17 l17 y17 z17 st17 hQ17
 subst l17 y17 z17
 obtain ⟨r_17, b2_17, kb2_17, rfl, N17q, p17_0, p17_1, p17_2, p17_3, p17_4, p17_5, p17_6⟩ := hQ17
 have N17 := Fr.app N11 N17q
 have f17_E_a1 := E_a1.keep p17_0
 have f17_F_coder_a1 := F_coder_a1.keep p17_0 nin0
 have f17_F_value_a1 := F_value_a1.keep p17_0 nin0
 have f17_A_b := A_b.keep p17_0 nin0
 have f17_S_String_COMPACT_STRINGS := own_sta_keep S_String_COMPACT_STRINGS p17_0 ns0
 have f17_S_Preconditions_SIOOBE_FORMATTER := own_sta_keep S_Preconditions_SIOOBE_FORMATTER p17_0 ns0
 have z17 : n0 ≤ T17.heap.size := Nat.le_trans Z0 p17_0.1
 have K17 : Keep h0 T17.heap [] := (Keep.refl h0 []).trans p17_0 all0
 have g_r_17 : n0 ≤ r_17 := Nat.le_trans Z0 p17_5
 have sz_r_17 : h0.size ≤ r_17 := Nat.le_trans (Keep.refl h0 []).1 p17_5
 have ne_a1_r_17 : a1 ≠ r_17 := Nat.ne_of_lt (Nat.lt_of_lt_of_le F_coder_a1.lt p17_5)
 have ne_b_r_17 : b ≠ r_17 := Nat.ne_of_lt (Nat.lt_of_lt_of_le A_b.lt p17_5)
 have g_b2_17 : n0 ≤ b2_17 := Nat.le_trans Z0 p17_6
 have sz_b2_17 : h0.size ≤ b2_17 := Nat.le_trans (Keep.refl h0 []).1 p17_6
 have ne_a1_b2_17 : a1 ≠ b2_17 := Nat.ne_of_lt (Nat.lt_of_lt_of_le F_coder_a1.lt p17_6)
 have ne_b_b2_17 : b ≠ b2_17 := Nat.ne_of_lt (Nat.lt_of_lt_of_le A_b.lt p17_6)
 have R18 := fun t k => R16 t (st17 t k)
 have R19 : own_R p e below T17 (mkF m 57 (fA49 a1 p1 p2 z) [(.ref r_17)]) s₁ f0 := fun t k => R18 t (by
  refine XS.goto X17.here hx rfl (pc0 := 44) (pc' := 57) rfl (hb hby d17_44) (by decide) (by decide) ?_
  exact k)
 obtain ⟨fs, hr, hrun, hended, hW, hsame⟩ := X17.leave (v := some (.ref r_17)) (fun h => by rw [Bd.returns] at h; cases h)
 refine ⟨_, _, pre0 _ (R19 _ ?_), hrun, hended, _, _, rfl, ?_, ⟨_, rfl⟩, hW, hsame.mono (by decide) (by decide)⟩
 ·
  show own_S p e below T17 (mkF m 57 (fA49 a1 p1 p2 z) [(.ref r_17)]) _
  exact retOut X17 hx (t := (.object "java/lang/String")) Bd.returns rfl (Or.inr (Or.inr (Or.inr (Or.inr ⟨rfl, rfl, rfl⟩)))) (hb hby d17_57) hr
 ·
  show (Q_rmNw Z p2 ys h0 n0) _ T17.heap _
  exact ⟨r_17, b2_17, kb2_17, rfl, N17, K17, p17_1, p17_2, p17_3, p17_4, sz_r_17, sz_b2_17⟩
theorem ef_rmSxM (m : MethodId) (x0 : Addr) (x1 : Int32) : entryFrame m #[(.ref x0), (.int x1)] 2 = mkF m 0 #[rv x0, iv x1] [] := by first | (simp [entryFrame, mkF, argsToLocals, Value.category]; done) | rfl
set_option maxRecDepth 65536 in
set_option maxHeartbeats 40000000 in
theorem rmSxM (l : Launch) (Z : State) (a0 : Array Value) (hw : ∀ d ∈ tables_1, d.before a0 Z = true) (ws : List Jvm.Cond) (a1 : Addr) (b : Addr) (kb : ClassId) (z : Int32) (vs : List Value) (cs : Int32) (sf : Value) (p1 : Int32) (p2 : Int32) (ys : List Value) (h0 : Heap) (n0 : Nat) (Z0 : n0 ≤ h0.size) (E_a1 : Exa Z h0 a1 "java/lang/String") (F_coder_a1 : Fld Z h0 a1 "java/lang/String" "coder" "B" (.int 0)) (F_value_a1 : Fld Z h0 a1 "java/lang/String" "value" "[B" (.ref b)) (A_b : Arv Z h0 b kb .byte z vs (.int 0)) (S_String_COMPACT_STRINGS : Sta Z h0 "java/lang/String" "COMPACT_STRINGS" "Z" (.int cs)) (hcs : ¬ cs = (0 : Int32)) (S_Preconditions_SIOOBE_FORMATTER : Sta Z h0 sN2 "SIOOBE_FORMATTER" sN3 sf) (hsf : sf.isRef = true) (hlo : ¬ p1 < (0 : Int32)) (hmi : ¬ z < p1) (hp3 : z - p1 = p2) (hne : ¬ p1 = (0 : Int32)) (hn2 : ¬ p2 = (0 : Int32)) (heZ : p1 + p2 = z) (hB : ∀ h1 : Heap, n0 ≤ h1.size → Arv Z h1 b kb .byte z vs (.int 0) → own_M l yN3 [Jvm.Cond.code yN3 jdk_65_method_133_code 5 (some (.array .byte))] ({ frames := 1, cells := 1, slots := 3, locals := 18 } : Room) #[(.ref b), (.int p1), (.int z)] Z h1 (Q_rmCp Z p2 ys h1 n0)) :
  own_M l yN11 (Jvm.Cond.code yN11 jdk_42_method_91_code 2 (some (.object "java/lang/String")) :: ws) ({ frames := 5, cells := 2, slots := 7, locals := 80 } : Room) #[(.ref a1), (.int p1)] Z h0 (Q_rmNw Z p2 ys h0 n0) := by
 refine MetFree.of_bodySF (plainFor_of_name pn_1) hisR ?_
 intro p e s m args below meth c s₁ Bd hml0 hP hK
 obtain ⟨rfl, hZ, hh⟩ := hP
 have hx := Bd.exec
 have hby := Bd.bytes
 have hml : c.maxLocals = 2 := hml0
 have hown : s.vm.findClass "java/lang/String" = some m.cls := findClass_of_methodNamed Bd.named
 have hnm := (name_of_methodNamed Bd.named Bd.method).1
 have X0 : Stand p l e ({ frames := 5, cells := 2, slots := 7, locals := 80 } : Room) s m #[(.ref a1), (.int p1)] below meth c s₁ [] 0 0 := Stand.of_body Bd
 have hU : ∀ (i : Nat) (d : Jvm.Cond), tables_1[i]? = some d → d.before a0 Z = true := fun i d h => hw d (List.mem_of_getElem? h)
 have e0 : s₁.heap = h0 := by rw [← hh, Bd.state]; rfl
 have N0 := Fr.nil n0
 obtain ⟨f0, hf0⟩ : ∃ f : JFrame, f = mkF m 0 #[rv a1, iv p1] [] := ⟨_, rfl⟩
 have pre0 : ∀ t, own_S p e below s₁ f0 t → Steps p.tables e below (s₁.setTop (entryFrame m #[(.ref a1), (.int p1)] 2)) t := fun t k => castTop ((ef_rmSxM m a1 p1).trans hf0.symm) k
 have R0 : own_R p e below s₁ (mkF m 0 #[rv a1, iv p1] []) s₁ f0 := by rw [hf0]; exact fun t k => k
 have R1 : own_R p e below s₁ (mkF m 3 #[rv a1, iv p1] [(.ref a1), (.int p1), (.ref a1)]) s₁ f0 := fun t k => R0 t (by
  refine XS.aloadN X0.here hx rfl (hb hby d16_0) rfl rfl ?_
  refine XS.iloadN X0.here hx rfl (hb hby d16_1) rfl ?_
  refine XS.aloadN X0.here hx rfl (hb hby d16_2) rfl rfl ?_
  exact k)
 obtain ⟨cq2, kq2, q2a, q2b, q2c⟩ := isOf hZ e0 E_a1
 obtain ⟨_, _, ⟨T2, L2, k2, n2⟩, -, X2, ⟨Lc2, hQ2, l2, y2, z2⟩, st2⟩ := X0.virtualBack hx (y := yN0) (z := yN0) hown (mvT hZ (hU 50 _ rfl)) (mvT hZ (hU 51 _ rfl)) (notFace_of_selects (args := #[]) (mvT hZ (hU 53 _ rfl))) (mvT hZ (hU 53 _ rfl)) (mvT hZ (hU 52 _ rfl)) (by decide) (backOf (W := 2) (rmLen l Z a0 hw [] a1 b kb z vs (.int 0) cs h0 n0 Z0 E_a1 F_coder_a1 F_value_a1 A_b S_String_COMPACT_STRINGS hcs) hZ (hU 54 _ rfl) (hU 7 _ rfl) (by decide) (by decide)) q2a q2c (g := (mkF m 3 #[rv a1, iv p1] [(.ref a1), (.int p1), (.ref a1)])) rfl (by rw [hml]; rfl) (Steps.refl _) (argsL := []) (rest := [(.int p1), (.ref a1)]) (lenOf pd_20 rfl) rfl (Nat.le_of_eq rfl) (hb hby d16_3) (fun _ _ => ⟨rfl, e0, (by decide : 0 + 0 ≤ _), (by decide : 0 + 0 ≤ _)⟩)
 dsimp only [Pt.U, Pt.locs, Pt.cells, Pt.slots] at X2 l2 y2 z2 st2 hQ2
 subst l2 y2 z2
 obtain ⟨rfl, N2q, p2_0⟩ := hQ2
 have N2 := Fr.app N0 N2q
 have R3 := fun t k => R1 t (st2.trans k)
 have R4 : own_R p e below T2 (mkF m 6 #[rv a1, iv p1] [(.int z), (.int p1), (.ref a1)]) s₁ f0 := by have q := R3; rw [((own_sh z) : (z >>> ((0 : Int32) &&& 31)) = z)] at q; exact q
 obtain ⟨cq5, kq5, q5a, q5b, q5c⟩ := isOf hZ p2_0 E_a1
 obtain ⟨_, _, ⟨T5, L5, k5, n5⟩, -, X5, ⟨Lc5, hQ5, l5, y5, z5⟩, st5⟩ := X2.virtualBack hx (y := yN10) (z := yN10) hown (mvT hZ (hU 87 _ rfl)) (mvT hZ (hU 88 _ rfl)) (notFace_of_selects (args := #[]) (mvT hZ (hU 90 _ rfl))) (mvT hZ (hU 90 _ rfl)) (mvT hZ (hU 89 _ rfl)) (by decide) (backOf (W := 0) (rmSiM l Z a0 hw [] a1 b kb z vs cs sf p1 p2 ys h0 n0 Z0 E_a1 F_coder_a1 F_value_a1 A_b S_String_COMPACT_STRINGS hcs S_Preconditions_SIOOBE_FORMATTER hsf hlo hmi hp3 hne hn2 heZ hB) hZ (hU 91 _ rfl) (hU 7 _ rfl) (by decide) (by decide)) q5a q5c (g := (mkF m 6 #[rv a1, iv p1] [(.int z), (.int p1), (.ref a1)])) rfl (by rw [hml]; rfl) (Steps.refl _) (argsL := [(.int p1), (.int z)]) (rest := []) (lenOf pd_24 rfl) rfl (Nat.le_of_eq rfl) (hb hby d16_6) (fun _ _ => ⟨rfl, p2_0, (by decide : 0 + 2 ≤ _), (by decide : 0 + 7 ≤ _)⟩)
 dsimp only [Pt.U, Pt.locs, Pt.cells, Pt.slots] at X5 l5 y5 z5 st5 hQ5
 subst l5 y5 z5
 obtain ⟨r_5, b2_5, kb2_5, rfl, N5q, p5_0, p5_1, p5_2, p5_3, p5_4, p5_5, p5_6⟩ := hQ5
 have N5 := Fr.app N2 N5q
 have f5_E_a1 := E_a1.keep p5_0
 have f5_F_coder_a1 := F_coder_a1.keep p5_0 nin0
 have f5_F_value_a1 := F_value_a1.keep p5_0 nin0
 have f5_A_b := A_b.keep p5_0 nin0
 have f5_S_String_COMPACT_STRINGS := own_sta_keep S_String_COMPACT_STRINGS p5_0 ns0
 have f5_S_Preconditions_SIOOBE_FORMATTER := own_sta_keep S_Preconditions_SIOOBE_FORMATTER p5_0 ns0
 have z5 : n0 ≤ T5.heap.size := Nat.le_trans Z0 p5_0.1
 have K5 : Keep h0 T5.heap [] := (Keep.refl h0 []).trans p5_0 all0
 have g_r_5 : n0 ≤ r_5 := Nat.le_trans Z0 p5_5
 have sz_r_5 : h0.size ≤ r_5 := Nat.le_trans (Keep.refl h0 []).1 p5_5
 have ne_a1_r_5 : a1 ≠ r_5 := Nat.ne_of_lt (Nat.lt_of_lt_of_le F_coder_a1.lt p5_5)
 have ne_b_r_5 : b ≠ r_5 := Nat.ne_of_lt (Nat.lt_of_lt_of_le A_b.lt p5_5)
 have g_b2_5 : n0 ≤ b2_5 := Nat.le_trans Z0 p5_6
 have sz_b2_5 : h0.size ≤ b2_5 := Nat.le_trans (Keep.refl h0 []).1 p5_6
 have ne_a1_b2_5 : a1 ≠ b2_5 := Nat.ne_of_lt (Nat.lt_of_lt_of_le F_coder_a1.lt p5_6)
 have ne_b_b2_5 : b ≠ b2_5 := Nat.ne_of_lt (Nat.lt_of_lt_of_le A_b.lt p5_6)
 have R6 := fun t k => R4 t (st5.trans k)
 obtain ⟨fs, hr, hrun, hended, hW, hsame⟩ := X5.leave (v := some (.ref r_5)) (fun h => by rw [Bd.returns] at h; cases h)
 refine ⟨_, _, pre0 _ (R6 _ ?_), hrun, hended, _, _, rfl, ?_, ⟨_, rfl⟩, hW, hsame.mono (by decide) (by decide)⟩
 ·
  show own_S p e below T5 (mkF m 9 #[rv a1, iv p1] [(.ref r_5)]) _
  exact retOut X5 hx (t := (.object "java/lang/String")) Bd.returns rfl (Or.inr (Or.inr (Or.inr (Or.inr ⟨rfl, rfl, rfl⟩)))) (hb hby d16_9) hr
 ·
  show (Q_rmNw Z p2 ys h0 n0) _ T5.heap _
  exact ⟨r_5, b2_5, kb2_5, rfl, N5, K5, p5_1, p5_2, p5_3, p5_4, sz_r_5, sz_b2_5⟩
theorem ef_rmSiE (m : MethodId) (x0 : Addr) (x1 : Int32) (x2 : Int32) : entryFrame m #[(.ref x0), (.int x1), (.int x2)] 5 = mkF m 0 (fA46 x0 x1 x2) [] := by first | (simp [entryFrame, mkF, argsToLocals, Value.category]; done) | rfl
set_option maxRecDepth 65536 in
set_option maxHeartbeats 40000000 in
theorem rmSiE (l : Launch) (Z : State) (a0 : Array Value) (hw : ∀ d ∈ tables_1, d.before a0 Z = true) (ws : List Jvm.Cond) (a1 : Addr) (b : Addr) (kb : ClassId) (z : Int32) (vs : List Value) (cs : Int32) (sf : Value) (h0 : Heap) (n0 : Nat) (Z0 : n0 ≤ h0.size) (E_a1 : Exa Z h0 a1 "java/lang/String") (F_coder_a1 : Fld Z h0 a1 "java/lang/String" "coder" "B" (.int 0)) (F_value_a1 : Fld Z h0 a1 "java/lang/String" "value" "[B" (.ref b)) (A_b : Arv Z h0 b kb .byte z vs (.int 0)) (S_String_COMPACT_STRINGS : Sta Z h0 "java/lang/String" "COMPACT_STRINGS" "Z" (.int cs)) (hcs : ¬ cs = (0 : Int32)) (S_Preconditions_SIOOBE_FORMATTER : Sta Z h0 sN2 "SIOOBE_FORMATTER" sN3 sf) (hsf : sf.isRef = true) (hz : ¬ z < (0 : Int32)) (hzn : ¬ z = (0 : Int32)) :
  own_MS l yN10 (Jvm.Cond.code yN10 jdk_42_method_92_code 5 (some (.object "java/lang/String")) :: ws) ({ frames := 2, cells := 2, slots := 4, locals := 29 } : Room) #[(.ref a1), (.int z), (.int z)] Z h0 (Q_rmNe Z h0 n0) := by
 refine MetFree.of_bodySF (plainFor_of_name pn_1) hisR ?_
 intro p e s m args below meth c s₁ Bd hml0 hP hK
 obtain ⟨rfl, hZ, hh, hCH⟩ := hP
 have hx := Bd.exec
 have hby := Bd.bytes
 have hml : c.maxLocals = 5 := hml0
 have hown : s.vm.findClass "java/lang/String" = some m.cls := findClass_of_methodNamed Bd.named
 have hnm := (name_of_methodNamed Bd.named Bd.method).1
 have X0 : Stand p l e ({ frames := 2, cells := 2, slots := 4, locals := 29 } : Room) s m #[(.ref a1), (.int z), (.int z)] below meth c s₁ [] 0 0 := Stand.of_body Bd
 have hU : ∀ (i : Nat) (d : Jvm.Cond), tables_1[i]? = some d → d.before a0 Z = true := fun i d h => hw d (List.mem_of_getElem? h)
 have hEL : EW Z a0 own_EL := own_ew hU
 have e0 : s₁.heap = h0 := by rw [← hh, Bd.state]; rfl
 have N0 := Fr.nil n0
 obtain ⟨f0, hf0⟩ : ∃ f : JFrame, f = mkF m 0 (fA66 a1 z) [] := ⟨_, rfl⟩
 have pre0 : ∀ t, own_S p e below s₁ f0 t → Steps p.tables e below (s₁.setTop (entryFrame m #[(.ref a1), (.int z), (.int z)] 5)) t := fun t k => castTop ((ef_rmSiE m a1 z z).trans hf0.symm) k
 have R0 : own_R p e below s₁ (mkF m 0 (fA66 a1 z) []) s₁ f0 := by rw [hf0]; exact fun t k => k
 have R1 : own_R p e below s₁ (mkF m 1 (fA66 a1 z) [(.ref a1)]) s₁ f0 := fun t k => R0 t (by
  refine XS.aloadN X0.here hx rfl (hb hby d17_0) rfl rfl ?_
  exact k)
 obtain ⟨cq2, kq2, q2a, q2b, q2c⟩ := isOf hZ e0 E_a1
 obtain ⟨_, _, ⟨T2, L2, k2, n2⟩, -, X2, ⟨Lc2, hQ2, l2, y2, z2⟩, st2⟩ := X0.virtualBack hx (y := yN0) (z := yN0) hown (mvT hZ (hU 50 _ rfl)) (mvT hZ (hU 51 _ rfl)) (notFace_of_selects (args := #[]) (mvT hZ (hU 53 _ rfl))) (mvT hZ (hU 53 _ rfl)) (mvT hZ (hU 52 _ rfl)) (by decide) (backOf (W := 0) (rmLen l Z a0 hw [] a1 b kb z vs (.int 0) cs h0 n0 Z0 E_a1 F_coder_a1 F_value_a1 A_b S_String_COMPACT_STRINGS hcs) hZ (hU 54 _ rfl) (hU 7 _ rfl) (by decide) (by decide)) q2a q2c (g := (mkF m 1 (fA66 a1 z) [(.ref a1)])) rfl (by rw [hml]; rfl) (Steps.refl _) (argsL := []) (rest := []) (lenOf pd_20 rfl) rfl (Nat.le_of_eq rfl) (hb hby d17_1) (fun _ _ => ⟨rfl, e0, (by decide : 0 + 0 ≤ _), (by decide : 0 + 0 ≤ _)⟩)
 dsimp only [Pt.U, Pt.locs, Pt.cells, Pt.slots] at X2 l2 y2 z2 st2 hQ2
 subst l2 y2 z2
 obtain ⟨rfl, N2q, p2_0⟩ := hQ2
 have N2 := Fr.app N0 N2q
 have R3 := fun t k => R1 t (st2.trans k)
 have R4 : own_R p e below T2 (mkF m 4 (fA66 a1 z) [(.int z)]) s₁ f0 := by have q := R3; rw [((own_sh z) : (z >>> ((0 : Int32) &&& 31)) = z)] at q; exact q
 have R5 : own_R p e below T2 (mkF m 8 (fA74 a1 z) [(.int z), (.int z), (.int z)]) s₁ f0 := fun t k => R4 t (by
  refine XS.istoreN X2.here hx rfl (hb hby d17_4) rfl (l' := (fA74 a1 z)) rfl ?_
  refine XS.iloadN X2.here hx rfl (hb hby d17_5) rfl ?_
  refine XS.iloadN X2.here hx rfl (hb hby d17_6) rfl ?_
  refine XS.iloadN X2.here hx rfl (hb hby d17_7) rfl ?_
  exact k)
 obtain ⟨_, _, ⟨T6, L6, k6, n6⟩, -, X6, ⟨Lc6, hQ6, l6, y6, z6⟩, st6⟩ := Jvm.LawKit.callS X2 hx (y := yN22) hown (mvT hZ (hU 92 _ rfl)) (mvT hZ (hU 93 _ rfl)) (mvT hZ (hU 7 _ rfl)) (mvT hZ (hU 94 _ rfl)) (by decide) (backOf (W := 0) (rmCbe l Z a0 hw [] z z z sf h0 n0 Z0 S_Preconditions_SIOOBE_FORMATTER hsf hz (own_irr z) (own_irr z)) hZ (hU 94 _ rfl) (hU 7 _ rfl) (by decide) (by decide)) (g := (mkF m 8 (fA74 a1 z) [(.int z), (.int z), (.int z)])) rfl (by rw [hml]; rfl) (argsL := [(.int z), (.int z), (.int z)]) (rest := []) (lenOf pd_23 rfl) rfl (Nat.le_of_eq rfl) (hb hby d17_8) (fun _ _ => ⟨rfl, p2_0, (by decide : 0 + 0 ≤ _), (by decide : 0 + 0 ≤ _)⟩)
 dsimp only [Pt.U, Pt.locs, Pt.cells, Pt.slots] at X6 l6 y6 z6 st6 hQ6
 subst l6 y6 z6
 obtain ⟨rfl, N6q, p6_0⟩ := hQ6
 have N6 := Fr.app N2 N6q
 have R7 := fun t k => R5 t (st6 t k)
 have R8 : own_R p e below T6 (mkF m 25 (fA74 a1 z) [(.int (z - z))]) s₁ f0 := fun t k => R7 t (by
  refine XS.iloadN X6.here hx rfl (hb hby d17_11) rfl ?_
  refine XS.ifYes X6.here hx rfl (pc0 := 12) (pc' := 22) rfl (hb hby d17_12) rfl ((if0 _ _).trans (feq hzn).2) (by decide) (by decide) ?_
  refine XS.iloadN X6.here hx rfl (hb hby d17_22) rfl ?_
  refine XS.iloadN X6.here hx rfl (hb hby d17_23) rfl ?_
  refine XS.isub X6.here hx rfl (hb hby d17_24) rfl ?_
  exact k)
 have R9 : own_R p e below T6 (mkF m 25 (fA74 a1 z) [(.int 0)]) s₁ f0 := by have q := R8; rw [((own_ss z) : (z - z) = (0 : Int32))] at q; exact q
 have R10 : own_R p e below T6 (mkF m 28 #[rv a1, iv z, iv z, iv z, iv 0] [(.ref a1)]) s₁ f0 := fun t k => R9 t (by
  refine XS.istore X6.here hx rfl (hb hby d17_25) rfl (l' := #[rv a1, iv z, iv z, iv z, iv 0]) rfl ?_
  refine XS.aloadN X6.here hx rfl (hb hby d17_27) rfl rfl ?_
  exact k)
 obtain ⟨cq11, kq11, q11a, q11b, q11c⟩ := isOf hZ p6_0 E_a1
 obtain ⟨_, _, ⟨T11, L11, k11, n11⟩, -, X11, ⟨Lc11, hQ11, l11, y11, z11⟩, st11⟩ := X6.virtualBack hx (y := yN12) (z := yN12) hown (mvT hZ (hU 66 _ rfl)) (mvT hZ (hU 67 _ rfl)) (notFace_of_selects (args := #[]) (mvT hZ (hU 69 _ rfl))) (mvT hZ (hU 69 _ rfl)) (mvT hZ (hU 68 _ rfl)) (by decide) (backOf (W := 0) (rmLat l Z a0 hw [] a1 cs h0 n0 Z0 S_String_COMPACT_STRINGS hcs F_coder_a1) hZ (hU 70 _ rfl) (hU 7 _ rfl) (by decide) (by decide)) q11a q11c (g := (mkF m 28 #[rv a1, iv z, iv z, iv z, iv 0] [(.ref a1)])) rfl (by rw [hml]; rfl) (Steps.refl _) (argsL := []) (rest := []) (lenOf pd_7 rfl) rfl (Nat.le_of_eq rfl) (hb hby d17_28) (fun _ _ => ⟨rfl, p6_0, (by decide : 0 + 0 ≤ _), (by decide : 0 + 0 ≤ _)⟩)
 dsimp only [Pt.U, Pt.locs, Pt.cells, Pt.slots] at X11 l11 y11 z11 st11 hQ11
 subst l11 y11 z11
 obtain ⟨rfl, N11q, p11_0⟩ := hQ11
 have N11 := Fr.app N6 N11q
 have R12 := fun t k => R10 t (st11.trans k)
 have R13 : own_R p e below T11 (mkF m 35 #[rv a1, iv z, iv z, iv z, iv 0] [(.ref a1)]) s₁ f0 := fun t k => R12 t (by
  refine XS.ifNo X11.here hx rfl (hb hby d17_31) rfl ((if0 _ _).trans (feq (by decide : ¬ ((1 : Int32) = (0 : Int32)))).1) ?_
  refine XS.aloadN X11.here hx rfl (hb hby d17_34) rfl rfl ?_
  exact k)
 obtain ⟨T14, X14, e14, R15⟩ := own_gF R13 X11 hx hZ hown (host := "") (Or.inl (hU 27 _ rfl)) Via.refl p11_0 F_value_a1 rfl rfl (hb hby d17_35)
 have R16 : own_R p e below T14 (mkF m 41 #[rv a1, iv z, iv z, iv z, iv 0] [(.int 0), (.int z), (.ref b)]) s₁ f0 := fun t k => R15 t (by
  refine XS.iloadN X14.here hx rfl (hb hby d17_38) rfl ?_
  refine XS.iload X14.here hx rfl (hb hby d17_39) rfl ?_
  exact k)
 obtain ⟨_, _, ⟨T17, L17, k17, n17⟩, -, X17, S17, gq17, ⟨Lc17, hQ17, l17, y17, z17⟩, st17⟩ := Jvm.RoadKit.callSS X14 hx (y := yN21) hown (mvT hZ (hU 125 _ rfl)) (mvT hZ (hU 126 _ rfl)) (mvT hZ (hU 73 _ rfl)) (mvT hZ (hU 127 _ rfl)) (by decide) (own_backS (s := s) (vm0 := s.vm) (W := 0) (rmNwE l Z a0 hw [] b z h0 n0 Z0) hZ (hU 127 _ rfl) (hU 73 _ rfl) (by decide) (by decide) hEL hCH) (g := (mkF m 41 #[rv a1, iv z, iv z, iv z, iv 0] [(.int 0), (.int z), (.ref b)])) rfl (by rw [hml]; rfl) (argsL := [(.ref b), (.int z), (.int 0)]) (rest := []) (lenOf pd_25 rfl) rfl (Nat.le_of_eq rfl) (hb hby d17_41) (fun _ _ => ⟨rfl, e14, (by decide : 0 + 2 ≤ _), (by decide : 0 + 4 ≤ _)⟩)
 dsimp only [Pt.U, Pt.locs, Pt.cells, Pt.slots] at X17 l17 y17 z17 st17 hQ17 S17 gq17
 subst l17 y17 z17
 have hZ : Z.Warmed39 (s.setVm T17.vm).vm := State.Warmed39.trans (t := s) hZ S17.1
 have hown : (s.setVm T17.vm).vm.findClass "java/lang/String" = some m.cls := by rw [show (s.setVm T17.vm).vm = T17.vm from rfl, S17.1.alike.findClass]; exact hown
 obtain ⟨r_17, b2_17, kb2_17, rfl, N17q, p17_0, p17_1, p17_2, p17_3, p17_4⟩ := hQ17
 have N17 := Fr.app N11 N17q
 have f17_E_a1 := E_a1.keep p17_0
 have f17_F_coder_a1 := F_coder_a1.keep p17_0 nin0
 have f17_F_value_a1 := F_value_a1.keep p17_0 nin0
 have f17_A_b := A_b.keep p17_0 nin0
 have f17_S_String_COMPACT_STRINGS := own_sta_keep S_String_COMPACT_STRINGS p17_0 ns0
 have f17_S_Preconditions_SIOOBE_FORMATTER := own_sta_keep S_Preconditions_SIOOBE_FORMATTER p17_0 ns0
 have z17 : n0 ≤ T17.heap.size := Nat.le_trans Z0 p17_0.1
 have K17 : Keep h0 T17.heap [] := (Keep.refl h0 []).trans p17_0 all0
 have R18 := fun t k => R16 t (st17.trans k)
 have R19 : own_R p e below T17 (mkF m 57 #[rv a1, iv z, iv z, iv z, iv 0] [(.ref r_17)]) s₁ f0 := fun t k => R18 t (by
  refine XS.goto X17.here hx rfl (pc0 := 44) (pc' := 57) rfl (hb hby d17_44) (by decide) (by decide) ?_
  exact k)
 obtain ⟨fs, hr, hrun, hended, hend⟩ := X17.leaveW S17 (Nat.le_refl _) (v := some (.ref r_17)) (fun h => by rw [Bd.returns] at h; cases h)
 refine ⟨_, _, pre0 _ (R19 _ ?_), hrun, hended, _, _, rfl, ?_, hend.1, hend.2.1, hend.2.2.1, hend.2.2.2.mono (by decide) (by decide)⟩
 ·
  show own_S p e below T17 (mkF m 57 #[rv a1, iv z, iv z, iv z, iv 0] [(.ref r_17)]) _
  exact retOut X17 hx (t := (.object "java/lang/String")) Bd.returns rfl (Or.inr (Or.inr (Or.inr (Or.inr ⟨rfl, rfl, rfl⟩)))) (hb hby d17_57) hr
 ·
  show (Q_rmNe Z h0 n0) _ T17.heap _
  exact ⟨r_17, b2_17, kb2_17, rfl, N17, K17, p17_1, p17_2, p17_3, p17_4⟩
theorem ef_rmSxE (m : MethodId) (x0 : Addr) (x1 : Int32) : entryFrame m #[(.ref x0), (.int x1)] 2 = mkF m 0 #[rv x0, iv x1] [] := by first | (simp [entryFrame, mkF, argsToLocals, Value.category]; done) | rfl
set_option maxRecDepth 65536 in
set_option maxHeartbeats 40000000 in
theorem rmSxE (l : Launch) (Z : State) (a0 : Array Value) (hw : ∀ d ∈ tables_1, d.before a0 Z = true) (ws : List Jvm.Cond) (a1 : Addr) (b : Addr) (kb : ClassId) (z : Int32) (vs : List Value) (cs : Int32) (sf : Value) (h0 : Heap) (n0 : Nat) (Z0 : n0 ≤ h0.size) (E_a1 : Exa Z h0 a1 "java/lang/String") (F_coder_a1 : Fld Z h0 a1 "java/lang/String" "coder" "B" (.int 0)) (F_value_a1 : Fld Z h0 a1 "java/lang/String" "value" "[B" (.ref b)) (A_b : Arv Z h0 b kb .byte z vs (.int 0)) (S_String_COMPACT_STRINGS : Sta Z h0 "java/lang/String" "COMPACT_STRINGS" "Z" (.int cs)) (hcs : ¬ cs = (0 : Int32)) (S_Preconditions_SIOOBE_FORMATTER : Sta Z h0 sN2 "SIOOBE_FORMATTER" sN3 sf) (hsf : sf.isRef = true) (hz : ¬ z < (0 : Int32)) (hzn : ¬ z = (0 : Int32)) :
  own_MS l yN11 (Jvm.Cond.code yN11 jdk_42_method_91_code 2 (some (.object "java/lang/String")) :: ws) ({ frames := 3, cells := 2, slots := 4, locals := 45 } : Room) #[(.ref a1), (.int z)] Z h0 (Q_rmNe Z h0 n0) := by
 refine MetFree.of_bodySF (plainFor_of_name pn_1) hisR ?_
 intro p e s m args below meth c s₁ Bd hml0 hP hK
 obtain ⟨rfl, hZ, hh, hCH⟩ := hP
 have hx := Bd.exec
 have hby := Bd.bytes
 have hml : c.maxLocals = 2 := hml0
 have hown : s.vm.findClass "java/lang/String" = some m.cls := findClass_of_methodNamed Bd.named
 have hnm := (name_of_methodNamed Bd.named Bd.method).1
 have X0 : Stand p l e ({ frames := 3, cells := 2, slots := 4, locals := 45 } : Room) s m #[(.ref a1), (.int z)] below meth c s₁ [] 0 0 := Stand.of_body Bd
 have hU : ∀ (i : Nat) (d : Jvm.Cond), tables_1[i]? = some d → d.before a0 Z = true := fun i d h => hw d (List.mem_of_getElem? h)
 have hEL : EW Z a0 own_EL := own_ew hU
 have e0 : s₁.heap = h0 := by rw [← hh, Bd.state]; rfl
 have N0 := Fr.nil n0
 obtain ⟨f0, hf0⟩ : ∃ f : JFrame, f = mkF m 0 #[rv a1, iv z] [] := ⟨_, rfl⟩
 have pre0 : ∀ t, own_S p e below s₁ f0 t → Steps p.tables e below (s₁.setTop (entryFrame m #[(.ref a1), (.int z)] 2)) t := fun t k => castTop ((ef_rmSxE m a1 z).trans hf0.symm) k
 have R0 : own_R p e below s₁ (mkF m 0 #[rv a1, iv z] []) s₁ f0 := by rw [hf0]; exact fun t k => k
 have R1 : own_R p e below s₁ (mkF m 3 #[rv a1, iv z] [(.ref a1), (.int z), (.ref a1)]) s₁ f0 := fun t k => R0 t (by
  refine XS.aloadN X0.here hx rfl (hb hby d16_0) rfl rfl ?_
  refine XS.iloadN X0.here hx rfl (hb hby d16_1) rfl ?_
  refine XS.aloadN X0.here hx rfl (hb hby d16_2) rfl rfl ?_
  exact k)
 obtain ⟨cq2, kq2, q2a, q2b, q2c⟩ := isOf hZ e0 E_a1
 obtain ⟨_, _, ⟨T2, L2, k2, n2⟩, -, X2, ⟨Lc2, hQ2, l2, y2, z2⟩, st2⟩ := X0.virtualBack hx (y := yN0) (z := yN0) hown (mvT hZ (hU 50 _ rfl)) (mvT hZ (hU 51 _ rfl)) (notFace_of_selects (args := #[]) (mvT hZ (hU 53 _ rfl))) (mvT hZ (hU 53 _ rfl)) (mvT hZ (hU 52 _ rfl)) (by decide) (backOf (W := 2) (rmLen l Z a0 hw [] a1 b kb z vs (.int 0) cs h0 n0 Z0 E_a1 F_coder_a1 F_value_a1 A_b S_String_COMPACT_STRINGS hcs) hZ (hU 54 _ rfl) (hU 7 _ rfl) (by decide) (by decide)) q2a q2c (g := (mkF m 3 #[rv a1, iv z] [(.ref a1), (.int z), (.ref a1)])) rfl (by rw [hml]; rfl) (Steps.refl _) (argsL := []) (rest := [(.int z), (.ref a1)]) (lenOf pd_20 rfl) rfl (Nat.le_of_eq rfl) (hb hby d16_3) (fun _ _ => ⟨rfl, e0, (by decide : 0 + 0 ≤ _), (by decide : 0 + 0 ≤ _)⟩)
 dsimp only [Pt.U, Pt.locs, Pt.cells, Pt.slots] at X2 l2 y2 z2 st2 hQ2
 subst l2 y2 z2
 obtain ⟨rfl, N2q, p2_0⟩ := hQ2
 have N2 := Fr.app N0 N2q
 have R3 := fun t k => R1 t (st2.trans k)
 have R4 : own_R p e below T2 (mkF m 6 #[rv a1, iv z] [(.int z), (.int z), (.ref a1)]) s₁ f0 := by have q := R3; rw [((own_sh z) : (z >>> ((0 : Int32) &&& 31)) = z)] at q; exact q
 obtain ⟨cq5, kq5, q5a, q5b, q5c⟩ := isOf hZ p2_0 E_a1
 obtain ⟨_, _, ⟨T5, L5, k5, n5⟩, -, X5, S5, gq5, ⟨Lc5, hQ5, l5, y5, z5⟩, st5⟩ := X2.virtualBackS hx (y := yN10) (z := yN10) hown (mvT hZ (hU 87 _ rfl)) (mvT hZ (hU 88 _ rfl)) (notFace_of_selects (args := #[]) (mvT hZ (hU 90 _ rfl))) (mvT hZ (hU 90 _ rfl)) (mvT hZ (hU 89 _ rfl)) (by decide) (own_backS (s := s) (vm0 := s.vm) (W := 0) (rmSiE l Z a0 hw [] a1 b kb z vs cs sf h0 n0 Z0 E_a1 F_coder_a1 F_value_a1 A_b S_String_COMPACT_STRINGS hcs S_Preconditions_SIOOBE_FORMATTER hsf hz hzn) hZ (hU 91 _ rfl) (hU 7 _ rfl) (by decide) (by decide) hEL hCH) q5a q5c (g := (mkF m 6 #[rv a1, iv z] [(.int z), (.int z), (.ref a1)])) rfl (by rw [hml]; rfl) (Steps.refl _) (argsL := [(.int z), (.int z)]) (rest := []) (lenOf pd_24 rfl) rfl (Nat.le_of_eq rfl) (hb hby d16_6) (fun _ _ => ⟨rfl, p2_0, (by decide : 0 + 2 ≤ _), (by decide : 0 + 4 ≤ _)⟩)
 dsimp only [Pt.U, Pt.locs, Pt.cells, Pt.slots] at X5 l5 y5 z5 st5 hQ5 S5 gq5
 subst l5 y5 z5
 have hZ : Z.Warmed39 (s.setVm T5.vm).vm := State.Warmed39.trans (t := s) hZ S5.1
 have hown : (s.setVm T5.vm).vm.findClass "java/lang/String" = some m.cls := by rw [show (s.setVm T5.vm).vm = T5.vm from rfl, S5.1.alike.findClass]; exact hown
 obtain ⟨r_5, b2_5, kb2_5, rfl, N5q, p5_0, p5_1, p5_2, p5_3, p5_4⟩ := hQ5
 have N5 := Fr.app N2 N5q
 have f5_E_a1 := E_a1.keep p5_0
 have f5_F_coder_a1 := F_coder_a1.keep p5_0 nin0
 have f5_F_value_a1 := F_value_a1.keep p5_0 nin0
 have f5_A_b := A_b.keep p5_0 nin0
 have f5_S_String_COMPACT_STRINGS := own_sta_keep S_String_COMPACT_STRINGS p5_0 ns0
 have f5_S_Preconditions_SIOOBE_FORMATTER := own_sta_keep S_Preconditions_SIOOBE_FORMATTER p5_0 ns0
 have z5 : n0 ≤ T5.heap.size := Nat.le_trans Z0 p5_0.1
 have K5 : Keep h0 T5.heap [] := (Keep.refl h0 []).trans p5_0 all0
 have R6 := fun t k => R4 t (st5.trans k)
 obtain ⟨fs, hr, hrun, hended, hend⟩ := X5.leaveW S5 (Nat.le_refl _) (v := some (.ref r_5)) (fun h => by rw [Bd.returns] at h; cases h)
 refine ⟨_, _, pre0 _ (R6 _ ?_), hrun, hended, _, _, rfl, ?_, hend.1, hend.2.1, hend.2.2.1, hend.2.2.2.mono (by decide) (by decide)⟩
 ·
  show own_S p e below T5 (mkF m 9 #[rv a1, iv z] [(.ref r_5)]) _
  exact retOut X5 hx (t := (.object "java/lang/String")) Bd.returns rfl (Or.inr (Or.inr (Or.inr (Or.inr ⟨rfl, rfl, rfl⟩)))) (hb hby d16_9) hr
 ·
  show (Q_rmNe Z h0 n0) _ T5.heap _
  exact ⟨r_5, b2_5, kb2_5, rfl, N5, K5, p5_1, p5_2, p5_3, p5_4⟩
theorem ef_rmNm0 (m : MethodId) (x0 : Addr) : entryFrame m #[(.ref x0)] 1 = mkF m 0 #[rv x0] [] := by first | (simp [entryFrame, mkF, argsToLocals, Value.category]; done) | rfl
set_option maxRecDepth 65536 in
set_option maxHeartbeats 40000000 in
theorem rmNm0 (l : Launch) (Z : State) (a0 : Array Value) (hw : ∀ d ∈ tables_1, d.before a0 Z = true) (ws : List Jvm.Cond) (q1 : Addr) (a1 : Addr) (b : Addr) (kb : ClassId) (z : Int32) (vs : List Value) (cs : Int32) (sf : Value) (p3 : Int32) (kk : Int32) (h0 : Heap) (n0 : Nat) (Z0 : n0 ≤ h0.size) (E_q1 : Exa Z h0 q1 sN0) (F_path_q1 : Fld Z h0 q1 sN0 "path" "Ljava/lang/String;" (.ref a1)) (E_a1 : Exa Z h0 a1 "java/lang/String") (F_coder_a1 : Fld Z h0 a1 "java/lang/String" "coder" "B" (.int 0)) (F_value_a1 : Fld Z h0 a1 "java/lang/String" "value" "[B" (.ref b)) (A_b : Arv Z h0 b kb .byte z vs (.int 0)) (S_String_COMPACT_STRINGS : Sta Z h0 "java/lang/String" "COMPACT_STRINGS" "Z" (.int cs)) (hcs : ¬ cs = (0 : Int32)) (S_Preconditions_SIOOBE_FORMATTER : Sta Z h0 sN2 "SIOOBE_FORMATTER" sN3 sf) (hsf : sf.isRef = true) (hz : ¬ z < (0 : Int32)) (he : z - (1 : Int32) = p3) (hL : own_M l yN4 [Jvm.Cond.code yN4 jdk_43_method_27_code 4 (some .int)] ({ frames := 1, cells := 0, slots := 0, locals := 13 } : Room) #[(.ref b), (.int 47), (.int p3)] Z h0 (Q_rmI Z kk h0 n0)) (heK : kk + (1 : Int32) = (0 : Int32)) :
  own_M l yN2 (Jvm.Cond.code yN2 prog_11_method_3_code 1 (some (.object "java/lang/String")) :: ws) ({ frames := 4, cells := 0, slots := 0, locals := 58 } : Room) #[(.ref q1)] Z h0 (Q_rmId Z a1 h0 n0) := by
 refine MetFree.of_bodySF (plainFor_of_name pn_16) hisR ?_
 intro p e s m args below meth c s₁ Bd hml0 hP hK
 obtain ⟨rfl, hZ, hh⟩ := hP
 have hx := Bd.exec
 have hby := Bd.bytes
 have hml : c.maxLocals = 1 := hml0
 have hown : s.vm.findClass sN0 = some m.cls := findClass_of_methodNamed Bd.named
 have hnm := (name_of_methodNamed Bd.named Bd.method).1
 have X0 : Stand p l e ({ frames := 4, cells := 0, slots := 0, locals := 58 } : Room) s m #[(.ref q1)] below meth c s₁ [] 0 0 := Stand.of_body Bd
 have hU : ∀ (i : Nat) (d : Jvm.Cond), tables_1[i]? = some d → d.before a0 Z = true := fun i d h => hw d (List.mem_of_getElem? h)
 have e0 : s₁.heap = h0 := by rw [← hh, Bd.state]; rfl
 have N0 := Fr.nil n0
 obtain ⟨f0, hf0⟩ : ∃ f : JFrame, f = mkF m 0 #[rv q1] [] := ⟨_, rfl⟩
 have pre0 : ∀ t, own_S p e below s₁ f0 t → Steps p.tables e below (s₁.setTop (entryFrame m #[(.ref q1)] 1)) t := fun t k => castTop ((ef_rmNm0 m q1).trans hf0.symm) k
 have R0 : own_R p e below s₁ (mkF m 0 #[rv q1] []) s₁ f0 := by rw [hf0]; exact fun t k => k
 have R1 : own_R p e below s₁ (mkF m 1 #[rv q1] [(.ref q1)]) s₁ f0 := fun t k => R0 t (by
  refine XS.aloadN X0.here hx rfl (hb hby d7_0) rfl rfl ?_
  exact k)
 obtain ⟨T2, X2, e2, R3⟩ := own_gF R1 X0 hx hZ hown (host := "") (Or.inl (hU 36 _ rfl)) Via.refl e0 F_path_q1 rfl rfl (hb hby d7_1)
 have R4 : own_R p e below T2 (mkF m 5 #[rv q1] [(.ref q1), (.ref a1)]) s₁ f0 := fun t k => R3 t (by
  refine XS.aloadN X2.here hx rfl (hb hby d7_4) rfl rfl ?_
  exact k)
 obtain ⟨T5, X5, e5, R6⟩ := own_gF R4 X2 hx hZ hown (host := "") (Or.inl (hU 36 _ rfl)) Via.refl e2 F_path_q1 rfl rfl (hb hby d7_5)
 have R7 : own_R p e below T5 (mkF m 10 #[rv q1] [(.int 47), (.ref a1), (.ref a1)]) s₁ f0 := fun t k => R6 t (by
  refine XS.bipush X5.here hx rfl (hb hby d7_8) ?_
  exact k)
 obtain ⟨cq8, kq8, q8a, q8b, q8c⟩ := isOf hZ e5 E_a1
 obtain ⟨_, _, ⟨T8, L8, k8, n8⟩, -, X8, ⟨Lc8, hQ8, l8, y8, z8⟩, st8⟩ := X5.virtualBack hx (y := yN15) (z := yN15) hown (mvT hZ (hU 45 _ rfl)) (mvT hZ (hU 46 _ rfl)) (notFace_of_selects (args := #[]) (mvT hZ (hU 48 _ rfl))) (mvT hZ (hU 48 _ rfl)) (mvT hZ (hU 47 _ rfl)) (by decide) (backOf (W := 1) (rmLix l Z a0 hw [] a1 b kb z vs cs p3 kk h0 n0 Z0 E_a1 F_coder_a1 F_value_a1 A_b S_String_COMPACT_STRINGS hcs he hL) hZ (hU 49 _ rfl) (hU 7 _ rfl) (by decide) (by decide)) q8a q8c (g := (mkF m 10 #[rv q1] [(.int 47), (.ref a1), (.ref a1)])) rfl (by rw [hml]; rfl) (Steps.refl _) (argsL := [(.int 47)]) (rest := [(.ref a1)]) (lenOf pd_26 rfl) rfl (Nat.le_of_eq rfl) (hb hby d7_10) (fun _ _ => ⟨rfl, e5, (by decide : 0 + 0 ≤ _), (by decide : 0 + 0 ≤ _)⟩)
 dsimp only [Pt.U, Pt.locs, Pt.cells, Pt.slots] at X8 l8 y8 z8 st8 hQ8
 subst l8 y8 z8
 obtain ⟨rfl, N8q, p8_0⟩ := hQ8
 have N8 := Fr.app N0 N8q
 have R9 := fun t k => R7 t (st8.trans k)
 have R10 : own_R p e below T8 (mkF m 15 #[rv q1] [(.int (kk + (1 : Int32))), (.ref a1)]) s₁ f0 := fun t k => R9 t (by
  refine XS.iconst X8.here hx rfl (hb hby d7_13) ?_
  refine XS.iadd X8.here hx rfl (hb hby d7_14) rfl ?_
  exact k)
 have R11 : own_R p e below T8 (mkF m 15 #[rv q1] [(.int 0), (.ref a1)]) s₁ f0 := by have q := R10; rw [(heK : (kk + (1 : Int32)) = (0 : Int32))] at q; exact q
 obtain ⟨cq12, kq12, q12a, q12b, q12c⟩ := isOf hZ p8_0 E_a1
 obtain ⟨_, _, ⟨T12, L12, k12, n12⟩, -, X12, ⟨Lc12, hQ12, l12, y12, z12⟩, st12⟩ := X8.virtualBack hx (y := yN11) (z := yN11) hown (mvT hZ (hU 82 _ rfl)) (mvT hZ (hU 83 _ rfl)) (notFace_of_selects (args := #[]) (mvT hZ (hU 85 _ rfl))) (mvT hZ (hU 85 _ rfl)) (mvT hZ (hU 84 _ rfl)) (by decide) (backOf (W := 0) (rmSx0 l Z a0 hw [] a1 b kb z vs cs sf h0 n0 Z0 E_a1 F_coder_a1 F_value_a1 A_b S_String_COMPACT_STRINGS hcs S_Preconditions_SIOOBE_FORMATTER hsf hz) hZ (hU 86 _ rfl) (hU 7 _ rfl) (by decide) (by decide)) q12a q12c (g := (mkF m 15 #[rv q1] [(.int 0), (.ref a1)])) rfl (by rw [hml]; rfl) (Steps.refl _) (argsL := [(.int 0)]) (rest := []) (lenOf pd_27 rfl) rfl (Nat.le_of_eq rfl) (hb hby d7_15) (fun _ _ => ⟨rfl, p8_0, (by decide : 0 + 0 ≤ _), (by decide : 0 + 0 ≤ _)⟩)
 dsimp only [Pt.U, Pt.locs, Pt.cells, Pt.slots] at X12 l12 y12 z12 st12 hQ12
 subst l12 y12 z12
 obtain ⟨rfl, N12q, p12_0⟩ := hQ12
 have N12 := Fr.app N8 N12q
 have R13 := fun t k => R11 t (st12.trans k)
 obtain ⟨fs, hr, hrun, hended, hW, hsame⟩ := X12.leave (v := some (.ref a1)) (fun h => by rw [Bd.returns] at h; cases h)
 refine ⟨_, _, pre0 _ (R13 _ ?_), hrun, hended, _, _, rfl, ?_, ⟨_, rfl⟩, hW, hsame.mono (by decide) (by decide)⟩
 ·
  show own_S p e below T12 (mkF m 18 #[rv q1] [(.ref a1)]) _
  exact retOut X12 hx (t := (.object "java/lang/String")) Bd.returns rfl (Or.inr (Or.inr (Or.inr (Or.inr ⟨rfl, rfl, rfl⟩)))) (hb hby d7_18) hr
 ·
  show (Q_rmId Z a1 h0 n0) _ T12.heap _
  rw [p12_0]
  exact ⟨rfl, N12, rfl⟩
theorem ef_rmNmM (m : MethodId) (x0 : Addr) : entryFrame m #[(.ref x0)] 1 = mkF m 0 #[rv x0] [] := by first | (simp [entryFrame, mkF, argsToLocals, Value.category]; done) | rfl
set_option maxRecDepth 65536 in
set_option maxHeartbeats 40000000 in
theorem rmNmM (l : Launch) (Z : State) (a0 : Array Value) (hw : ∀ d ∈ tables_1, d.before a0 Z = true) (ws : List Jvm.Cond) (q1 : Addr) (a1 : Addr) (b : Addr) (kb : ClassId) (z : Int32) (vs : List Value) (cs : Int32) (sf : Value) (p1 : Int32) (p2 : Int32) (ys : List Value) (p3 : Int32) (kk : Int32) (h0 : Heap) (n0 : Nat) (Z0 : n0 ≤ h0.size) (E_q1 : Exa Z h0 q1 sN0) (F_path_q1 : Fld Z h0 q1 sN0 "path" "Ljava/lang/String;" (.ref a1)) (E_a1 : Exa Z h0 a1 "java/lang/String") (F_coder_a1 : Fld Z h0 a1 "java/lang/String" "coder" "B" (.int 0)) (F_value_a1 : Fld Z h0 a1 "java/lang/String" "value" "[B" (.ref b)) (A_b : Arv Z h0 b kb .byte z vs (.int 0)) (S_String_COMPACT_STRINGS : Sta Z h0 "java/lang/String" "COMPACT_STRINGS" "Z" (.int cs)) (hcs : ¬ cs = (0 : Int32)) (S_Preconditions_SIOOBE_FORMATTER : Sta Z h0 sN2 "SIOOBE_FORMATTER" sN3 sf) (hsf : sf.isRef = true) (hlo : ¬ p1 < (0 : Int32)) (hmi : ¬ z < p1) (hp3 : z - p1 = p2) (hne : ¬ p1 = (0 : Int32)) (hn2 : ¬ p2 = (0 : Int32)) (heZ : p1 + p2 = z) (hB : ∀ h1 : Heap, n0 ≤ h1.size → Arv Z h1 b kb .byte z vs (.int 0) → own_M l yN3 [Jvm.Cond.code yN3 jdk_65_method_133_code 5 (some (.array .byte))] ({ frames := 1, cells := 1, slots := 3, locals := 18 } : Room) #[(.ref b), (.int p1), (.int z)] Z h1 (Q_rmCp Z p2 ys h1 n0)) (he : z - (1 : Int32) = p3) (hL : own_M l yN4 [Jvm.Cond.code yN4 jdk_43_method_27_code 4 (some .int)] ({ frames := 1, cells := 0, slots := 0, locals := 13 } : Room) #[(.ref b), (.int 47), (.int p3)] Z h0 (Q_rmI Z kk h0 n0)) (heK : kk + (1 : Int32) = p1) :
  own_M l yN2 (Jvm.Cond.code yN2 prog_11_method_3_code 1 (some (.object "java/lang/String")) :: ws) ({ frames := 6, cells := 2, slots := 7, locals := 93 } : Room) #[(.ref q1)] Z h0 (Q_rmNw Z p2 ys h0 n0) := by
 refine MetFree.of_bodySF (plainFor_of_name pn_16) hisR ?_
 intro p e s m args below meth c s₁ Bd hml0 hP hK
 obtain ⟨rfl, hZ, hh⟩ := hP
 have hx := Bd.exec
 have hby := Bd.bytes
 have hml : c.maxLocals = 1 := hml0
 have hown : s.vm.findClass sN0 = some m.cls := findClass_of_methodNamed Bd.named
 have hnm := (name_of_methodNamed Bd.named Bd.method).1
 have X0 : Stand p l e ({ frames := 6, cells := 2, slots := 7, locals := 93 } : Room) s m #[(.ref q1)] below meth c s₁ [] 0 0 := Stand.of_body Bd
 have hU : ∀ (i : Nat) (d : Jvm.Cond), tables_1[i]? = some d → d.before a0 Z = true := fun i d h => hw d (List.mem_of_getElem? h)
 have e0 : s₁.heap = h0 := by rw [← hh, Bd.state]; rfl
 have N0 := Fr.nil n0
 obtain ⟨f0, hf0⟩ : ∃ f : JFrame, f = mkF m 0 #[rv q1] [] := ⟨_, rfl⟩
 have pre0 : ∀ t, own_S p e below s₁ f0 t → Steps p.tables e below (s₁.setTop (entryFrame m #[(.ref q1)] 1)) t := fun t k => castTop ((ef_rmNmM m q1).trans hf0.symm) k
 have R0 : own_R p e below s₁ (mkF m 0 #[rv q1] []) s₁ f0 := by rw [hf0]; exact fun t k => k
 have R1 : own_R p e below s₁ (mkF m 1 #[rv q1] [(.ref q1)]) s₁ f0 := fun t k => R0 t (by
  refine XS.aloadN X0.here hx rfl (hb hby d7_0) rfl rfl ?_
  exact k)
 obtain ⟨T2, X2, e2, R3⟩ := own_gF R1 X0 hx hZ hown (host := "") (Or.inl (hU 36 _ rfl)) Via.refl e0 F_path_q1 rfl rfl (hb hby d7_1)
 have R4 : own_R p e below T2 (mkF m 5 #[rv q1] [(.ref q1), (.ref a1)]) s₁ f0 := fun t k => R3 t (by
  refine XS.aloadN X2.here hx rfl (hb hby d7_4) rfl rfl ?_
  exact k)
 obtain ⟨T5, X5, e5, R6⟩ := own_gF R4 X2 hx hZ hown (host := "") (Or.inl (hU 36 _ rfl)) Via.refl e2 F_path_q1 rfl rfl (hb hby d7_5)
 have R7 : own_R p e below T5 (mkF m 10 #[rv q1] [(.int 47), (.ref a1), (.ref a1)]) s₁ f0 := fun t k => R6 t (by
  refine XS.bipush X5.here hx rfl (hb hby d7_8) ?_
  exact k)
 obtain ⟨cq8, kq8, q8a, q8b, q8c⟩ := isOf hZ e5 E_a1
 obtain ⟨_, _, ⟨T8, L8, k8, n8⟩, -, X8, ⟨Lc8, hQ8, l8, y8, z8⟩, st8⟩ := X5.virtualBack hx (y := yN15) (z := yN15) hown (mvT hZ (hU 45 _ rfl)) (mvT hZ (hU 46 _ rfl)) (notFace_of_selects (args := #[]) (mvT hZ (hU 48 _ rfl))) (mvT hZ (hU 48 _ rfl)) (mvT hZ (hU 47 _ rfl)) (by decide) (backOf (W := 1) (rmLix l Z a0 hw [] a1 b kb z vs cs p3 kk h0 n0 Z0 E_a1 F_coder_a1 F_value_a1 A_b S_String_COMPACT_STRINGS hcs he hL) hZ (hU 49 _ rfl) (hU 7 _ rfl) (by decide) (by decide)) q8a q8c (g := (mkF m 10 #[rv q1] [(.int 47), (.ref a1), (.ref a1)])) rfl (by rw [hml]; rfl) (Steps.refl _) (argsL := [(.int 47)]) (rest := [(.ref a1)]) (lenOf pd_26 rfl) rfl (Nat.le_of_eq rfl) (hb hby d7_10) (fun _ _ => ⟨rfl, e5, (by decide : 0 + 0 ≤ _), (by decide : 0 + 0 ≤ _)⟩)
 dsimp only [Pt.U, Pt.locs, Pt.cells, Pt.slots] at X8 l8 y8 z8 st8 hQ8
 subst l8 y8 z8
 obtain ⟨rfl, N8q, p8_0⟩ := hQ8
 have N8 := Fr.app N0 N8q
 have R9 := fun t k => R7 t (st8.trans k)
 have R10 : own_R p e below T8 (mkF m 15 #[rv q1] [(.int (kk + (1 : Int32))), (.ref a1)]) s₁ f0 := fun t k => R9 t (by
  refine XS.iconst X8.here hx rfl (hb hby d7_13) ?_
  refine XS.iadd X8.here hx rfl (hb hby d7_14) rfl ?_
  exact k)
 have R11 : own_R p e below T8 (mkF m 15 #[rv q1] [(.int p1), (.ref a1)]) s₁ f0 := by have q := R10; rw [(heK : (kk + (1 : Int32)) = p1)] at q; exact q
 obtain ⟨cq12, kq12, q12a, q12b, q12c⟩ := isOf hZ p8_0 E_a1
 obtain ⟨_, _, ⟨T12, L12, k12, n12⟩, -, X12, ⟨Lc12, hQ12, l12, y12, z12⟩, st12⟩ := X8.virtualBack hx (y := yN11) (z := yN11) hown (mvT hZ (hU 82 _ rfl)) (mvT hZ (hU 83 _ rfl)) (notFace_of_selects (args := #[]) (mvT hZ (hU 85 _ rfl))) (mvT hZ (hU 85 _ rfl)) (mvT hZ (hU 84 _ rfl)) (by decide) (backOf (W := 0) (rmSxM l Z a0 hw [] a1 b kb z vs cs sf p1 p2 ys h0 n0 Z0 E_a1 F_coder_a1 F_value_a1 A_b S_String_COMPACT_STRINGS hcs S_Preconditions_SIOOBE_FORMATTER hsf hlo hmi hp3 hne hn2 heZ hB) hZ (hU 86 _ rfl) (hU 7 _ rfl) (by decide) (by decide)) q12a q12c (g := (mkF m 15 #[rv q1] [(.int p1), (.ref a1)])) rfl (by rw [hml]; rfl) (Steps.refl _) (argsL := [(.int p1)]) (rest := []) (lenOf pd_27 rfl) rfl (Nat.le_of_eq rfl) (hb hby d7_15) (fun _ _ => ⟨rfl, p8_0, (by decide : 0 + 2 ≤ _), (by decide : 0 + 7 ≤ _)⟩)
 dsimp only [Pt.U, Pt.locs, Pt.cells, Pt.slots] at X12 l12 y12 z12 st12 hQ12
 subst l12 y12 z12
 obtain ⟨r_12, b2_12, kb2_12, rfl, N12q, p12_0, p12_1, p12_2, p12_3, p12_4, p12_5, p12_6⟩ := hQ12
 have N12 := Fr.app N8 N12q
 have f12_E_q1 := E_q1.keep p12_0
 have f12_F_path_q1 := F_path_q1.keep p12_0 nin0
 have f12_E_a1 := E_a1.keep p12_0
 have f12_F_coder_a1 := F_coder_a1.keep p12_0 nin0
 have f12_F_value_a1 := F_value_a1.keep p12_0 nin0
 have f12_A_b := A_b.keep p12_0 nin0
 have f12_S_String_COMPACT_STRINGS := own_sta_keep S_String_COMPACT_STRINGS p12_0 ns0
 have f12_S_Preconditions_SIOOBE_FORMATTER := own_sta_keep S_Preconditions_SIOOBE_FORMATTER p12_0 ns0
 have z12 : n0 ≤ T12.heap.size := Nat.le_trans Z0 p12_0.1
 have K12 : Keep h0 T12.heap [] := (Keep.refl h0 []).trans p12_0 all0
 have g_r_12 : n0 ≤ r_12 := Nat.le_trans Z0 p12_5
 have sz_r_12 : h0.size ≤ r_12 := Nat.le_trans (Keep.refl h0 []).1 p12_5
 have ne_q1_r_12 : q1 ≠ r_12 := Nat.ne_of_lt (Nat.lt_of_lt_of_le F_path_q1.lt p12_5)
 have ne_a1_r_12 : a1 ≠ r_12 := Nat.ne_of_lt (Nat.lt_of_lt_of_le F_coder_a1.lt p12_5)
 have ne_b_r_12 : b ≠ r_12 := Nat.ne_of_lt (Nat.lt_of_lt_of_le A_b.lt p12_5)
 have g_b2_12 : n0 ≤ b2_12 := Nat.le_trans Z0 p12_6
 have sz_b2_12 : h0.size ≤ b2_12 := Nat.le_trans (Keep.refl h0 []).1 p12_6
 have ne_q1_b2_12 : q1 ≠ b2_12 := Nat.ne_of_lt (Nat.lt_of_lt_of_le F_path_q1.lt p12_6)
 have ne_a1_b2_12 : a1 ≠ b2_12 := Nat.ne_of_lt (Nat.lt_of_lt_of_le F_coder_a1.lt p12_6)
 have ne_b_b2_12 : b ≠ b2_12 := Nat.ne_of_lt (Nat.lt_of_lt_of_le A_b.lt p12_6)
 have R13 := fun t k => R11 t (st12.trans k)
 obtain ⟨fs, hr, hrun, hended, hW, hsame⟩ := X12.leave (v := some (.ref r_12)) (fun h => by rw [Bd.returns] at h; cases h)
 refine ⟨_, _, pre0 _ (R13 _ ?_), hrun, hended, _, _, rfl, ?_, ⟨_, rfl⟩, hW, hsame.mono (by decide) (by decide)⟩
 ·
  show own_S p e below T12 (mkF m 18 #[rv q1] [(.ref r_12)]) _
  exact retOut X12 hx (t := (.object "java/lang/String")) Bd.returns rfl (Or.inr (Or.inr (Or.inr (Or.inr ⟨rfl, rfl, rfl⟩)))) (hb hby d7_18) hr
 ·
  show (Q_rmNw Z p2 ys h0 n0) _ T12.heap _
  exact ⟨r_12, b2_12, kb2_12, rfl, N12, K12, p12_1, p12_2, p12_3, p12_4, sz_r_12, sz_b2_12⟩
theorem ef_rmNmE (m : MethodId) (x0 : Addr) : entryFrame m #[(.ref x0)] 1 = mkF m 0 #[rv x0] [] := by first | (simp [entryFrame, mkF, argsToLocals, Value.category]; done) | rfl
set_option maxRecDepth 65536 in
set_option maxHeartbeats 40000000 in
theorem rmNmE (l : Launch) (Z : State) (a0 : Array Value) (hw : ∀ d ∈ tables_1, d.before a0 Z = true) (ws : List Jvm.Cond) (q1 : Addr) (a1 : Addr) (b : Addr) (kb : ClassId) (z : Int32) (vs : List Value) (cs : Int32) (sf : Value) (p3 : Int32) (kk : Int32) (h0 : Heap) (n0 : Nat) (Z0 : n0 ≤ h0.size) (E_q1 : Exa Z h0 q1 sN0) (F_path_q1 : Fld Z h0 q1 sN0 "path" "Ljava/lang/String;" (.ref a1)) (E_a1 : Exa Z h0 a1 "java/lang/String") (F_coder_a1 : Fld Z h0 a1 "java/lang/String" "coder" "B" (.int 0)) (F_value_a1 : Fld Z h0 a1 "java/lang/String" "value" "[B" (.ref b)) (A_b : Arv Z h0 b kb .byte z vs (.int 0)) (S_String_COMPACT_STRINGS : Sta Z h0 "java/lang/String" "COMPACT_STRINGS" "Z" (.int cs)) (hcs : ¬ cs = (0 : Int32)) (S_Preconditions_SIOOBE_FORMATTER : Sta Z h0 sN2 "SIOOBE_FORMATTER" sN3 sf) (hsf : sf.isRef = true) (hz : ¬ z < (0 : Int32)) (hzn : ¬ z = (0 : Int32)) (he : z - (1 : Int32) = p3) (hL : own_M l yN4 [Jvm.Cond.code yN4 jdk_43_method_27_code 4 (some .int)] ({ frames := 1, cells := 0, slots := 0, locals := 13 } : Room) #[(.ref b), (.int 47), (.int p3)] Z h0 (Q_rmI Z kk h0 n0)) (heK : kk + (1 : Int32) = z) :
  own_MS l yN2 (Jvm.Cond.code yN2 prog_11_method_3_code 1 (some (.object "java/lang/String")) :: ws) ({ frames := 4, cells := 2, slots := 4, locals := 58 } : Room) #[(.ref q1)] Z h0 (Q_rmNe Z h0 n0) := by
 refine MetFree.of_bodySF (plainFor_of_name pn_16) hisR ?_
 intro p e s m args below meth c s₁ Bd hml0 hP hK
 obtain ⟨rfl, hZ, hh, hCH⟩ := hP
 have hx := Bd.exec
 have hby := Bd.bytes
 have hml : c.maxLocals = 1 := hml0
 have hown : s.vm.findClass sN0 = some m.cls := findClass_of_methodNamed Bd.named
 have hnm := (name_of_methodNamed Bd.named Bd.method).1
 have X0 : Stand p l e ({ frames := 4, cells := 2, slots := 4, locals := 58 } : Room) s m #[(.ref q1)] below meth c s₁ [] 0 0 := Stand.of_body Bd
 have hU : ∀ (i : Nat) (d : Jvm.Cond), tables_1[i]? = some d → d.before a0 Z = true := fun i d h => hw d (List.mem_of_getElem? h)
 have hEL : EW Z a0 own_EL := own_ew hU
 have e0 : s₁.heap = h0 := by rw [← hh, Bd.state]; rfl
 have N0 := Fr.nil n0
 obtain ⟨f0, hf0⟩ : ∃ f : JFrame, f = mkF m 0 #[rv q1] [] := ⟨_, rfl⟩
 have pre0 : ∀ t, own_S p e below s₁ f0 t → Steps p.tables e below (s₁.setTop (entryFrame m #[(.ref q1)] 1)) t := fun t k => castTop ((ef_rmNmE m q1).trans hf0.symm) k
 have R0 : own_R p e below s₁ (mkF m 0 #[rv q1] []) s₁ f0 := by rw [hf0]; exact fun t k => k
 have R1 : own_R p e below s₁ (mkF m 1 #[rv q1] [(.ref q1)]) s₁ f0 := fun t k => R0 t (by
  refine XS.aloadN X0.here hx rfl (hb hby d7_0) rfl rfl ?_
  exact k)
 obtain ⟨T2, X2, e2, R3⟩ := own_gF R1 X0 hx hZ hown (host := "") (Or.inl (hU 36 _ rfl)) Via.refl e0 F_path_q1 rfl rfl (hb hby d7_1)
 have R4 : own_R p e below T2 (mkF m 5 #[rv q1] [(.ref q1), (.ref a1)]) s₁ f0 := fun t k => R3 t (by
  refine XS.aloadN X2.here hx rfl (hb hby d7_4) rfl rfl ?_
  exact k)
 obtain ⟨T5, X5, e5, R6⟩ := own_gF R4 X2 hx hZ hown (host := "") (Or.inl (hU 36 _ rfl)) Via.refl e2 F_path_q1 rfl rfl (hb hby d7_5)
 have R7 : own_R p e below T5 (mkF m 10 #[rv q1] [(.int 47), (.ref a1), (.ref a1)]) s₁ f0 := fun t k => R6 t (by
  refine XS.bipush X5.here hx rfl (hb hby d7_8) ?_
  exact k)
 obtain ⟨cq8, kq8, q8a, q8b, q8c⟩ := isOf hZ e5 E_a1
 obtain ⟨_, _, ⟨T8, L8, k8, n8⟩, -, X8, ⟨Lc8, hQ8, l8, y8, z8⟩, st8⟩ := X5.virtualBack hx (y := yN15) (z := yN15) hown (mvT hZ (hU 45 _ rfl)) (mvT hZ (hU 46 _ rfl)) (notFace_of_selects (args := #[]) (mvT hZ (hU 48 _ rfl))) (mvT hZ (hU 48 _ rfl)) (mvT hZ (hU 47 _ rfl)) (by decide) (backOf (W := 1) (rmLix l Z a0 hw [] a1 b kb z vs cs p3 kk h0 n0 Z0 E_a1 F_coder_a1 F_value_a1 A_b S_String_COMPACT_STRINGS hcs he hL) hZ (hU 49 _ rfl) (hU 7 _ rfl) (by decide) (by decide)) q8a q8c (g := (mkF m 10 #[rv q1] [(.int 47), (.ref a1), (.ref a1)])) rfl (by rw [hml]; rfl) (Steps.refl _) (argsL := [(.int 47)]) (rest := [(.ref a1)]) (lenOf pd_26 rfl) rfl (Nat.le_of_eq rfl) (hb hby d7_10) (fun _ _ => ⟨rfl, e5, (by decide : 0 + 0 ≤ _), (by decide : 0 + 0 ≤ _)⟩)
 dsimp only [Pt.U, Pt.locs, Pt.cells, Pt.slots] at X8 l8 y8 z8 st8 hQ8
 subst l8 y8 z8
 obtain ⟨rfl, N8q, p8_0⟩ := hQ8
 have N8 := Fr.app N0 N8q
 have R9 := fun t k => R7 t (st8.trans k)
 have R10 : own_R p e below T8 (mkF m 15 #[rv q1] [(.int (kk + (1 : Int32))), (.ref a1)]) s₁ f0 := fun t k => R9 t (by
  refine XS.iconst X8.here hx rfl (hb hby d7_13) ?_
  refine XS.iadd X8.here hx rfl (hb hby d7_14) rfl ?_
  exact k)
 have R11 : own_R p e below T8 (mkF m 15 #[rv q1] [(.int z), (.ref a1)]) s₁ f0 := by have q := R10; rw [(heK : (kk + (1 : Int32)) = z)] at q; exact q
 obtain ⟨cq12, kq12, q12a, q12b, q12c⟩ := isOf hZ p8_0 E_a1
 obtain ⟨_, _, ⟨T12, L12, k12, n12⟩, -, X12, S12, gq12, ⟨Lc12, hQ12, l12, y12, z12⟩, st12⟩ := X8.virtualBackS hx (y := yN11) (z := yN11) hown (mvT hZ (hU 82 _ rfl)) (mvT hZ (hU 83 _ rfl)) (notFace_of_selects (args := #[]) (mvT hZ (hU 85 _ rfl))) (mvT hZ (hU 85 _ rfl)) (mvT hZ (hU 84 _ rfl)) (by decide) (own_backS (s := s) (vm0 := s.vm) (W := 0) (rmSxE l Z a0 hw [] a1 b kb z vs cs sf h0 n0 Z0 E_a1 F_coder_a1 F_value_a1 A_b S_String_COMPACT_STRINGS hcs S_Preconditions_SIOOBE_FORMATTER hsf hz hzn) hZ (hU 86 _ rfl) (hU 7 _ rfl) (by decide) (by decide) hEL hCH) q12a q12c (g := (mkF m 15 #[rv q1] [(.int z), (.ref a1)])) rfl (by rw [hml]; rfl) (Steps.refl _) (argsL := [(.int z)]) (rest := []) (lenOf pd_27 rfl) rfl (Nat.le_of_eq rfl) (hb hby d7_15) (fun _ _ => ⟨rfl, p8_0, (by decide : 0 + 2 ≤ _), (by decide : 0 + 4 ≤ _)⟩)
 dsimp only [Pt.U, Pt.locs, Pt.cells, Pt.slots] at X12 l12 y12 z12 st12 hQ12 S12 gq12
 subst l12 y12 z12
 have hZ : Z.Warmed39 (s.setVm T12.vm).vm := State.Warmed39.trans (t := s) hZ S12.1
 have hown : (s.setVm T12.vm).vm.findClass sN0 = some m.cls := by rw [show (s.setVm T12.vm).vm = T12.vm from rfl, S12.1.alike.findClass]; exact hown
 obtain ⟨r_12, b2_12, kb2_12, rfl, N12q, p12_0, p12_1, p12_2, p12_3, p12_4⟩ := hQ12
 have N12 := Fr.app N8 N12q
 have f12_E_q1 := E_q1.keep p12_0
 have f12_F_path_q1 := F_path_q1.keep p12_0 nin0
 have f12_E_a1 := E_a1.keep p12_0
 have f12_F_coder_a1 := F_coder_a1.keep p12_0 nin0
 have f12_F_value_a1 := F_value_a1.keep p12_0 nin0
 have f12_A_b := A_b.keep p12_0 nin0
 have f12_S_String_COMPACT_STRINGS := own_sta_keep S_String_COMPACT_STRINGS p12_0 ns0
 have f12_S_Preconditions_SIOOBE_FORMATTER := own_sta_keep S_Preconditions_SIOOBE_FORMATTER p12_0 ns0
 have z12 : n0 ≤ T12.heap.size := Nat.le_trans Z0 p12_0.1
 have K12 : Keep h0 T12.heap [] := (Keep.refl h0 []).trans p12_0 all0
 have R13 := fun t k => R11 t (st12.trans k)
 obtain ⟨fs, hr, hrun, hended, hend⟩ := X12.leaveW S12 (Nat.le_refl _) (v := some (.ref r_12)) (fun h => by rw [Bd.returns] at h; cases h)
 refine ⟨_, _, pre0 _ (R13 _ ?_), hrun, hended, _, _, rfl, ?_, hend.1, hend.2.1, hend.2.2.1, hend.2.2.2.mono (by decide) (by decide)⟩
 ·
  show own_S p e below T12 (mkF m 18 #[rv q1] [(.ref r_12)]) _
  exact retOut X12 hx (t := (.object "java/lang/String")) Bd.returns rfl (Or.inr (Or.inr (Or.inr (Or.inr ⟨rfl, rfl, rfl⟩)))) (hb hby d7_18) hr
 ·
  show (Q_rmNe Z h0 n0) _ T12.heap _
  exact ⟨r_12, b2_12, kb2_12, rfl, N12, K12, p12_1, p12_2, p12_3, p12_4⟩
theorem ef_rmLaw (m : MethodId) (x0 : Int32) (x1 : Int32) (x2 : Int32) (x3 : Int32) (x4 : Int32) (x5 : Int64) : entryFrame m #[(.int x0), (.int x1), (.int x2), (.int x3), (.int x4), (.long x5)] maxLocals = mkF m 0 #[iv x0, iv x1, iv x2, iv x3, iv x4, own_l x5, .second, .unset, .unset, .unset, .unset, .unset, .unset, .unset, .unset, .unset, .unset, .unset] [] := by first | (simp [entryFrame, mkF, argsToLocals, Value.category, maxLocals]; done) | rfl
def Q_rmLaw (Z : State) (p0 : Int32) (p1 : Int32) (p2 : Int32) (p3 : Int32) (p4 : Int32) (p5 : Int64) (cs : Int32) (sf : Value) (h0 : Heap) (n0 : Nat) (v : Option Value) (h : Heap) (L : List Loc) : Prop := v = some (.int 1) ∧ Fr n0 L
set_option maxRecDepth 65536 in
set_option maxHeartbeats 40000000 in
theorem rmLaw (l : Launch) (Z : State) (a0 : Array Value) (hw : ∀ d ∈ tables_1, d.before a0 Z = true) (ws : List Jvm.Cond) (p0 : Int32) (p1 : Int32) (p2 : Int32) (p3 : Int32) (p4 : Int32) (p5 : Int64) (cs : Int32) (sf : Value) (h0 : Heap) (n0 : Nat) (Z0 : n0 ≤ h0.size) (S_String_COMPACT_STRINGS : Sta Z h0 "java/lang/String" "COMPACT_STRINGS" "Z" (.int cs)) (hcs : ¬ cs = (0 : Int32)) (S_Preconditions_SIOOBE_FORMATTER : Sta Z h0 sN2 "SIOOBE_FORMATTER" sN3 sf) (hsf : sf.isRef = true) :
  own_MS l x (Jvm.Cond.code x code maxLocals ret :: ws) room_1 #[(.int p0), (.int p1), (.int p2), (.int p3), (.int p4), (.long p5)] Z h0 (Q_rmLaw Z p0 p1 p2 p3 p4 p5 cs sf h0 n0) := by
 refine MetFree.of_bodySF (plainFor_of_name pn_0) hisR ?_
 intro p e s m args below meth c s₁ Bd hml0 hP hK
 obtain ⟨rfl, hZ, hh, hCH⟩ := hP
 have hx := Bd.exec
 have hby := Bd.bytes
 have hml : c.maxLocals = 18 := hml0
 have hown : s.vm.findClass sN1 = some m.cls := findClass_of_methodNamed Bd.named
 have hnm := (name_of_methodNamed Bd.named Bd.method).1
 have X0 : Stand p l e room_1 s m #[(.int p0), (.int p1), (.int p2), (.int p3), (.int p4), (.long p5)] below meth c s₁ [] 0 0 := Stand.of_body Bd
 have hU : ∀ (i : Nat) (d : Jvm.Cond), tables_1[i]? = some d → d.before a0 Z = true := fun i d h => hw d (List.mem_of_getElem? h)
 have hEL : EW Z a0 own_EL := own_ew hU
 have e0 : s₁.heap = h0 := by rw [← hh, Bd.state]; rfl
 have N0 := Fr.nil n0
 obtain ⟨f0, hf0⟩ : ∃ f : JFrame, f = mkF m 0 (fA42 p0 p1 p2 p3 p4 p5) [] := ⟨_, rfl⟩
 have pre0 : ∀ t, own_S p e below s₁ f0 t → Steps p.tables e below (s₁.setTop (entryFrame m #[(.int p0), (.int p1), (.int p2), (.int p3), (.int p4), (.long p5)] maxLocals)) t := fun t k => castTop ((ef_rmLaw m p0 p1 p2 p3 p4 p5).trans hf0.symm) k
 have R0 : own_R p e below s₁ (mkF m 0 (fA42 p0 p1 p2 p3 p4 p5) []) s₁ f0 := by rw [hf0]; exact fun t k => k
 have R1 : own_R p e below s₁ (mkF m 6 (fA42 p0 p1 p2 p3 p4 p5) [(.int ((p0 &&& (7 : Int32)) % (5 : Int32)))]) s₁ f0 := fun t k => R0 t (by
  refine XS.iloadN X0.here hx rfl (hb hby at_0) rfl ?_
  refine XS.bipush X0.here hx rfl (hb hby at_1) ?_
  refine XS.iand X0.here hx rfl (hb hby at_3) rfl ?_
  refine XS.iconst X0.here hx rfl (hb hby at_4) ?_
  refine iremM X0 hx rfl (hb hby at_5) rfl (by decide) ?_
  exact k)
 obtain ⟨nn, e_nn⟩ : ∃ z : Int32, z = ((p0 &&& (7 : Int32)) % (5 : Int32)) := ⟨_, rfl⟩
 have R2 : own_R p e below s₁ (mkF m 6 (fA42 p0 p1 p2 p3 p4 p5) [(.int nn)]) s₁ f0 := by have q := R1; rw [← e_nn] at q; exact q
 have R3 : own_R p e below s₁ (mkF m 9 #[iv p0, iv p1, iv p2, iv p3, iv p4, own_l p5, .second, iv nn, .unset, .unset, .unset, .unset, .unset, .unset, .unset, .unset, .unset, .unset] [(.int p1)]) s₁ f0 := fun t k => R2 t (by
  refine XS.istore X0.here hx rfl (hb hby at_6) rfl (l' := #[iv p0, iv p1, iv p2, iv p3, iv p4, own_l p5, .second, iv nn, .unset, .unset, .unset, .unset, .unset, .unset, .unset, .unset, .unset, .unset]) rfl ?_
  refine XS.iloadN X0.here hx rfl (hb hby at_8) rfl ?_
  exact k)
 obtain ⟨_, _, ⟨T4, L4, k4, n4⟩, -, X4, ⟨Lc4, hQ4, l4, y4, z4⟩, st4⟩ := Jvm.LawKit.callS X0 hx (y := yN17) hown (mvT hZ (hU 0 _ rfl)) (mvT hZ (hU 1 _ rfl)) (mvT hZ (hU 2 _ rfl)) (mvT hZ (hU 3 _ rfl)) (by decide) (backOf (W := 0) (rmCh l Z a0 hw [] p1 h0 n0 Z0) hZ (hU 3 _ rfl) (hU 2 _ rfl) (by decide) (by decide)) (g := (mkF m 9 #[iv p0, iv p1, iv p2, iv p3, iv p4, own_l p5, .second, iv nn, .unset, .unset, .unset, .unset, .unset, .unset, .unset, .unset, .unset, .unset] [(.int p1)])) rfl (by rw [hml]; rfl) (argsL := [(.int p1)]) (rest := []) (lenOf pd_28 rfl) rfl (Nat.le_of_eq rfl) (hb hby at_9) (fun _ _ => ⟨rfl, e0, (by decide : 0 + 0 ≤ _), (by decide : 0 + 0 ≤ _)⟩)
 dsimp only [Pt.U, Pt.locs, Pt.cells, Pt.slots] at X4 l4 y4 z4 st4 hQ4
 subst l4 y4 z4
 obtain ⟨r_4, rfl, N4q, p4_0, p4_1⟩ := hQ4
 have N4 := Fr.app N0 N4q
 have R5 := fun t k => R3 t (st4 t k)
 have R6 : own_R p e below T4 (mkF m 15 #[iv p0, iv p1, iv p2, iv p3, iv p4, own_l p5, .second, iv nn, iv r_4, .unset, .unset, .unset, .unset, .unset, .unset, .unset, .unset, .unset] [(.int p2)]) s₁ f0 := fun t k => R5 t (by
  refine XS.istore X4.here hx rfl (hb hby at_12) rfl (l' := #[iv p0, iv p1, iv p2, iv p3, iv p4, own_l p5, .second, iv nn, iv r_4, .unset, .unset, .unset, .unset, .unset, .unset, .unset, .unset, .unset]) rfl ?_
  refine XS.iloadN X4.here hx rfl (hb hby at_14) rfl ?_
  exact k)
 obtain ⟨_, _, ⟨T7, L7, k7, n7⟩, -, X7, ⟨Lc7, hQ7, l7, y7, z7⟩, st7⟩ := Jvm.LawKit.callS X4 hx (y := yN17) hown (mvT hZ (hU 0 _ rfl)) (mvT hZ (hU 1 _ rfl)) (mvT hZ (hU 2 _ rfl)) (mvT hZ (hU 3 _ rfl)) (by decide) (backOf (W := 0) (rmCh l Z a0 hw [] p2 h0 n0 Z0) hZ (hU 3 _ rfl) (hU 2 _ rfl) (by decide) (by decide)) (g := (mkF m 15 #[iv p0, iv p1, iv p2, iv p3, iv p4, own_l p5, .second, iv nn, iv r_4, .unset, .unset, .unset, .unset, .unset, .unset, .unset, .unset, .unset] [(.int p2)])) rfl (by rw [hml]; rfl) (argsL := [(.int p2)]) (rest := []) (lenOf pd_28 rfl) rfl (Nat.le_of_eq rfl) (hb hby at_15) (fun _ _ => ⟨rfl, p4_0, (by decide : 0 + 0 ≤ _), (by decide : 0 + 0 ≤ _)⟩)
 dsimp only [Pt.U, Pt.locs, Pt.cells, Pt.slots] at X7 l7 y7 z7 st7 hQ7
 subst l7 y7 z7
 obtain ⟨r_7, rfl, N7q, p7_0, p7_1⟩ := hQ7
 have N7 := Fr.app N4 N7q
 have R8 := fun t k => R6 t (st7 t k)
 have R9 : own_R p e below T7 (mkF m 21 #[iv p0, iv p1, iv p2, iv p3, iv p4, own_l p5, .second, iv nn, iv r_4, iv r_7, .unset, .unset, .unset, .unset, .unset, .unset, .unset, .unset] [(.int p3)]) s₁ f0 := fun t k => R8 t (by
  refine XS.istore X7.here hx rfl (hb hby at_18) rfl (l' := #[iv p0, iv p1, iv p2, iv p3, iv p4, own_l p5, .second, iv nn, iv r_4, iv r_7, .unset, .unset, .unset, .unset, .unset, .unset, .unset, .unset]) rfl ?_
  refine XS.iloadN X7.here hx rfl (hb hby at_20) rfl ?_
  exact k)
 obtain ⟨_, _, ⟨T10, L10, k10, n10⟩, -, X10, ⟨Lc10, hQ10, l10, y10, z10⟩, st10⟩ := Jvm.LawKit.callS X7 hx (y := yN17) hown (mvT hZ (hU 0 _ rfl)) (mvT hZ (hU 1 _ rfl)) (mvT hZ (hU 2 _ rfl)) (mvT hZ (hU 3 _ rfl)) (by decide) (backOf (W := 0) (rmCh l Z a0 hw [] p3 h0 n0 Z0) hZ (hU 3 _ rfl) (hU 2 _ rfl) (by decide) (by decide)) (g := (mkF m 21 #[iv p0, iv p1, iv p2, iv p3, iv p4, own_l p5, .second, iv nn, iv r_4, iv r_7, .unset, .unset, .unset, .unset, .unset, .unset, .unset, .unset] [(.int p3)])) rfl (by rw [hml]; rfl) (argsL := [(.int p3)]) (rest := []) (lenOf pd_28 rfl) rfl (Nat.le_of_eq rfl) (hb hby at_21) (fun _ _ => ⟨rfl, p7_0, (by decide : 0 + 0 ≤ _), (by decide : 0 + 0 ≤ _)⟩)
 dsimp only [Pt.U, Pt.locs, Pt.cells, Pt.slots] at X10 l10 y10 z10 st10 hQ10
 subst l10 y10 z10
 obtain ⟨r_10, rfl, N10q, p10_0, p10_1⟩ := hQ10
 have N10 := Fr.app N7 N10q
 have R11 := fun t k => R9 t (st10 t k)
 have R12 : own_R p e below T10 (mkF m 28 #[iv p0, iv p1, iv p2, iv p3, iv p4, own_l p5, .second, iv nn, iv r_4, iv r_7, iv r_10, .unset, .unset, .unset, .unset, .unset, .unset, .unset] [(.int p4)]) s₁ f0 := fun t k => R11 t (by
  refine XS.istore X10.here hx rfl (hb hby at_24) rfl (l' := #[iv p0, iv p1, iv p2, iv p3, iv p4, own_l p5, .second, iv nn, iv r_4, iv r_7, iv r_10, .unset, .unset, .unset, .unset, .unset, .unset, .unset]) rfl ?_
  refine XS.iload X10.here hx rfl (hb hby at_26) rfl ?_
  exact k)
 obtain ⟨_, _, ⟨T13, L13, k13, n13⟩, -, X13, ⟨Lc13, hQ13, l13, y13, z13⟩, st13⟩ := Jvm.LawKit.callS X10 hx (y := yN17) hown (mvT hZ (hU 0 _ rfl)) (mvT hZ (hU 1 _ rfl)) (mvT hZ (hU 2 _ rfl)) (mvT hZ (hU 3 _ rfl)) (by decide) (backOf (W := 0) (rmCh l Z a0 hw [] p4 h0 n0 Z0) hZ (hU 3 _ rfl) (hU 2 _ rfl) (by decide) (by decide)) (g := (mkF m 28 #[iv p0, iv p1, iv p2, iv p3, iv p4, own_l p5, .second, iv nn, iv r_4, iv r_7, iv r_10, .unset, .unset, .unset, .unset, .unset, .unset, .unset] [(.int p4)])) rfl (by rw [hml]; rfl) (argsL := [(.int p4)]) (rest := []) (lenOf pd_28 rfl) rfl (Nat.le_of_eq rfl) (hb hby at_28) (fun _ _ => ⟨rfl, p10_0, (by decide : 0 + 0 ≤ _), (by decide : 0 + 0 ≤ _)⟩)
 dsimp only [Pt.U, Pt.locs, Pt.cells, Pt.slots] at X13 l13 y13 z13 st13 hQ13
 subst l13 y13 z13
 obtain ⟨r_13, rfl, N13q, p13_0, p13_1⟩ := hQ13
 have N13 := Fr.app N10 N13q
 have R14 := fun t k => R12 t (st13 t k)
 have R15 : own_R p e below T13 (mkF m 34 (fA10 nn p0 p1 p2 p3 p4 p5 r_10 r_13 r_4 r_7) [(.int 4)]) s₁ f0 := fun t k => R14 t (by
  refine XS.istore X13.here hx rfl (hb hby at_31) rfl (l' := (fA10 nn p0 p1 p2 p3 p4 p5 r_10 r_13 r_4 r_7)) rfl ?_
  refine XS.iconst X13.here hx rfl (hb hby at_33) ?_
  exact k)
 obtain ⟨T16, h16, k16, X16, e16, E16, A16, st16⟩ := newP X13 hx hZ (hU 4 _ rfl) p13_0 (g := (mkF m 34 (fA10 nn p0 p1 p2 p3 p4 p5 r_10 r_13 r_4 r_7) [(.int 4)])) rfl (hb hby at_34) rfl (by decide) (cap := 4) (by decide) (by decide) (by decide) (by decide)
 obtain ⟨b16, g16⟩ : ∃ z, z = h0.size := ⟨_, rfl⟩
 rw [← g16] at A16 st16
 have g_b16 : n0 ≤ b16 := Nat.le_trans Z0 (Nat.le_of_eq g16.symm)
 have sz_b16 : h0.size ≤ b16 := Nat.le_trans (Keep.refl h0 []).1 (Nat.le_of_eq g16.symm)
 have f16_S_String_COMPACT_STRINGS := S_String_COMPACT_STRINGS.ext E16
 have f16_S_Preconditions_SIOOBE_FORMATTER := S_Preconditions_SIOOBE_FORMATTER.ext E16
 have z16 : n0 ≤ h16.size := Nat.le_trans Z0 E16.1
 have K16 : Keep h0 h16 [] := (Keep.refl h0 []).ext E16
 have v16 : Arv Z h16 b16 k16 .char (4 : Int32) [(.int 0), (.int 0), (.int 0), (.int 0)] (.int 0) := (Arv.new A16 (by decide)).pad (pad_rep [] (.int 0) 4)
 have R17 := fun t k => R15 t (st16 t k)
 have R18 : own_R p e below T16 (mkF m 40 (fA10 nn p0 p1 p2 p3 p4 p5 r_10 r_13 r_4 r_7) [(.int r_4), (.int 0), (.ref b16), (.ref b16)]) s₁ f0 := fun t k => R17 t (by
  refine XS.dup X16.here hx rfl (hb hby at_36) rfl rfl ?_
  refine XS.iconst X16.here hx rfl (hb hby at_37) ?_
  refine XS.iload X16.here hx rfl (hb hby at_38) rfl ?_
  exact k)
 obtain ⟨cl19, Ar19, q19, S19, n19_, H19, G19⟩ := id v16
 have hin19 : ¬ ((0 : Int32) < 0 ∨ cl19.slots.size ≤ ((0 : Int32)).toNatClampNeg) := inb_of S19 ⟨by decide, by decide⟩
 obtain ⟨T19, h19, X19, e19, W19, st19⟩ := stC X16 hx hZ e16 Ar19 (j := (0 : Int32)) hin19 (g := (mkF m 40 (fA10 nn p0 p1 p2 p3 p4 p5 r_10 r_13 r_4 r_7) [(.int r_4), (.int 0), (.ref b16), (.ref b16)])) rfl rfl (hb hby at_40)
 have f19_S_String_COMPACT_STRINGS := f16_S_String_COMPACT_STRINGS.wr W19
 have f19_S_Preconditions_SIOOBE_FORMATTER := f16_S_Preconditions_SIOOBE_FORMATTER.wr W19
 have z19 : n0 ≤ h19.size := by rw [W19.size]; exact z16
 have K19 : Keep h0 h19 [] := K16.wr W19 (Or.inr sz_b16)
 have v19 : Arv Z h19 b16 k16 .char (4 : Int32) [(.int (nar .char r_4)), (.int 0), (.int 0), (.int 0)] (.int 0) := Arv.set Ar19 q19 S19 n19_ H19 G19 (fits_nar_char _) W19 0 rfl (Nat.le_of_ble_eq_true rfl)
 have N19 := Fr.snoc X19 N13 g_b16
 have R20 := fun t k => R18 t (st19 t k)
 have R21 : own_R p e below T19 (mkF m 45 (fA10 nn p0 p1 p2 p3 p4 p5 r_10 r_13 r_4 r_7) [(.int r_7), (.int 1), (.ref b16), (.ref b16)]) s₁ f0 := fun t k => R20 t (by
  refine XS.dup X19.here hx rfl (hb hby at_41) rfl rfl ?_
  refine XS.iconst X19.here hx rfl (hb hby at_42) ?_
  refine XS.iload X19.here hx rfl (hb hby at_43) rfl ?_
  exact k)
 obtain ⟨cl22, Ar22, q22, S22, n22_, H22, G22⟩ := id v19
 have hin22 : ¬ ((1 : Int32) < 0 ∨ cl22.slots.size ≤ ((1 : Int32)).toNatClampNeg) := inb_of S22 ⟨by decide, by decide⟩
 obtain ⟨T22, h22, X22, e22, W22, st22⟩ := stC X19 hx hZ e19 Ar22 (j := (1 : Int32)) hin22 (g := (mkF m 45 (fA10 nn p0 p1 p2 p3 p4 p5 r_10 r_13 r_4 r_7) [(.int r_7), (.int 1), (.ref b16), (.ref b16)])) rfl rfl (hb hby at_45)
 have f22_S_String_COMPACT_STRINGS := f19_S_String_COMPACT_STRINGS.wr W22
 have f22_S_Preconditions_SIOOBE_FORMATTER := f19_S_Preconditions_SIOOBE_FORMATTER.wr W22
 have z22 : n0 ≤ h22.size := by rw [W22.size]; exact z19
 have K22 : Keep h0 h22 [] := K19.wr W22 (Or.inr sz_b16)
 have v22 : Arv Z h22 b16 k16 .char (4 : Int32) [(.int (nar .char r_4)), (.int (nar .char r_7)), (.int 0), (.int 0)] (.int 0) := Arv.set Ar22 q22 S22 n22_ H22 G22 (fits_nar_char _) W22 1 rfl (Nat.le_of_ble_eq_true rfl)
 have N22 := Fr.snoc X22 N19 g_b16
 have R23 := fun t k => R21 t (st22 t k)
 have R24 : own_R p e below T22 (mkF m 50 (fA10 nn p0 p1 p2 p3 p4 p5 r_10 r_13 r_4 r_7) [(.int r_10), (.int 2), (.ref b16), (.ref b16)]) s₁ f0 := fun t k => R23 t (by
  refine XS.dup X22.here hx rfl (hb hby at_46) rfl rfl ?_
  refine XS.iconst X22.here hx rfl (hb hby at_47) ?_
  refine XS.iload X22.here hx rfl (hb hby at_48) rfl ?_
  exact k)
 obtain ⟨cl25, Ar25, q25, S25, n25_, H25, G25⟩ := id v22
 have hin25 : ¬ ((2 : Int32) < 0 ∨ cl25.slots.size ≤ ((2 : Int32)).toNatClampNeg) := inb_of S25 ⟨by decide, by decide⟩
 obtain ⟨T25, h25, X25, e25, W25, st25⟩ := stC X22 hx hZ e22 Ar25 (j := (2 : Int32)) hin25 (g := (mkF m 50 (fA10 nn p0 p1 p2 p3 p4 p5 r_10 r_13 r_4 r_7) [(.int r_10), (.int 2), (.ref b16), (.ref b16)])) rfl rfl (hb hby at_50)
 have f25_S_String_COMPACT_STRINGS := f22_S_String_COMPACT_STRINGS.wr W25
 have f25_S_Preconditions_SIOOBE_FORMATTER := f22_S_Preconditions_SIOOBE_FORMATTER.wr W25
 have z25 : n0 ≤ h25.size := by rw [W25.size]; exact z22
 have K25 : Keep h0 h25 [] := K22.wr W25 (Or.inr sz_b16)
 have v25 : Arv Z h25 b16 k16 .char (4 : Int32) [(.int (nar .char r_4)), (.int (nar .char r_7)), (.int (nar .char r_10)), (.int 0)] (.int 0) := Arv.set Ar25 q25 S25 n25_ H25 G25 (fits_nar_char _) W25 2 rfl (Nat.le_of_ble_eq_true rfl)
 have N25 := Fr.snoc X25 N22 g_b16
 have R26 := fun t k => R24 t (st25 t k)
 have R27 : own_R p e below T25 (mkF m 55 (fA10 nn p0 p1 p2 p3 p4 p5 r_10 r_13 r_4 r_7) [(.int r_13), (.int 3), (.ref b16), (.ref b16)]) s₁ f0 := fun t k => R26 t (by
  refine XS.dup X25.here hx rfl (hb hby at_51) rfl rfl ?_
  refine XS.iconst X25.here hx rfl (hb hby at_52) ?_
  refine XS.iload X25.here hx rfl (hb hby at_53) rfl ?_
  exact k)
 obtain ⟨cl28, Ar28, q28, S28, n28_, H28, G28⟩ := id v25
 have hin28 : ¬ ((3 : Int32) < 0 ∨ cl28.slots.size ≤ ((3 : Int32)).toNatClampNeg) := inb_of S28 ⟨by decide, by decide⟩
 obtain ⟨T28, h28, X28, e28, W28, st28⟩ := stC X25 hx hZ e25 Ar28 (j := (3 : Int32)) hin28 (g := (mkF m 55 (fA10 nn p0 p1 p2 p3 p4 p5 r_10 r_13 r_4 r_7) [(.int r_13), (.int 3), (.ref b16), (.ref b16)])) rfl rfl (hb hby at_55)
 have f28_S_String_COMPACT_STRINGS := f25_S_String_COMPACT_STRINGS.wr W28
 have f28_S_Preconditions_SIOOBE_FORMATTER := f25_S_Preconditions_SIOOBE_FORMATTER.wr W28
 have z28 : n0 ≤ h28.size := by rw [W28.size]; exact z25
 have K28 : Keep h0 h28 [] := K25.wr W28 (Or.inr sz_b16)
 have v28 : Arv Z h28 b16 k16 .char (4 : Int32) [(.int (nar .char r_4)), (.int (nar .char r_7)), (.int (nar .char r_10)), (.int (nar .char r_13))] (.int 0) := Arv.set Ar28 q28 S28 n28_ H28 G28 (fits_nar_char _) W28 3 rfl (Nat.le_of_ble_eq_true rfl)
 have N28 := Fr.snoc X28 N25 g_b16
 have R29 := fun t k => R27 t (st28 t k)
 have R30 : own_R p e below T28 (mkF m 58 #[iv p0, iv p1, iv p2, iv p3, iv p4, own_l p5, .second, iv nn, iv r_4, iv r_7, iv r_10, iv r_13, rv b16, .unset, .unset, .unset, .unset, .unset] []) s₁ f0 := fun t k => R29 t (by
  refine XS.astore X28.here hx rfl (hb hby at_56) rfl rfl (l' := #[iv p0, iv p1, iv p2, iv p3, iv p4, own_l p5, .second, iv nn, iv r_4, iv r_7, iv r_10, iv r_13, rv b16, .unset, .unset, .unset, .unset, .unset]) rfl ?_
  exact k)
 rcases own_n5 e_nn with hp | hp | hp | hp | hp
 ·
  have R31 : own_R p e below T28 (mkF m 58 (fA20 b16 p0 p1 p2 p3 p4 p5 r_10 r_13 r_4 r_7) []) s₁ f0 := by have q := R30; rw [(hp : nn = (0 : Int32))] at q; exact q
  obtain ⟨T32, h32, X32, e32, E32, A32, D32, -, st32⟩ := newO X28 hx hZ hown (hU 5 _ rfl) (hU 6 _ rfl) (hU 7 _ rfl) e28 (g := (mkF m 58 (fA20 b16 p0 p1 p2 p3 p4 p5 r_10 r_13 r_4 r_7) [])) rfl (hb hby at_58) (by decide) (by decide)
  obtain ⟨b32, g32⟩ : ∃ z, z = h28.size := ⟨_, rfl⟩
  rw [← g32] at A32 D32 st32
  have g_b32 : n0 ≤ b32 := Nat.le_trans z28 (Nat.le_of_eq g32.symm)
  have sz_b32 : h0.size ≤ b32 := Nat.le_trans K28.1 (Nat.le_of_eq g32.symm)
  have ne_b16_b32 : b16 ≠ b32 := Nat.ne_of_lt (Nat.lt_of_lt_of_le v28.lt (Nat.le_of_eq g32.symm))
  have f32_S_String_COMPACT_STRINGS := f28_S_String_COMPACT_STRINGS.ext E32
  have f32_S_Preconditions_SIOOBE_FORMATTER := f28_S_Preconditions_SIOOBE_FORMATTER.ext E32
  have f32_A_b16 := v28.ext E32
  have z32 : n0 ≤ h32.size := Nat.le_trans z28 E32.1
  have K32 : Keep h0 h32 [] := K28.ext E32
  have d32_value : Fld Z h32 b32 "java/lang/String" "value" "[B" .null := D32 (Or.inr (hU 23 _ rfl)) (ty := (.array .byte)) (by decide)
  have d32_coder : Fld Z h32 b32 "java/lang/String" "coder" "B" (.int 0) := D32 (Or.inr (hU 24 _ rfl)) (ty := .byte) (by decide)
  have R33 := fun t k => R31 t (st32 t k)
  have R34 : own_R p e below T32 (mkF m 72 (fA20 b16 p0 p1 p2 p3 p4 p5 r_10 r_13 r_4 r_7) [(.int r_13), (.int r_10), (.int r_7), (.int r_4), (.int 0), (.ref b32), (.ref b32)]) s₁ f0 := fun t k => R33 t (by
   refine XS.dup X32.here hx rfl (hb hby at_61) rfl rfl ?_
   refine XS.iload X32.here hx rfl (hb hby at_62) rfl ?_
   refine XS.iload X32.here hx rfl (hb hby at_64) rfl ?_
   refine XS.iload X32.here hx rfl (hb hby at_66) rfl ?_
   refine XS.iload X32.here hx rfl (hb hby at_68) rfl ?_
   refine XS.iload X32.here hx rfl (hb hby at_70) rfl ?_
   exact k)
  obtain ⟨_, _, ⟨T35, L35, k35, n35⟩, -, X35, ⟨Lc35, hQ35, l35, y35, z35⟩, st35⟩ := Jvm.LawKit.callS X32 hx (y := yN6) hown (mvT hZ (hU 8 _ rfl)) (mvT hZ (hU 9 _ rfl)) (mvT hZ (hU 2 _ rfl)) (mvT hZ (hU 10 _ rfl)) (by decide) (backOf (W := 2) (rmMk0 l Z a0 hw [] r_4 r_7 r_10 r_13 h32 n0 z32) hZ (hU 10 _ rfl) (hU 2 _ rfl) (by decide) (by decide)) (g := (mkF m 72 (fA20 b16 p0 p1 p2 p3 p4 p5 r_10 r_13 r_4 r_7) [(.int r_13), (.int r_10), (.int r_7), (.int r_4), (.int 0), (.ref b32), (.ref b32)])) rfl (by rw [hml]; rfl) (argsL := [(.int 0), (.int r_4), (.int r_7), (.int r_10), (.int r_13)]) (rest := [(.ref b32), (.ref b32)]) (lenOf pd_29 rfl) rfl (Nat.le_of_eq rfl) (hb hby at_72) (fun _ _ => ⟨rfl, e32, (by decide : 2 + 1 ≤ _), (by decide : 8 + 0 ≤ _)⟩)
  dsimp only [Pt.U, Pt.locs, Pt.cells, Pt.slots] at X35 l35 y35 z35 st35 hQ35
  subst l35 y35 z35
  obtain ⟨b_35, kb_35, rfl, N35q, p35_0, p35_1, p35_2⟩ := hQ35
  have N35 := Fr.app N28 N35q
  have f35_S_String_COMPACT_STRINGS := own_sta_keep f32_S_String_COMPACT_STRINGS p35_0 ns0
  have f35_S_Preconditions_SIOOBE_FORMATTER := own_sta_keep f32_S_Preconditions_SIOOBE_FORMATTER p35_0 ns0
  have f35_A_b16 := f32_A_b16.keep p35_0 nin0
  have f35_E_b32 := A32.keep p35_0
  have f35_F_value_b32 := d32_value.keep p35_0 nin0
  have f35_F_coder_b32 := d32_coder.keep p35_0 nin0
  have z35 : n0 ≤ T35.heap.size := Nat.le_trans z32 p35_0.1
  have K35 : Keep h0 T35.heap [] := K32.trans p35_0 all0
  have g_b_35 : n0 ≤ b_35 := Nat.le_trans z32 p35_2
  have sz_b_35 : h0.size ≤ b_35 := Nat.le_trans K32.1 p35_2
  have ne_b16_b_35 : b16 ≠ b_35 := Nat.ne_of_lt (Nat.lt_of_lt_of_le f32_A_b16.lt p35_2)
  have ne_b32_b_35 : b32 ≠ b_35 := Nat.ne_of_lt (Nat.lt_of_lt_of_le d32_value.lt p35_2)
  have R36 := fun t k => R34 t (st35 t k)
  obtain ⟨_, _, ⟨T37, L37, k37, n37⟩, -, X37, S37, gq37, ⟨Lc37, hQ37, l37, y37, z37⟩, st37⟩ := X35.specialBackS hx (y := yN13) rfl hown (mvT hZ (hU 11 _ rfl)) (mvT hZ (hU 12 _ rfl)) (mvT hZ (hU 13 _ rfl)) (by decide) (own_backS (s := s) (vm0 := s.vm) (W := 1) (rmStr0 l Z a0 hw [] b32 b_35 (.int 0) kb_35 T35.heap n0 z35 f35_E_b32 f35_F_value_b32 f35_F_coder_b32 g_b32 p35_1 ne_b32_b_35) hZ (hU 13 _ rfl) (hU 7 _ rfl) (by decide) (by decide) hEL (CHv.keep K35 (fun _ h => nomatch h) hCH)) (g := (mkF m 75 (fA20 b16 p0 p1 p2 p3 p4 p5 r_10 r_13 r_4 r_7) [(.ref b_35), (.ref b32), (.ref b32)])) rfl (by rw [hml]; rfl) (Steps.refl _) (a := b32) (argsL := [(.ref b_35)]) (rest := [(.ref b32)]) (lenOf pd_30 rfl) rfl (Nat.le_of_eq rfl) (hb hby at_75) (fun _ _ => ⟨rfl, rfl, (by decide : 3 + 2 ≤ _), (by decide : 8 + 4 ≤ _)⟩)
  dsimp only [Pt.U, Pt.locs, Pt.cells, Pt.slots] at X37 l37 y37 z37 st37 hQ37 S37 gq37
  subst l37 y37 z37
  have hZ : Z.Warmed39 (s.setVm T37.vm).vm := State.Warmed39.trans (t := s) hZ S37.1
  have hown : (s.setVm T37.vm).vm.findClass sN1 = some m.cls := by rw [show (s.setVm T37.vm).vm = T37.vm from rfl, S37.1.alike.findClass]; exact hown
  obtain ⟨b_37, kb_37, rfl, N37q, p37_0, p37_1, p37_2, p37_3⟩ := hQ37
  have N37 := Fr.app N35 N37q
  have f37_S_String_COMPACT_STRINGS := own_sta_keep f35_S_String_COMPACT_STRINGS p37_0 (nsS f35_E_b32.nostat ns0)
  have f37_S_Preconditions_SIOOBE_FORMATTER := own_sta_keep f35_S_Preconditions_SIOOBE_FORMATTER p37_0 (nsS f35_E_b32.nostat ns0)
  have f37_A_b16 := f35_A_b16.keep p37_0 (ninS ne_b16_b32 nin0)
  have f37_E_b32 := f35_E_b32.keep p37_0
  have f37_A_b_35 := p35_1.keep p37_0 (ninS (Ne.symm ne_b32_b_35) nin0)
  have z37 : n0 ≤ T37.heap.size := Nat.le_trans z35 p37_0.1
  have K37 : Keep h0 T37.heap [] := K35.trans p37_0 (allS (Or.inr sz_b32) all0)
  have R38 := fun t k => R36 t (st37.trans k)
  have R39 : own_R p e below T37 (mkF m 155 (fA27 b16 b32 p0 p1 p2 p3 p4 p5 r_10 r_13 r_4 r_7) []) s₁ f0 := fun t k => R38 t (by
   refine XS.astore X37.here hx rfl (hb hby at_78) rfl rfl (l' := #[iv p0, iv p1, iv p2, iv p3, iv p4, own_l p5, .second, iv 0, iv r_4, iv r_7, iv r_10, iv r_13, rv b16, rv b32, .unset, .unset, .unset, .unset]) rfl ?_
   refine XS.iconst X37.here hx rfl (hb hby at_80) ?_
   refine XS.istore X37.here hx rfl (hb hby at_81) rfl (l' := #[iv p0, iv p1, iv p2, iv p3, iv p4, own_l p5, .second, iv 0, iv r_4, iv r_7, iv r_10, iv r_13, rv b16, rv b32, iv (-1), .unset, .unset, .unset]) rfl ?_
   refine XS.iload X37.here hx rfl (hb hby at_83) rfl ?_
   refine XS.ifYes X37.here hx rfl (pc0 := 85) (pc' := 98) rfl (hb hby at_85) rfl ((if0 _ _).trans (flt (by decide : ¬ ((0 : Int32) < (0 : Int32)))).2.2.2) (by decide) (by decide) ?_
   refine XS.iload X37.here hx rfl (hb hby at_98) rfl ?_
   refine XS.iconst X37.here hx rfl (hb hby at_100) ?_
   refine XS.icmpYes X37.here hx rfl (pc0 := 101) (pc' := 114) rfl (hb hby at_101) rfl (flt (by decide : ¬ ((1 : Int32) < (0 : Int32)))).2.2.2 (by decide) (by decide) ?_
   refine XS.iload X37.here hx rfl (hb hby at_114) rfl ?_
   refine XS.iconst X37.here hx rfl (hb hby at_116) ?_
   refine XS.icmpYes X37.here hx rfl (pc0 := 117) (pc' := 130) rfl (hb hby at_117) rfl (flt (by decide : ¬ ((2 : Int32) < (0 : Int32)))).2.2.2 (by decide) (by decide) ?_
   refine XS.iload X37.here hx rfl (hb hby at_130) rfl ?_
   show own_S p e below T37 (mkF m 132 #[iv p0, iv p1, iv p2, iv p3, iv p4, own_l p5, .second, iv 0, iv r_4, iv r_7, iv r_10, iv r_13, rv b16, rv b32, iv (-1), .unset, .unset, .unset] [(.int 0)]) _
   refine XS.iconst X37.here hx rfl (hb hby at_132) ?_
   refine XS.icmpYes X37.here hx rfl (pc0 := 133) (pc' := 146) rfl (hb hby at_133) rfl (flt (by decide : ¬ ((3 : Int32) < (0 : Int32)))).2.2.2 (by decide) (by decide) ?_
   refine XS.iload X37.here hx rfl (hb hby at_146) rfl ?_
   refine XS.iload X37.here hx rfl (hb hby at_148) rfl ?_
   refine XS.isub X37.here hx rfl (hb hby at_150) rfl ?_
   refine XS.iconst X37.here hx rfl (hb hby at_151) ?_
   refine XS.isub X37.here hx rfl (hb hby at_152) rfl ?_
   refine XS.istore X37.here hx rfl (hb hby at_153) rfl (l' := (fA27 b16 b32 p0 p1 p2 p3 p4 p5 r_10 r_13 r_4 r_7)) rfl ?_
   exact k)
  obtain ⟨T40, h40, X40, e40, E40, A40, D40, -, st40⟩ := newO X37 hx hZ hown (hU 29 _ rfl) (hU 30 _ rfl) (hU 31 _ rfl) rfl (g := (mkF m 155 (fA27 b16 b32 p0 p1 p2 p3 p4 p5 r_10 r_13 r_4 r_7) [])) rfl (hb hby at_155) (by decide) (by decide)
  obtain ⟨b40, g40⟩ : ∃ z, z = T37.heap.size := ⟨_, rfl⟩
  rw [← g40] at A40 D40 st40
  have g_b40 : n0 ≤ b40 := Nat.le_trans z37 (Nat.le_of_eq g40.symm)
  have sz_b40 : h0.size ≤ b40 := Nat.le_trans K37.1 (Nat.le_of_eq g40.symm)
  have ne_b16_b40 : b16 ≠ b40 := Nat.ne_of_lt (Nat.lt_of_lt_of_le f37_A_b16.lt (Nat.le_of_eq g40.symm))
  have ne_b32_b40 : b32 ≠ b40 := Nat.ne_of_lt (Nat.lt_of_lt_of_le f37_E_b32.lt (Nat.le_of_eq g40.symm))
  have ne_b_37_b40 : b_37 ≠ b40 := Nat.ne_of_lt (Nat.lt_of_lt_of_le p37_3.lt (Nat.le_of_eq g40.symm))
  have f40_S_String_COMPACT_STRINGS := f37_S_String_COMPACT_STRINGS.ext E40
  have f40_S_Preconditions_SIOOBE_FORMATTER := f37_S_Preconditions_SIOOBE_FORMATTER.ext E40
  have f40_A_b16 := f37_A_b16.ext E40
  have f40_E_b32 := f37_E_b32.ext E40
  have f40_F_value_b32 := p37_1.ext E40
  have f40_F_coder_b32 := p37_2.ext E40
  have f40_A_b_37 := p37_3.ext E40
  have z40 : n0 ≤ h40.size := Nat.le_trans z37 E40.1
  have sk40 : T37.heap.size ≤ h40.size := Nat.le_trans (Nat.le_refl _) E40.1
  have K40 : Keep h0 h40 [] := K37.ext E40
  have d40_path : Fld Z h40 b40 sN0 "path" "Ljava/lang/String;" .null := D40 (Or.inr (hU 37 _ rfl)) (ty := (.object "java/lang/String")) (by decide)
  have d40_creationZxid : Fld Z h40 b40 sN0 "creationZxid" "J" (.long (0 : Int64)) := D40 (Or.inr (hU 39 _ rfl)) (ty := .long) (by decide)
  have R41 := fun t k => R39 t (st40 t k)
  have R42 : own_R p e below T40 (mkF m 163 (fA27 b16 b32 p0 p1 p2 p3 p4 p5 r_10 r_13 r_4 r_7) [(.long p5), (.ref b32), (.ref b40), (.ref b40)]) s₁ f0 := fun t k => R41 t (by
   refine XS.dup X40.here hx rfl (hb hby at_158) rfl rfl ?_
   refine XS.aload X40.here hx rfl (hb hby at_159) rfl rfl ?_
   refine XS.lload X40.here hx rfl (hb hby at_161) rfl ?_
   exact k)
  obtain ⟨_, _, ⟨T43, L43, k43, n43⟩, -, X43, ⟨Lc43, hQ43, l43, y43, z43⟩, st43⟩ := X40.specialBack hx (y := yN5) rfl hown (mvT hZ (hU 32 _ rfl)) (mvT hZ (hU 33 _ rfl)) (mvT hZ (hU 34 _ rfl)) (by decide) (backOf (W := 1) (rmQni l Z a0 hw [] b40 b32 p5 .null (.long (0 : Int64)) h40 n0 z40 A40 d40_path d40_creationZxid g_b40) hZ (hU 34 _ rfl) (hU 31 _ rfl) (by decide) (by decide)) (g := (mkF m 163 (fA27 b16 b32 p0 p1 p2 p3 p4 p5 r_10 r_13 r_4 r_7) [(.long p5), (.ref b32), (.ref b40), (.ref b40)])) rfl (by rw [hml]; rfl) (Steps.refl _) (a := b40) (argsL := [(.ref b32), (.long p5)]) (rest := [(.ref b40)]) (lenOf pd_31 rfl) rfl (Nat.le_of_eq rfl) (hb hby at_163) (fun _ _ => ⟨rfl, e40, (by decide : 6 + 0 ≤ _), (by decide : 14 + 0 ≤ _)⟩)
  dsimp only [Pt.U, Pt.locs, Pt.cells, Pt.slots] at X43 l43 y43 z43 st43 hQ43
  subst l43 y43 z43
  obtain ⟨rfl, N43q, p43_0, p43_1⟩ := hQ43
  have N43 := Fr.app N37 N43q
  have f43_S_String_COMPACT_STRINGS := own_sta_keep f40_S_String_COMPACT_STRINGS p43_0 (nsS A40.nostat ns0)
  have f43_S_Preconditions_SIOOBE_FORMATTER := own_sta_keep f40_S_Preconditions_SIOOBE_FORMATTER p43_0 (nsS A40.nostat ns0)
  have f43_A_b16 := f40_A_b16.keep p43_0 (ninS ne_b16_b40 nin0)
  have f43_E_b32 := f40_E_b32.keep p43_0
  have f43_F_value_b32 := f40_F_value_b32.keep p43_0 (ninS ne_b32_b40 nin0)
  have f43_F_coder_b32 := f40_F_coder_b32.keep p43_0 (ninS ne_b32_b40 nin0)
  have f43_A_b_37 := f40_A_b_37.keep p43_0 (ninS ne_b_37_b40 nin0)
  have f43_E_b40 := A40.keep p43_0
  have z43 : n0 ≤ T43.heap.size := Nat.le_trans z40 p43_0.1
  have sk43 : T37.heap.size ≤ T43.heap.size := Nat.le_trans sk40 p43_0.1
  have K43 : Keep h0 T43.heap [] := K40.trans p43_0 (allS (Or.inr sz_b40) all0)
  have R44 := fun t k => R42 t (st43.trans k)
  have R45 : own_R p e below T43 (mkF m 170 #[iv p0, iv p1, iv p2, iv p3, iv p4, own_l p5, .second, iv 0, iv r_4, iv r_7, iv r_10, iv r_13, rv b16, rv b32, iv (-1), iv 0, rv b40, .unset] [(.ref b40)]) s₁ f0 := fun t k => R44 t (by
   refine XS.astore X43.here hx rfl (hb hby at_166) rfl rfl (l' := #[iv p0, iv p1, iv p2, iv p3, iv p4, own_l p5, .second, iv 0, iv r_4, iv r_7, iv r_10, iv r_13, rv b16, rv b32, iv (-1), iv 0, rv b40, .unset]) rfl ?_
   refine XS.aload X43.here hx rfl (hb hby at_168) rfl rfl ?_
   exact k)
  obtain ⟨cq46, kq46, q46a, q46b, q46c⟩ := isOf hZ rfl f43_E_b40
  obtain ⟨_, _, ⟨T46, L46, k46, n46⟩, -, X46, ⟨Lc46, hQ46, l46, y46, z46⟩, st46⟩ := X43.virtualBack hx (y := yN2) (z := yN2) hown (mvT hZ (hU 40 _ rfl)) (mvT hZ (hU 41 _ rfl)) (notFace_of_selects (args := #[]) (mvT hZ (hU 43 _ rfl))) (mvT hZ (hU 43 _ rfl)) (mvT hZ (hU 42 _ rfl)) (by decide) (backOf (W := 0) (rmNm0 l Z a0 hw [] b40 b32 b_37 kb_37 (0 : Int32) [] cs sf (-1 : Int32) (own_li0 ) T43.heap n0 z43 f43_E_b40 p43_1 f43_E_b32 f43_F_coder_b32 f43_F_value_b32 f43_A_b_37 f43_S_String_COMPACT_STRINGS hcs f43_S_Preconditions_SIOOBE_FORMATTER hsf (by decide) (by decide) (rmLli0 l Z a0 hw [] b_37 kb_37  T43.heap n0 z43 f43_A_b_37) (by decide)) hZ (hU 44 _ rfl) (hU 31 _ rfl) (by decide) (by decide)) q46a q46c (g := (mkF m 170 #[iv p0, iv p1, iv p2, iv p3, iv p4, own_l p5, .second, iv 0, iv r_4, iv r_7, iv r_10, iv r_13, rv b16, rv b32, iv (-1), iv 0, rv b40, .unset] [(.ref b40)])) rfl (by rw [hml]; rfl) (Steps.refl _) (argsL := []) (rest := []) (lenOf pd_32 rfl) rfl (Nat.le_of_eq rfl) (hb hby at_170) (fun _ _ => ⟨rfl, rfl, (by decide : 6 + 0 ≤ _), (by decide : 14 + 0 ≤ _)⟩)
  dsimp only [Pt.U, Pt.locs, Pt.cells, Pt.slots] at X46 l46 y46 z46 st46 hQ46
  subst l46 y46 z46
  obtain ⟨rfl, N46q, p46_0⟩ := hQ46
  have N46 := Fr.app N43 N46q
  have R47 := fun t k => R45 t (st46.trans k)
  have R48 : own_R p e below T46 (mkF m 177 (fA15 b16 b32 b40 p0 p1 p2 p3 p4 p5 r_10 r_13 r_4 r_7) [(.ref b32)]) s₁ f0 := fun t k => R47 t (by
   refine XS.astore X46.here hx rfl (hb hby at_173) rfl rfl (l' := (fA15 b16 b32 b40 p0 p1 p2 p3 p4 p5 r_10 r_13 r_4 r_7)) rfl ?_
   refine XS.aload X46.here hx rfl (hb hby at_175) rfl rfl ?_
   exact k)
  obtain ⟨cq49, kq49, q49a, q49b, q49c⟩ := isOf hZ p46_0 f43_E_b32
  obtain ⟨_, _, ⟨T49, L49, k49, n49⟩, -, X49, ⟨Lc49, hQ49, l49, y49, z49⟩, st49⟩ := X46.virtualBack hx (y := yN0) (z := yN0) hown (mvT hZ (hU 100 _ rfl)) (mvT hZ (hU 51 _ rfl)) (notFace_of_selects (args := #[]) (mvT hZ (hU 53 _ rfl))) (mvT hZ (hU 53 _ rfl)) (mvT hZ (hU 52 _ rfl)) (by decide) (backOf (W := 0) (rmLen l Z a0 hw [] b32 b_37 kb_37 (0 : Int32) [] (.int 0) cs T43.heap n0 z43 f43_E_b32 f43_F_coder_b32 f43_F_value_b32 f43_A_b_37 f43_S_String_COMPACT_STRINGS hcs) hZ (hU 54 _ rfl) (hU 7 _ rfl) (by decide) (by decide)) q49a q49c (g := (mkF m 177 (fA15 b16 b32 b40 p0 p1 p2 p3 p4 p5 r_10 r_13 r_4 r_7) [(.ref b32)])) rfl (by rw [hml]; rfl) (Steps.refl _) (argsL := []) (rest := []) (lenOf pd_20 rfl) rfl (Nat.le_of_eq rfl) (hb hby at_177) (fun _ _ => ⟨rfl, p46_0, (by decide : 6 + 0 ≤ _), (by decide : 14 + 0 ≤ _)⟩)
  dsimp only [Pt.U, Pt.locs, Pt.cells, Pt.slots] at X49 l49 y49 z49 st49 hQ49
  subst l49 y49 z49
  obtain ⟨rfl, N49q, p49_0⟩ := hQ49
  have N49 := Fr.app N46 N49q
  have R50 := fun t k => R48 t (st49.trans k)
  have R51 : own_R p e below T49 (mkF m 180 (fA15 b16 b32 b40 p0 p1 p2 p3 p4 p5 r_10 r_13 r_4 r_7) [(.int 0)]) s₁ f0 := by have q := R50; rw [((own_sh (0 : Int32)) : ((0 : Int32) >>> ((0 : Int32) &&& 31)) = (0 : Int32))] at q; exact q
  have R52 : own_R p e below T49 (mkF m 283 (fA15 b16 b32 b40 p0 p1 p2 p3 p4 p5 r_10 r_13 r_4 r_7) [(.int 1)]) s₁ f0 := fun t k => R51 t (by
   refine XS.iload X49.here hx rfl (hb hby at_180) rfl ?_
   refine XS.icmpYes X49.here hx rfl (pc0 := 182) (pc' := 187) rfl (hb hby at_182) rfl (teq (by decide : (0 : Int32) = (0 : Int32))).1 (by decide) (by decide) ?_
   refine XS.iload X49.here hx rfl (hb hby at_187) rfl ?_
   refine XS.ifYes X49.here hx rfl (pc0 := 189) (pc' := 210) rfl (hb hby at_189) rfl ((if0 _ _).trans (flt (by decide : ¬ ((0 : Int32) < (0 : Int32)))).2.2.2) (by decide) (by decide) ?_
   refine XS.iload X49.here hx rfl (hb hby at_210) rfl ?_
   refine XS.iconst X49.here hx rfl (hb hby at_212) ?_
   refine XS.icmpYes X49.here hx rfl (pc0 := 213) (pc' := 234) rfl (hb hby at_213) rfl (flt (by decide : ¬ ((1 : Int32) < (0 : Int32)))).2.2.2 (by decide) (by decide) ?_
   refine XS.iload X49.here hx rfl (hb hby at_234) rfl ?_
   refine XS.iconst X49.here hx rfl (hb hby at_236) ?_
   refine XS.icmpYes X49.here hx rfl (pc0 := 237) (pc' := 258) rfl (hb hby at_237) rfl (flt (by decide : ¬ ((2 : Int32) < (0 : Int32)))).2.2.2 (by decide) (by decide) ?_
   refine XS.iload X49.here hx rfl (hb hby at_258) rfl ?_
   refine XS.iconst X49.here hx rfl (hb hby at_260) ?_
   show own_S p e below T49 (mkF m 261 (fA15 b16 b32 b40 p0 p1 p2 p3 p4 p5 r_10 r_13 r_4 r_7) [(.int 3), (.int 0)]) _
   refine XS.icmpYes X49.here hx rfl (pc0 := 261) (pc' := 282) rfl (hb hby at_261) rfl (flt (by decide : ¬ ((3 : Int32) < (0 : Int32)))).2.2.2 (by decide) (by decide) ?_
   refine XS.iconst X49.here hx rfl (hb hby at_282) ?_
   exact k)
  obtain ⟨fs, hr, hrun, hended, hend⟩ := X49.leaveW S37 (by rw [p49_0]; exact sk43) (v := some (.int 1)) (fun h => by rw [Bd.returns] at h; cases h)
  refine ⟨_, _, pre0 _ (R52 _ ?_), hrun, hended, _, _, rfl, ?_, hend.1, hend.2.1, hend.2.2.1, hend.2.2.2.mono (by decide) (by decide)⟩
  ·
   show own_S p e below T49 (mkF m 283 (fA15 b16 b32 b40 p0 p1 p2 p3 p4 p5 r_10 r_13 r_4 r_7) [(.int 1)]) _
   exact retN X49 hx (t := .boolean) Bd.returns (by simp) (hb hby at_283) hr
  ·
   show Q_rmLaw Z p0 p1 p2 p3 p4 p5 cs sf h0 n0 _ T49.heap _
   rw [p49_0]
   exact ⟨rfl, N49⟩
 ·
  have R53 : own_R p e below T28 (mkF m 58 (fA21 b16 p0 p1 p2 p3 p4 p5 r_10 r_13 r_4 r_7) []) s₁ f0 := by have q := R30; rw [(hp : nn = (1 : Int32))] at q; exact q
  obtain ⟨T54, h54, X54, e54, E54, A54, D54, -, st54⟩ := newO X28 hx hZ hown (hU 5 _ rfl) (hU 6 _ rfl) (hU 7 _ rfl) e28 (g := (mkF m 58 (fA21 b16 p0 p1 p2 p3 p4 p5 r_10 r_13 r_4 r_7) [])) rfl (hb hby at_58) (by decide) (by decide)
  obtain ⟨b54, g54⟩ : ∃ z, z = h28.size := ⟨_, rfl⟩
  rw [← g54] at A54 D54 st54
  have g_b54 : n0 ≤ b54 := Nat.le_trans z28 (Nat.le_of_eq g54.symm)
  have sz_b54 : h0.size ≤ b54 := Nat.le_trans K28.1 (Nat.le_of_eq g54.symm)
  have ne_b16_b54 : b16 ≠ b54 := Nat.ne_of_lt (Nat.lt_of_lt_of_le v28.lt (Nat.le_of_eq g54.symm))
  have f54_S_String_COMPACT_STRINGS := f28_S_String_COMPACT_STRINGS.ext E54
  have f54_S_Preconditions_SIOOBE_FORMATTER := f28_S_Preconditions_SIOOBE_FORMATTER.ext E54
  have f54_A_b16 := v28.ext E54
  have z54 : n0 ≤ h54.size := Nat.le_trans z28 E54.1
  have K54 : Keep h0 h54 [] := K28.ext E54
  have d54_value : Fld Z h54 b54 "java/lang/String" "value" "[B" .null := D54 (Or.inr (hU 23 _ rfl)) (ty := (.array .byte)) (by decide)
  have d54_coder : Fld Z h54 b54 "java/lang/String" "coder" "B" (.int 0) := D54 (Or.inr (hU 24 _ rfl)) (ty := .byte) (by decide)
  have R55 := fun t k => R53 t (st54 t k)
  have R56 : own_R p e below T54 (mkF m 72 (fA21 b16 p0 p1 p2 p3 p4 p5 r_10 r_13 r_4 r_7) [(.int r_13), (.int r_10), (.int r_7), (.int r_4), (.int 1), (.ref b54), (.ref b54)]) s₁ f0 := fun t k => R55 t (by
   refine XS.dup X54.here hx rfl (hb hby at_61) rfl rfl ?_
   refine XS.iload X54.here hx rfl (hb hby at_62) rfl ?_
   refine XS.iload X54.here hx rfl (hb hby at_64) rfl ?_
   refine XS.iload X54.here hx rfl (hb hby at_66) rfl ?_
   refine XS.iload X54.here hx rfl (hb hby at_68) rfl ?_
   refine XS.iload X54.here hx rfl (hb hby at_70) rfl ?_
   exact k)
  obtain ⟨_, _, ⟨T57, L57, k57, n57⟩, -, X57, ⟨Lc57, hQ57, l57, y57, z57⟩, st57⟩ := Jvm.LawKit.callS X54 hx (y := yN6) hown (mvT hZ (hU 8 _ rfl)) (mvT hZ (hU 9 _ rfl)) (mvT hZ (hU 2 _ rfl)) (mvT hZ (hU 10 _ rfl)) (by decide) (backOf (W := 2) (rmMk1 l Z a0 hw [] r_4 r_7 r_10 r_13 h54 n0 z54) hZ (hU 10 _ rfl) (hU 2 _ rfl) (by decide) (by decide)) (g := (mkF m 72 (fA21 b16 p0 p1 p2 p3 p4 p5 r_10 r_13 r_4 r_7) [(.int r_13), (.int r_10), (.int r_7), (.int r_4), (.int 1), (.ref b54), (.ref b54)])) rfl (by rw [hml]; rfl) (argsL := [(.int 1), (.int r_4), (.int r_7), (.int r_10), (.int r_13)]) (rest := [(.ref b54), (.ref b54)]) (lenOf pd_29 rfl) rfl (Nat.le_of_eq rfl) (hb hby at_72) (fun _ _ => ⟨rfl, e54, (by decide : 2 + 1 ≤ _), (by decide : 8 + 1 ≤ _)⟩)
  dsimp only [Pt.U, Pt.locs, Pt.cells, Pt.slots] at X57 l57 y57 z57 st57 hQ57
  subst l57 y57 z57
  obtain ⟨b_57, kb_57, rfl, N57q, p57_0, p57_1, p57_2⟩ := hQ57
  have N57 := Fr.app N28 N57q
  have f57_S_String_COMPACT_STRINGS := own_sta_keep f54_S_String_COMPACT_STRINGS p57_0 ns0
  have f57_S_Preconditions_SIOOBE_FORMATTER := own_sta_keep f54_S_Preconditions_SIOOBE_FORMATTER p57_0 ns0
  have f57_A_b16 := f54_A_b16.keep p57_0 nin0
  have f57_E_b54 := A54.keep p57_0
  have f57_F_value_b54 := d54_value.keep p57_0 nin0
  have f57_F_coder_b54 := d54_coder.keep p57_0 nin0
  have z57 : n0 ≤ T57.heap.size := Nat.le_trans z54 p57_0.1
  have K57 : Keep h0 T57.heap [] := K54.trans p57_0 all0
  have g_b_57 : n0 ≤ b_57 := Nat.le_trans z54 p57_2
  have sz_b_57 : h0.size ≤ b_57 := Nat.le_trans K54.1 p57_2
  have ne_b16_b_57 : b16 ≠ b_57 := Nat.ne_of_lt (Nat.lt_of_lt_of_le f54_A_b16.lt p57_2)
  have ne_b54_b_57 : b54 ≠ b_57 := Nat.ne_of_lt (Nat.lt_of_lt_of_le d54_value.lt p57_2)
  have R58 := fun t k => R56 t (st57 t k)
  obtain ⟨_, _, ⟨T59, L59, k59, n59⟩, -, X59, ⟨Lc59, hQ59, l59, y59, z59⟩, st59⟩ := X57.specialBack hx (y := yN13) rfl hown (mvT hZ (hU 11 _ rfl)) (mvT hZ (hU 12 _ rfl)) (mvT hZ (hU 13 _ rfl)) (by decide) (backOf (W := 1) (rmStr l Z a0 hw [] b54 b_57 .null (.int 0) kb_57 (1 : Int32) [(.int (nar .char r_4))] [(.int (nar .byte ((nar .char r_4).toInt8.toInt32)))] cs T57.heap n0 z57 f57_E_b54 f57_F_value_b54 f57_F_coder_b54 g_b54 p57_1 ne_b54_b_57 f57_S_String_COMPACT_STRINGS hcs (by decide) (rmComp1 l Z a0 hw [] b_57 kb_57 (nar .char r_4) T57.heap n0 z57 p57_1 (own_h255 p4_1))) hZ (hU 13 _ rfl) (hU 7 _ rfl) (by decide) (by decide)) (g := (mkF m 75 (fA21 b16 p0 p1 p2 p3 p4 p5 r_10 r_13 r_4 r_7) [(.ref b_57), (.ref b54), (.ref b54)])) rfl (by rw [hml]; rfl) (Steps.refl _) (a := b54) (argsL := [(.ref b_57)]) (rest := [(.ref b54)]) (lenOf pd_30 rfl) rfl (Nat.le_of_eq rfl) (hb hby at_75) (fun _ _ => ⟨rfl, rfl, (by decide : 3 + 1 ≤ _), (by decide : 9 + 4 ≤ _)⟩)
  dsimp only [Pt.U, Pt.locs, Pt.cells, Pt.slots] at X59 l59 y59 z59 st59 hQ59
  subst l59 y59 z59
  obtain ⟨b2_59, kb2_59, rfl, N59q, p59_0, p59_1, p59_2, p59_3, p59_4⟩ := hQ59
  have N59 := Fr.app N57 N59q
  have f59_S_String_COMPACT_STRINGS := own_sta_keep f57_S_String_COMPACT_STRINGS p59_0 (nsS f57_E_b54.nostat ns0)
  have f59_S_Preconditions_SIOOBE_FORMATTER := own_sta_keep f57_S_Preconditions_SIOOBE_FORMATTER p59_0 (nsS f57_E_b54.nostat ns0)
  have f59_A_b16 := f57_A_b16.keep p59_0 (ninS ne_b16_b54 nin0)
  have f59_E_b54 := f57_E_b54.keep p59_0
  have f59_A_b_57 := p57_1.keep p59_0 (ninS (Ne.symm ne_b54_b_57) nin0)
  have z59 : n0 ≤ T59.heap.size := Nat.le_trans z57 p59_0.1
  have K59 : Keep h0 T59.heap [] := K57.trans p59_0 (allS (Or.inr sz_b54) all0)
  have g_b2_59 : n0 ≤ b2_59 := Nat.le_trans z57 p59_4
  have sz_b2_59 : h0.size ≤ b2_59 := Nat.le_trans K57.1 p59_4
  have ne_b16_b2_59 : b16 ≠ b2_59 := Nat.ne_of_lt (Nat.lt_of_lt_of_le f57_A_b16.lt p59_4)
  have ne_b54_b2_59 : b54 ≠ b2_59 := Nat.ne_of_lt (Nat.lt_of_lt_of_le f57_F_value_b54.lt p59_4)
  have ne_b_57_b2_59 : b_57 ≠ b2_59 := Nat.ne_of_lt (Nat.lt_of_lt_of_le p57_1.lt p59_4)
  have R60 := fun t k => R58 t (st59.trans k)
  have R61 : own_R p e below T59 (mkF m 80 #[iv p0, iv p1, iv p2, iv p3, iv p4, own_l p5, .second, iv 1, iv r_4, iv r_7, iv r_10, iv r_13, rv b16, rv b54, .unset, .unset, .unset, .unset] []) s₁ f0 := fun t k => R60 t (by
   refine XS.astore X59.here hx rfl (hb hby at_78) rfl rfl (l' := #[iv p0, iv p1, iv p2, iv p3, iv p4, own_l p5, .second, iv 1, iv r_4, iv r_7, iv r_10, iv r_13, rv b16, rv b54, .unset, .unset, .unset, .unset]) rfl ?_
   exact k)
  rcases own_K1 (r_4 = (47 : Int32)) with hK0 | hK0
  ·
   have R62 : own_R p e below T59 (mkF m 155 (fA39 b16 b54 p0 p1 p2 p3 p4 p5 r_10 r_13 r_4 r_7) []) s₁ f0 := fun t k => R61 t (by
    refine XS.iconst X59.here hx rfl (hb hby at_80) ?_
    refine XS.istore X59.here hx rfl (hb hby at_81) rfl (l' := #[iv p0, iv p1, iv p2, iv p3, iv p4, own_l p5, .second, iv 1, iv r_4, iv r_7, iv r_10, iv r_13, rv b16, rv b54, iv (-1), .unset, .unset, .unset]) rfl ?_
    refine XS.iload X59.here hx rfl (hb hby at_83) rfl ?_
    refine XS.ifNo X59.here hx rfl (hb hby at_85) rfl ((if0 _ _).trans (tlt (by decide : (0 : Int32) < (1 : Int32))).2.2.2) ?_
    refine XS.iload X59.here hx rfl (hb hby at_88) rfl ?_
    refine XS.bipush X59.here hx rfl (hb hby at_90) ?_
    refine XS.icmpNo X59.here hx rfl (hb hby at_92) rfl (teq hK0).2 ?_
    refine XS.iconst X59.here hx rfl (hb hby at_95) ?_
    refine XS.istore X59.here hx rfl (hb hby at_96) rfl (l' := #[iv p0, iv p1, iv p2, iv p3, iv p4, own_l p5, .second, iv 1, iv r_4, iv r_7, iv r_10, iv r_13, rv b16, rv b54, iv 0, .unset, .unset, .unset]) rfl ?_
    refine XS.iload X59.here hx rfl (hb hby at_98) rfl ?_
    refine XS.iconst X59.here hx rfl (hb hby at_100) ?_
    refine XS.icmpYes X59.here hx rfl (pc0 := 101) (pc' := 114) rfl (hb hby at_101) rfl (flt (by decide : ¬ ((1 : Int32) < (1 : Int32)))).2.2.2 (by decide) (by decide) ?_
    show own_S p e below T59 (mkF m 114 #[iv p0, iv p1, iv p2, iv p3, iv p4, own_l p5, .second, iv 1, iv r_4, iv r_7, iv r_10, iv r_13, rv b16, rv b54, iv 0, .unset, .unset, .unset] []) _
    refine XS.iload X59.here hx rfl (hb hby at_114) rfl ?_
    refine XS.iconst X59.here hx rfl (hb hby at_116) ?_
    refine XS.icmpYes X59.here hx rfl (pc0 := 117) (pc' := 130) rfl (hb hby at_117) rfl (flt (by decide : ¬ ((2 : Int32) < (1 : Int32)))).2.2.2 (by decide) (by decide) ?_
    refine XS.iload X59.here hx rfl (hb hby at_130) rfl ?_
    refine XS.iconst X59.here hx rfl (hb hby at_132) ?_
    refine XS.icmpYes X59.here hx rfl (pc0 := 133) (pc' := 146) rfl (hb hby at_133) rfl (flt (by decide : ¬ ((3 : Int32) < (1 : Int32)))).2.2.2 (by decide) (by decide) ?_
    refine XS.iload X59.here hx rfl (hb hby at_146) rfl ?_
    refine XS.iload X59.here hx rfl (hb hby at_148) rfl ?_
    refine XS.isub X59.here hx rfl (hb hby at_150) rfl ?_
    refine XS.iconst X59.here hx rfl (hb hby at_151) ?_
    refine XS.isub X59.here hx rfl (hb hby at_152) rfl ?_
    refine XS.istore X59.here hx rfl (hb hby at_153) rfl (l' := (fA39 b16 b54 p0 p1 p2 p3 p4 p5 r_10 r_13 r_4 r_7)) rfl ?_
    exact k)
   obtain ⟨T63, h63, X63, e63, E63, A63, D63, -, st63⟩ := newO X59 hx hZ hown (hU 29 _ rfl) (hU 30 _ rfl) (hU 31 _ rfl) rfl (g := (mkF m 155 (fA39 b16 b54 p0 p1 p2 p3 p4 p5 r_10 r_13 r_4 r_7) [])) rfl (hb hby at_155) (by decide) (by decide)
   obtain ⟨b63, g63⟩ : ∃ z, z = T59.heap.size := ⟨_, rfl⟩
   rw [← g63] at A63 D63 st63
   have g_b63 : n0 ≤ b63 := Nat.le_trans z59 (Nat.le_of_eq g63.symm)
   have sz_b63 : h0.size ≤ b63 := Nat.le_trans K59.1 (Nat.le_of_eq g63.symm)
   have ne_b16_b63 : b16 ≠ b63 := Nat.ne_of_lt (Nat.lt_of_lt_of_le f59_A_b16.lt (Nat.le_of_eq g63.symm))
   have ne_b54_b63 : b54 ≠ b63 := Nat.ne_of_lt (Nat.lt_of_lt_of_le f59_E_b54.lt (Nat.le_of_eq g63.symm))
   have ne_b2_59_b63 : b2_59 ≠ b63 := Nat.ne_of_lt (Nat.lt_of_lt_of_le p59_3.lt (Nat.le_of_eq g63.symm))
   have f63_S_String_COMPACT_STRINGS := f59_S_String_COMPACT_STRINGS.ext E63
   have f63_S_Preconditions_SIOOBE_FORMATTER := f59_S_Preconditions_SIOOBE_FORMATTER.ext E63
   have f63_A_b16 := f59_A_b16.ext E63
   have f63_E_b54 := f59_E_b54.ext E63
   have f63_F_value_b54 := p59_1.ext E63
   have f63_F_coder_b54 := p59_2.ext E63
   have f63_A_b2_59 := p59_3.ext E63
   have z63 : n0 ≤ h63.size := Nat.le_trans z59 E63.1
   have K63 : Keep h0 h63 [] := K59.ext E63
   have d63_path : Fld Z h63 b63 sN0 "path" "Ljava/lang/String;" .null := D63 (Or.inr (hU 37 _ rfl)) (ty := (.object "java/lang/String")) (by decide)
   have d63_creationZxid : Fld Z h63 b63 sN0 "creationZxid" "J" (.long (0 : Int64)) := D63 (Or.inr (hU 39 _ rfl)) (ty := .long) (by decide)
   have R64 := fun t k => R62 t (st63 t k)
   have R65 : own_R p e below T63 (mkF m 163 (fA39 b16 b54 p0 p1 p2 p3 p4 p5 r_10 r_13 r_4 r_7) [(.long p5), (.ref b54), (.ref b63), (.ref b63)]) s₁ f0 := fun t k => R64 t (by
    refine XS.dup X63.here hx rfl (hb hby at_158) rfl rfl ?_
    refine XS.aload X63.here hx rfl (hb hby at_159) rfl rfl ?_
    refine XS.lload X63.here hx rfl (hb hby at_161) rfl ?_
    exact k)
   obtain ⟨_, _, ⟨T66, L66, k66, n66⟩, -, X66, ⟨Lc66, hQ66, l66, y66, z66⟩, st66⟩ := X63.specialBack hx (y := yN5) rfl hown (mvT hZ (hU 32 _ rfl)) (mvT hZ (hU 33 _ rfl)) (mvT hZ (hU 34 _ rfl)) (by decide) (backOf (W := 1) (rmQni l Z a0 hw [] b63 b54 p5 .null (.long (0 : Int64)) h63 n0 z63 A63 d63_path d63_creationZxid g_b63) hZ (hU 34 _ rfl) (hU 31 _ rfl) (by decide) (by decide)) (g := (mkF m 163 (fA39 b16 b54 p0 p1 p2 p3 p4 p5 r_10 r_13 r_4 r_7) [(.long p5), (.ref b54), (.ref b63), (.ref b63)])) rfl (by rw [hml]; rfl) (Steps.refl _) (a := b63) (argsL := [(.ref b54), (.long p5)]) (rest := [(.ref b63)]) (lenOf pd_31 rfl) rfl (Nat.le_of_eq rfl) (hb hby at_163) (fun _ _ => ⟨rfl, e63, (by decide : 5 + 0 ≤ _), (by decide : 15 + 0 ≤ _)⟩)
   dsimp only [Pt.U, Pt.locs, Pt.cells, Pt.slots] at X66 l66 y66 z66 st66 hQ66
   subst l66 y66 z66
   obtain ⟨rfl, N66q, p66_0, p66_1⟩ := hQ66
   have N66 := Fr.app N59 N66q
   have f66_S_String_COMPACT_STRINGS := own_sta_keep f63_S_String_COMPACT_STRINGS p66_0 (nsS A63.nostat ns0)
   have f66_S_Preconditions_SIOOBE_FORMATTER := own_sta_keep f63_S_Preconditions_SIOOBE_FORMATTER p66_0 (nsS A63.nostat ns0)
   have f66_A_b16 := f63_A_b16.keep p66_0 (ninS ne_b16_b63 nin0)
   have f66_E_b54 := f63_E_b54.keep p66_0
   have f66_F_value_b54 := f63_F_value_b54.keep p66_0 (ninS ne_b54_b63 nin0)
   have f66_F_coder_b54 := f63_F_coder_b54.keep p66_0 (ninS ne_b54_b63 nin0)
   have f66_A_b2_59 := f63_A_b2_59.keep p66_0 (ninS ne_b2_59_b63 nin0)
   have f66_E_b63 := A63.keep p66_0
   have z66 : n0 ≤ T66.heap.size := Nat.le_trans z63 p66_0.1
   have K66 : Keep h0 T66.heap [] := K63.trans p66_0 (allS (Or.inr sz_b63) all0)
   have R67 := fun t k => R65 t (st66.trans k)
   have R68 : own_R p e below T66 (mkF m 170 #[iv p0, iv p1, iv p2, iv p3, iv p4, own_l p5, .second, iv 1, iv r_4, iv r_7, iv r_10, iv r_13, rv b16, rv b54, iv 0, iv 0, rv b63, .unset] [(.ref b63)]) s₁ f0 := fun t k => R67 t (by
    refine XS.astore X66.here hx rfl (hb hby at_166) rfl rfl (l' := #[iv p0, iv p1, iv p2, iv p3, iv p4, own_l p5, .second, iv 1, iv r_4, iv r_7, iv r_10, iv r_13, rv b16, rv b54, iv 0, iv 0, rv b63, .unset]) rfl ?_
    refine XS.aload X66.here hx rfl (hb hby at_168) rfl rfl ?_
    exact k)
   obtain ⟨cq69, kq69, q69a, q69b, q69c⟩ := isOf hZ rfl f66_E_b63
   obtain ⟨_, _, ⟨T69, L69, k69, n69⟩, -, X69, S69, gq69, ⟨Lc69, hQ69, l69, y69, z69⟩, st69⟩ := X66.virtualBackS hx (y := yN2) (z := yN2) hown (mvT hZ (hU 40 _ rfl)) (mvT hZ (hU 41 _ rfl)) (notFace_of_selects (args := #[]) (mvT hZ (hU 43 _ rfl))) (mvT hZ (hU 43 _ rfl)) (mvT hZ (hU 42 _ rfl)) (by decide) (own_backS (s := s) (vm0 := s.vm) (W := 0) (rmNmE l Z a0 hw [] b63 b54 b2_59 kb2_59 (1 : Int32) [(.int (nar .byte ((nar .char r_4).toInt8.toInt32)))] cs sf (0 : Int32) (own_li1 (nar .byte ((nar .char r_4).toInt8.toInt32))) T66.heap n0 z66 f66_E_b63 p66_1 f66_E_b54 f66_F_coder_b54 f66_F_value_b54 f66_A_b2_59 f66_S_String_COMPACT_STRINGS hcs f66_S_Preconditions_SIOOBE_FORMATTER hsf (by decide) (by decide) (by decide) (rmLli1 l Z a0 hw [] b2_59 kb2_59 (nar .byte ((nar .char r_4).toInt8.toInt32)) T66.heap n0 z66 f66_A_b2_59) (own_lk10 (own_b47 hK0))) hZ (hU 44 _ rfl) (hU 31 _ rfl) (by decide) (by decide) hEL (CHv.keep K66 (fun _ h => nomatch h) hCH)) q69a q69c (g := (mkF m 170 #[iv p0, iv p1, iv p2, iv p3, iv p4, own_l p5, .second, iv 1, iv r_4, iv r_7, iv r_10, iv r_13, rv b16, rv b54, iv 0, iv 0, rv b63, .unset] [(.ref b63)])) rfl (by rw [hml]; rfl) (Steps.refl _) (argsL := []) (rest := []) (lenOf pd_32 rfl) rfl (Nat.le_of_eq rfl) (hb hby at_170) (fun _ _ => ⟨rfl, rfl, (by decide : 5 + 2 ≤ _), (by decide : 15 + 4 ≤ _)⟩)
   dsimp only [Pt.U, Pt.locs, Pt.cells, Pt.slots] at X69 l69 y69 z69 st69 hQ69 S69 gq69
   subst l69 y69 z69
   have hZ : Z.Warmed39 (s.setVm T69.vm).vm := State.Warmed39.trans (t := s) hZ S69.1
   have hown : (s.setVm T69.vm).vm.findClass sN1 = some m.cls := by rw [show (s.setVm T69.vm).vm = T69.vm from rfl, S69.1.alike.findClass]; exact hown
   obtain ⟨r_69, b2_69, kb2_69, rfl, N69q, p69_0, p69_1, p69_2, p69_3, p69_4⟩ := hQ69
   have N69 := Fr.app N66 N69q
   have f69_S_String_COMPACT_STRINGS := own_sta_keep f66_S_String_COMPACT_STRINGS p69_0 ns0
   have f69_S_Preconditions_SIOOBE_FORMATTER := own_sta_keep f66_S_Preconditions_SIOOBE_FORMATTER p69_0 ns0
   have f69_A_b16 := f66_A_b16.keep p69_0 nin0
   have f69_E_b54 := f66_E_b54.keep p69_0
   have f69_F_value_b54 := f66_F_value_b54.keep p69_0 nin0
   have f69_F_coder_b54 := f66_F_coder_b54.keep p69_0 nin0
   have f69_A_b2_59 := f66_A_b2_59.keep p69_0 nin0
   have f69_E_b63 := f66_E_b63.keep p69_0
   have f69_F_path_b63 := p66_1.keep p69_0 nin0
   have z69 : n0 ≤ T69.heap.size := Nat.le_trans z66 p69_0.1
   have K69 : Keep h0 T69.heap [] := K66.trans p69_0 all0
   have R70 := fun t k => R68 t (st69.trans k)
   have R71 : own_R p e below T69 (mkF m 177 (fA17 b16 b54 b63 p0 p1 p2 p3 p4 p5 r_10 r_13 r_4 r_69 r_7) [(.ref r_69)]) s₁ f0 := fun t k => R70 t (by
    refine XS.astore X69.here hx rfl (hb hby at_173) rfl rfl (l' := (fA17 b16 b54 b63 p0 p1 p2 p3 p4 p5 r_10 r_13 r_4 r_69 r_7)) rfl ?_
    refine XS.aload X69.here hx rfl (hb hby at_175) rfl rfl ?_
    exact k)
   obtain ⟨cq72, kq72, q72a, q72b, q72c⟩ := isOf hZ rfl p69_1
   obtain ⟨_, _, ⟨T72, L72, k72, n72⟩, -, X72, ⟨Lc72, hQ72, l72, y72, z72⟩, st72⟩ := X69.virtualBack hx (y := yN0) (z := yN0) hown (mvT hZ (hU 100 _ rfl)) (mvT hZ (hU 51 _ rfl)) (notFace_of_selects (args := #[]) (mvT hZ (hU 53 _ rfl))) (mvT hZ (hU 53 _ rfl)) (mvT hZ (hU 52 _ rfl)) (by decide) (backOf (W := 0) (rmLen l Z a0 hw [] r_69 b2_69 kb2_69 (0 : Int32) [] (.int 0) cs T69.heap n0 z69 p69_1 p69_2 p69_3 p69_4 f69_S_String_COMPACT_STRINGS hcs) hZ (hU 54 _ rfl) (hU 7 _ rfl) (by decide) (by decide)) q72a q72c (g := (mkF m 177 (fA17 b16 b54 b63 p0 p1 p2 p3 p4 p5 r_10 r_13 r_4 r_69 r_7) [(.ref r_69)])) rfl (by rw [hml]; rfl) (Steps.refl _) (argsL := []) (rest := []) (lenOf pd_20 rfl) rfl (Nat.le_of_eq rfl) (hb hby at_177) (fun _ _ => ⟨rfl, rfl, (by decide : 7 + 0 ≤ _), (by decide : 19 + 0 ≤ _)⟩)
   dsimp only [Pt.U, Pt.locs, Pt.cells, Pt.slots] at X72 l72 y72 z72 st72 hQ72
   subst l72 y72 z72
   obtain ⟨rfl, N72q, p72_0⟩ := hQ72
   have N72 := Fr.app N69 N72q
   have R73 := fun t k => R71 t (st72.trans k)
   have R74 : own_R p e below T72 (mkF m 180 (fA17 b16 b54 b63 p0 p1 p2 p3 p4 p5 r_10 r_13 r_4 r_69 r_7) [(.int 0)]) s₁ f0 := by have q := R73; rw [((own_sh (0 : Int32)) : ((0 : Int32) >>> ((0 : Int32) &&& 31)) = (0 : Int32))] at q; exact q
   have R75 : own_R p e below T72 (mkF m 283 (fA17 b16 b54 b63 p0 p1 p2 p3 p4 p5 r_10 r_13 r_4 r_69 r_7) [(.int 1)]) s₁ f0 := fun t k => R74 t (by
    refine XS.iload X72.here hx rfl (hb hby at_180) rfl ?_
    refine XS.icmpYes X72.here hx rfl (pc0 := 182) (pc' := 187) rfl (hb hby at_182) rfl (teq (by decide : (0 : Int32) = (0 : Int32))).1 (by decide) (by decide) ?_
    refine XS.iload X72.here hx rfl (hb hby at_187) rfl ?_
    refine XS.ifYes X72.here hx rfl (pc0 := 189) (pc' := 210) rfl (hb hby at_189) rfl ((if0 _ _).trans (flt (by decide : ¬ ((0 : Int32) < (0 : Int32)))).2.2.2) (by decide) (by decide) ?_
    refine XS.iload X72.here hx rfl (hb hby at_210) rfl ?_
    refine XS.iconst X72.here hx rfl (hb hby at_212) ?_
    refine XS.icmpYes X72.here hx rfl (pc0 := 213) (pc' := 234) rfl (hb hby at_213) rfl (flt (by decide : ¬ ((1 : Int32) < (0 : Int32)))).2.2.2 (by decide) (by decide) ?_
    refine XS.iload X72.here hx rfl (hb hby at_234) rfl ?_
    refine XS.iconst X72.here hx rfl (hb hby at_236) ?_
    refine XS.icmpYes X72.here hx rfl (pc0 := 237) (pc' := 258) rfl (hb hby at_237) rfl (flt (by decide : ¬ ((2 : Int32) < (0 : Int32)))).2.2.2 (by decide) (by decide) ?_
    refine XS.iload X72.here hx rfl (hb hby at_258) rfl ?_
    refine XS.iconst X72.here hx rfl (hb hby at_260) ?_
    show own_S p e below T72 (mkF m 261 (fA17 b16 b54 b63 p0 p1 p2 p3 p4 p5 r_10 r_13 r_4 r_69 r_7) [(.int 3), (.int 0)]) _
    refine XS.icmpYes X72.here hx rfl (pc0 := 261) (pc' := 282) rfl (hb hby at_261) rfl (flt (by decide : ¬ ((3 : Int32) < (0 : Int32)))).2.2.2 (by decide) (by decide) ?_
    refine XS.iconst X72.here hx rfl (hb hby at_282) ?_
    exact k)
   obtain ⟨fs, hr, hrun, hended, hend⟩ := X72.leaveW S69 (by rw [p72_0]; exact (Nat.le_refl _)) (v := some (.int 1)) (fun h => by rw [Bd.returns] at h; cases h)
   refine ⟨_, _, pre0 _ (R75 _ ?_), hrun, hended, _, _, rfl, ?_, hend.1, hend.2.1, hend.2.2.1, hend.2.2.2.mono (by decide) (by decide)⟩
   ·
    show own_S p e below T72 (mkF m 283 (fA17 b16 b54 b63 p0 p1 p2 p3 p4 p5 r_10 r_13 r_4 r_69 r_7) [(.int 1)]) _
    exact retN X72 hx (t := .boolean) Bd.returns (by simp) (hb hby at_283) hr
   ·
    show Q_rmLaw Z p0 p1 p2 p3 p4 p5 cs sf h0 n0 _ T72.heap _
    rw [p72_0]
    exact ⟨rfl, N72⟩
  ·
   have R76 : own_R p e below T59 (mkF m 155 (fA28 b16 b54 p0 p1 p2 p3 p4 p5 r_10 r_13 r_4 r_7) []) s₁ f0 := fun t k => R61 t (by
    refine XS.iconst X59.here hx rfl (hb hby at_80) ?_
    refine XS.istore X59.here hx rfl (hb hby at_81) rfl (l' := #[iv p0, iv p1, iv p2, iv p3, iv p4, own_l p5, .second, iv 1, iv r_4, iv r_7, iv r_10, iv r_13, rv b16, rv b54, iv (-1), .unset, .unset, .unset]) rfl ?_
    refine XS.iload X59.here hx rfl (hb hby at_83) rfl ?_
    refine XS.ifNo X59.here hx rfl (hb hby at_85) rfl ((if0 _ _).trans (tlt (by decide : (0 : Int32) < (1 : Int32))).2.2.2) ?_
    refine XS.iload X59.here hx rfl (hb hby at_88) rfl ?_
    refine XS.bipush X59.here hx rfl (hb hby at_90) ?_
    refine XS.icmpYes X59.here hx rfl (pc0 := 92) (pc' := 98) rfl (hb hby at_92) rfl (feq hK0).2 (by decide) (by decide) ?_
    refine XS.iload X59.here hx rfl (hb hby at_98) rfl ?_
    refine XS.iconst X59.here hx rfl (hb hby at_100) ?_
    refine XS.icmpYes X59.here hx rfl (pc0 := 101) (pc' := 114) rfl (hb hby at_101) rfl (flt (by decide : ¬ ((1 : Int32) < (1 : Int32)))).2.2.2 (by decide) (by decide) ?_
    refine XS.iload X59.here hx rfl (hb hby at_114) rfl ?_
    refine XS.iconst X59.here hx rfl (hb hby at_116) ?_
    show own_S p e below T59 (mkF m 117 #[iv p0, iv p1, iv p2, iv p3, iv p4, own_l p5, .second, iv 1, iv r_4, iv r_7, iv r_10, iv r_13, rv b16, rv b54, iv (-1), .unset, .unset, .unset] [(.int 2), (.int 1)]) _
    refine XS.icmpYes X59.here hx rfl (pc0 := 117) (pc' := 130) rfl (hb hby at_117) rfl (flt (by decide : ¬ ((2 : Int32) < (1 : Int32)))).2.2.2 (by decide) (by decide) ?_
    refine XS.iload X59.here hx rfl (hb hby at_130) rfl ?_
    refine XS.iconst X59.here hx rfl (hb hby at_132) ?_
    refine XS.icmpYes X59.here hx rfl (pc0 := 133) (pc' := 146) rfl (hb hby at_133) rfl (flt (by decide : ¬ ((3 : Int32) < (1 : Int32)))).2.2.2 (by decide) (by decide) ?_
    refine XS.iload X59.here hx rfl (hb hby at_146) rfl ?_
    refine XS.iload X59.here hx rfl (hb hby at_148) rfl ?_
    refine XS.isub X59.here hx rfl (hb hby at_150) rfl ?_
    refine XS.iconst X59.here hx rfl (hb hby at_151) ?_
    refine XS.isub X59.here hx rfl (hb hby at_152) rfl ?_
    refine XS.istore X59.here hx rfl (hb hby at_153) rfl (l' := (fA28 b16 b54 p0 p1 p2 p3 p4 p5 r_10 r_13 r_4 r_7)) rfl ?_
    exact k)
   obtain ⟨T77, h77, X77, e77, E77, A77, D77, -, st77⟩ := newO X59 hx hZ hown (hU 29 _ rfl) (hU 30 _ rfl) (hU 31 _ rfl) rfl (g := (mkF m 155 (fA28 b16 b54 p0 p1 p2 p3 p4 p5 r_10 r_13 r_4 r_7) [])) rfl (hb hby at_155) (by decide) (by decide)
   obtain ⟨b77, g77⟩ : ∃ z, z = T59.heap.size := ⟨_, rfl⟩
   rw [← g77] at A77 D77 st77
   have g_b77 : n0 ≤ b77 := Nat.le_trans z59 (Nat.le_of_eq g77.symm)
   have sz_b77 : h0.size ≤ b77 := Nat.le_trans K59.1 (Nat.le_of_eq g77.symm)
   have ne_b16_b77 : b16 ≠ b77 := Nat.ne_of_lt (Nat.lt_of_lt_of_le f59_A_b16.lt (Nat.le_of_eq g77.symm))
   have ne_b54_b77 : b54 ≠ b77 := Nat.ne_of_lt (Nat.lt_of_lt_of_le f59_E_b54.lt (Nat.le_of_eq g77.symm))
   have ne_b2_59_b77 : b2_59 ≠ b77 := Nat.ne_of_lt (Nat.lt_of_lt_of_le p59_3.lt (Nat.le_of_eq g77.symm))
   have f77_S_String_COMPACT_STRINGS := f59_S_String_COMPACT_STRINGS.ext E77
   have f77_S_Preconditions_SIOOBE_FORMATTER := f59_S_Preconditions_SIOOBE_FORMATTER.ext E77
   have f77_A_b16 := f59_A_b16.ext E77
   have f77_E_b54 := f59_E_b54.ext E77
   have f77_F_value_b54 := p59_1.ext E77
   have f77_F_coder_b54 := p59_2.ext E77
   have f77_A_b2_59 := p59_3.ext E77
   have z77 : n0 ≤ h77.size := Nat.le_trans z59 E77.1
   have K77 : Keep h0 h77 [] := K59.ext E77
   have d77_path : Fld Z h77 b77 sN0 "path" "Ljava/lang/String;" .null := D77 (Or.inr (hU 37 _ rfl)) (ty := (.object "java/lang/String")) (by decide)
   have d77_creationZxid : Fld Z h77 b77 sN0 "creationZxid" "J" (.long (0 : Int64)) := D77 (Or.inr (hU 39 _ rfl)) (ty := .long) (by decide)
   have R78 := fun t k => R76 t (st77 t k)
   have R79 : own_R p e below T77 (mkF m 163 (fA28 b16 b54 p0 p1 p2 p3 p4 p5 r_10 r_13 r_4 r_7) [(.long p5), (.ref b54), (.ref b77), (.ref b77)]) s₁ f0 := fun t k => R78 t (by
    refine XS.dup X77.here hx rfl (hb hby at_158) rfl rfl ?_
    refine XS.aload X77.here hx rfl (hb hby at_159) rfl rfl ?_
    refine XS.lload X77.here hx rfl (hb hby at_161) rfl ?_
    exact k)
   obtain ⟨_, _, ⟨T80, L80, k80, n80⟩, -, X80, ⟨Lc80, hQ80, l80, y80, z80⟩, st80⟩ := X77.specialBack hx (y := yN5) rfl hown (mvT hZ (hU 32 _ rfl)) (mvT hZ (hU 33 _ rfl)) (mvT hZ (hU 34 _ rfl)) (by decide) (backOf (W := 1) (rmQni l Z a0 hw [] b77 b54 p5 .null (.long (0 : Int64)) h77 n0 z77 A77 d77_path d77_creationZxid g_b77) hZ (hU 34 _ rfl) (hU 31 _ rfl) (by decide) (by decide)) (g := (mkF m 163 (fA28 b16 b54 p0 p1 p2 p3 p4 p5 r_10 r_13 r_4 r_7) [(.long p5), (.ref b54), (.ref b77), (.ref b77)])) rfl (by rw [hml]; rfl) (Steps.refl _) (a := b77) (argsL := [(.ref b54), (.long p5)]) (rest := [(.ref b77)]) (lenOf pd_31 rfl) rfl (Nat.le_of_eq rfl) (hb hby at_163) (fun _ _ => ⟨rfl, e77, (by decide : 5 + 0 ≤ _), (by decide : 15 + 0 ≤ _)⟩)
   dsimp only [Pt.U, Pt.locs, Pt.cells, Pt.slots] at X80 l80 y80 z80 st80 hQ80
   subst l80 y80 z80
   obtain ⟨rfl, N80q, p80_0, p80_1⟩ := hQ80
   have N80 := Fr.app N59 N80q
   have f80_S_String_COMPACT_STRINGS := own_sta_keep f77_S_String_COMPACT_STRINGS p80_0 (nsS A77.nostat ns0)
   have f80_S_Preconditions_SIOOBE_FORMATTER := own_sta_keep f77_S_Preconditions_SIOOBE_FORMATTER p80_0 (nsS A77.nostat ns0)
   have f80_A_b16 := f77_A_b16.keep p80_0 (ninS ne_b16_b77 nin0)
   have f80_E_b54 := f77_E_b54.keep p80_0
   have f80_F_value_b54 := f77_F_value_b54.keep p80_0 (ninS ne_b54_b77 nin0)
   have f80_F_coder_b54 := f77_F_coder_b54.keep p80_0 (ninS ne_b54_b77 nin0)
   have f80_A_b2_59 := f77_A_b2_59.keep p80_0 (ninS ne_b2_59_b77 nin0)
   have f80_E_b77 := A77.keep p80_0
   have z80 : n0 ≤ T80.heap.size := Nat.le_trans z77 p80_0.1
   have K80 : Keep h0 T80.heap [] := K77.trans p80_0 (allS (Or.inr sz_b77) all0)
   have R81 := fun t k => R79 t (st80.trans k)
   have R82 : own_R p e below T80 (mkF m 170 #[iv p0, iv p1, iv p2, iv p3, iv p4, own_l p5, .second, iv 1, iv r_4, iv r_7, iv r_10, iv r_13, rv b16, rv b54, iv (-1), iv 1, rv b77, .unset] [(.ref b77)]) s₁ f0 := fun t k => R81 t (by
    refine XS.astore X80.here hx rfl (hb hby at_166) rfl rfl (l' := #[iv p0, iv p1, iv p2, iv p3, iv p4, own_l p5, .second, iv 1, iv r_4, iv r_7, iv r_10, iv r_13, rv b16, rv b54, iv (-1), iv 1, rv b77, .unset]) rfl ?_
    refine XS.aload X80.here hx rfl (hb hby at_168) rfl rfl ?_
    exact k)
   obtain ⟨cq83, kq83, q83a, q83b, q83c⟩ := isOf hZ rfl f80_E_b77
   obtain ⟨_, _, ⟨T83, L83, k83, n83⟩, -, X83, ⟨Lc83, hQ83, l83, y83, z83⟩, st83⟩ := X80.virtualBack hx (y := yN2) (z := yN2) hown (mvT hZ (hU 40 _ rfl)) (mvT hZ (hU 41 _ rfl)) (notFace_of_selects (args := #[]) (mvT hZ (hU 43 _ rfl))) (mvT hZ (hU 43 _ rfl)) (mvT hZ (hU 42 _ rfl)) (by decide) (backOf (W := 0) (rmNm0 l Z a0 hw [] b77 b54 b2_59 kb2_59 (1 : Int32) [(.int (nar .byte ((nar .char r_4).toInt8.toInt32)))] cs sf (0 : Int32) (own_li1 (nar .byte ((nar .char r_4).toInt8.toInt32))) T80.heap n0 z80 f80_E_b77 p80_1 f80_E_b54 f80_F_coder_b54 f80_F_value_b54 f80_A_b2_59 f80_S_String_COMPACT_STRINGS hcs f80_S_Preconditions_SIOOBE_FORMATTER hsf (by decide) (by decide) (rmLli1 l Z a0 hw [] b2_59 kb2_59 (nar .byte ((nar .char r_4).toInt8.toInt32)) T80.heap n0 z80 f80_A_b2_59) (own_lk1m (own_n47 p4_1 hK0))) hZ (hU 44 _ rfl) (hU 31 _ rfl) (by decide) (by decide)) q83a q83c (g := (mkF m 170 #[iv p0, iv p1, iv p2, iv p3, iv p4, own_l p5, .second, iv 1, iv r_4, iv r_7, iv r_10, iv r_13, rv b16, rv b54, iv (-1), iv 1, rv b77, .unset] [(.ref b77)])) rfl (by rw [hml]; rfl) (Steps.refl _) (argsL := []) (rest := []) (lenOf pd_32 rfl) rfl (Nat.le_of_eq rfl) (hb hby at_170) (fun _ _ => ⟨rfl, rfl, (by decide : 5 + 0 ≤ _), (by decide : 15 + 0 ≤ _)⟩)
   dsimp only [Pt.U, Pt.locs, Pt.cells, Pt.slots] at X83 l83 y83 z83 st83 hQ83
   subst l83 y83 z83
   obtain ⟨rfl, N83q, p83_0⟩ := hQ83
   have N83 := Fr.app N80 N83q
   have R84 := fun t k => R82 t (st83.trans k)
   have R85 : own_R p e below T83 (mkF m 177 (fA8 b16 b54 b77 p0 p1 p2 p3 p4 p5 r_10 r_13 r_4 r_7) [(.ref b54)]) s₁ f0 := fun t k => R84 t (by
    refine XS.astore X83.here hx rfl (hb hby at_173) rfl rfl (l' := (fA8 b16 b54 b77 p0 p1 p2 p3 p4 p5 r_10 r_13 r_4 r_7)) rfl ?_
    refine XS.aload X83.here hx rfl (hb hby at_175) rfl rfl ?_
    exact k)
   obtain ⟨cq86, kq86, q86a, q86b, q86c⟩ := isOf hZ p83_0 f80_E_b54
   obtain ⟨_, _, ⟨T86, L86, k86, n86⟩, -, X86, ⟨Lc86, hQ86, l86, y86, z86⟩, st86⟩ := X83.virtualBack hx (y := yN0) (z := yN0) hown (mvT hZ (hU 100 _ rfl)) (mvT hZ (hU 51 _ rfl)) (notFace_of_selects (args := #[]) (mvT hZ (hU 53 _ rfl))) (mvT hZ (hU 53 _ rfl)) (mvT hZ (hU 52 _ rfl)) (by decide) (backOf (W := 0) (rmLen l Z a0 hw [] b54 b2_59 kb2_59 (1 : Int32) [(.int (nar .byte ((nar .char r_4).toInt8.toInt32)))] (.int 0) cs T80.heap n0 z80 f80_E_b54 f80_F_coder_b54 f80_F_value_b54 f80_A_b2_59 f80_S_String_COMPACT_STRINGS hcs) hZ (hU 54 _ rfl) (hU 7 _ rfl) (by decide) (by decide)) q86a q86c (g := (mkF m 177 (fA8 b16 b54 b77 p0 p1 p2 p3 p4 p5 r_10 r_13 r_4 r_7) [(.ref b54)])) rfl (by rw [hml]; rfl) (Steps.refl _) (argsL := []) (rest := []) (lenOf pd_20 rfl) rfl (Nat.le_of_eq rfl) (hb hby at_177) (fun _ _ => ⟨rfl, p83_0, (by decide : 5 + 0 ≤ _), (by decide : 15 + 0 ≤ _)⟩)
   dsimp only [Pt.U, Pt.locs, Pt.cells, Pt.slots] at X86 l86 y86 z86 st86 hQ86
   subst l86 y86 z86
   obtain ⟨rfl, N86q, p86_0⟩ := hQ86
   have N86 := Fr.app N83 N86q
   have R87 := fun t k => R85 t (st86.trans k)
   have R88 : own_R p e below T86 (mkF m 180 (fA8 b16 b54 b77 p0 p1 p2 p3 p4 p5 r_10 r_13 r_4 r_7) [(.int 1)]) s₁ f0 := by have q := R87; rw [((own_sh (1 : Int32)) : ((1 : Int32) >>> ((0 : Int32) &&& 31)) = (1 : Int32))] at q; exact q
   have R89 : own_R p e below T86 (mkF m 195 (fA8 b16 b54 b77 p0 p1 p2 p3 p4 p5 r_10 r_13 r_4 r_7) [(.int 0), (.ref b54)]) s₁ f0 := fun t k => R88 t (by
    refine XS.iload X86.here hx rfl (hb hby at_180) rfl ?_
    refine XS.icmpYes X86.here hx rfl (pc0 := 182) (pc' := 187) rfl (hb hby at_182) rfl (teq (by decide : (1 : Int32) = (1 : Int32))).1 (by decide) (by decide) ?_
    refine XS.iload X86.here hx rfl (hb hby at_187) rfl ?_
    refine XS.ifNo X86.here hx rfl (hb hby at_189) rfl ((if0 _ _).trans (tlt (by decide : (0 : Int32) < (1 : Int32))).2.2.2) ?_
    refine XS.aload X86.here hx rfl (hb hby at_192) rfl rfl ?_
    refine XS.iconst X86.here hx rfl (hb hby at_194) ?_
    exact k)
   obtain ⟨cq90, kq90, q90a, q90b, q90c⟩ := isOf hZ p86_0 f80_E_b54
   obtain ⟨_, _, ⟨T90, L90, k90, n90⟩, -, X90, ⟨Lc90, hQ90, l90, y90, z90⟩, st90⟩ := X86.virtualBack hx (y := yN1) (z := yN1) hown (mvT hZ (hU 111 _ rfl)) (mvT hZ (hU 112 _ rfl)) (notFace_of_selects (args := #[]) (mvT hZ (hU 114 _ rfl))) (mvT hZ (hU 114 _ rfl)) (mvT hZ (hU 113 _ rfl)) (by decide) (backOf (W := 0) (rmCa l Z a0 hw [] b54 (0 : Int32) b2_59 kb2_59 (1 : Int32) [(.int (nar .byte ((nar .char r_4).toInt8.toInt32)))] (.int 0) (nar .byte ((nar .char r_4).toInt8.toInt32)) cs sf T80.heap n0 z80 f80_E_b54 f80_F_coder_b54 f80_F_value_b54 f80_A_b2_59 f80_S_String_COMPACT_STRINGS hcs f80_S_Preconditions_SIOOBE_FORMATTER hsf (by decide) (by decide) rfl) hZ (hU 115 _ rfl) (hU 7 _ rfl) (by decide) (by decide)) q90a q90c (g := (mkF m 195 (fA8 b16 b54 b77 p0 p1 p2 p3 p4 p5 r_10 r_13 r_4 r_7) [(.int 0), (.ref b54)])) rfl (by rw [hml]; rfl) (Steps.refl _) (argsL := [(.int 0)]) (rest := []) (lenOf pd_28 rfl) rfl (Nat.le_of_eq rfl) (hb hby at_195) (fun _ _ => ⟨rfl, p86_0, (by decide : 5 + 0 ≤ _), (by decide : 15 + 0 ≤ _)⟩)
   dsimp only [Pt.U, Pt.locs, Pt.cells, Pt.slots] at X90 l90 y90 z90 st90 hQ90
   subst l90 y90 z90
   obtain ⟨rfl, N90q, p90_0⟩ := hQ90
   have N90 := Fr.app N86 N90q
   have R91 := fun t k => R89 t (st90.trans k)
   have R92 : own_R p e below T90 (mkF m 198 (fA8 b16 b54 b77 p0 p1 p2 p3 p4 p5 r_10 r_13 r_4 r_7) [(.int (nar .char r_4))]) s₁ f0 := by have q := R91; rw [((own_chb p4_1) : (own_ch (nar .byte ((nar .char r_4).toInt8.toInt32))) = (nar .char r_4))] at q; exact q
   have R93 : own_R p e below T90 (mkF m 204 (fA8 b16 b54 b77 p0 p1 p2 p3 p4 p5 r_10 r_13 r_4 r_7) [(.int 0), (.ref b16), (.int (nar .char r_4))]) s₁ f0 := fun t k => R92 t (by
    refine XS.aload X90.here hx rfl (hb hby at_198) rfl rfl ?_
    refine XS.iload X90.here hx rfl (hb hby at_200) rfl ?_
    refine XS.iconst X90.here hx rfl (hb hby at_202) ?_
    refine XS.iadd X90.here hx rfl (hb hby at_203) rfl ?_
    exact k)
   obtain ⟨cl94, Ar94, q94, S94, n94_, H94, G94⟩ := id f80_A_b16
   have hin94 : ¬ ((0 : Int32) < 0 ∨ cl94.slots.size ≤ ((0 : Int32)).toNatClampNeg) := inb_of S94 ⟨by decide, by decide⟩
   have hat94 : cl94.slots[((0 : Int32)).toNatClampNeg]? = some (.int (nar .char r_4)) := Has.at H94 hin94 rfl
   have R95 : own_R p e below T90 (mkF m 205 (fA8 b16 b54 b77 p0 p1 p2 p3 p4 p5 r_10 r_13 r_4 r_7) [(.int (nar .char r_4)), (.int (nar .char r_4))]) s₁ f0 := fun t k => R93 t (X90.caload hx (j := (0 : Int32)) (v := (.int (nar .char r_4))) (by rw [p90_0]; exact Ar94.1) (State.isArrayOf_alike hZ.alike Ar94.2.1) Ar94.2.2 hin94 hat94 (g := (mkF m 204 (fA8 b16 b54 b77 p0 p1 p2 p3 p4 p5 r_10 r_13 r_4 r_7) [(.int 0), (.ref b16), (.int (nar .char r_4))])) rfl rfl (hb hby at_204) _ k)
   have R96 : own_R p e below T90 (mkF m 283 (fA8 b16 b54 b77 p0 p1 p2 p3 p4 p5 r_10 r_13 r_4 r_7) [(.int 1)]) s₁ f0 := fun t k => R95 t (by
    refine XS.icmpYes X90.here hx rfl (pc0 := 205) (pc' := 210) rfl (hb hby at_205) rfl (teq rfl).1 (by decide) (by decide) ?_
    refine XS.iload X90.here hx rfl (hb hby at_210) rfl ?_
    refine XS.iconst X90.here hx rfl (hb hby at_212) ?_
    refine XS.icmpYes X90.here hx rfl (pc0 := 213) (pc' := 234) rfl (hb hby at_213) rfl (flt (by decide : ¬ ((1 : Int32) < (1 : Int32)))).2.2.2 (by decide) (by decide) ?_
    refine XS.iload X90.here hx rfl (hb hby at_234) rfl ?_
    refine XS.iconst X90.here hx rfl (hb hby at_236) ?_
    refine XS.icmpYes X90.here hx rfl (pc0 := 237) (pc' := 258) rfl (hb hby at_237) rfl (flt (by decide : ¬ ((2 : Int32) < (1 : Int32)))).2.2.2 (by decide) (by decide) ?_
    refine XS.iload X90.here hx rfl (hb hby at_258) rfl ?_
    refine XS.iconst X90.here hx rfl (hb hby at_260) ?_
    refine XS.icmpYes X90.here hx rfl (pc0 := 261) (pc' := 282) rfl (hb hby at_261) rfl (flt (by decide : ¬ ((3 : Int32) < (1 : Int32)))).2.2.2 (by decide) (by decide) ?_
    refine XS.iconst X90.here hx rfl (hb hby at_282) ?_
    exact k)
   obtain ⟨fs, hr, hrun, hended, hW, hsame⟩ := X90.leave (v := some (.int 1)) (fun h => by rw [Bd.returns] at h; cases h)
   have hend := ReturnedEndW.of_narrow (o := Outcome.returned (some (.int 1))) ⟨_, rfl⟩ hW hsame
   refine ⟨_, _, pre0 _ (R96 _ ?_), hrun, hended, _, _, rfl, ?_, hend.1, hend.2.1, hend.2.2.1, hend.2.2.2.mono (by decide) (by decide)⟩
   ·
    show own_S p e below T90 (mkF m 283 (fA8 b16 b54 b77 p0 p1 p2 p3 p4 p5 r_10 r_13 r_4 r_7) [(.int 1)]) _
    exact retN X90 hx (t := .boolean) Bd.returns (by simp) (hb hby at_283) hr
   ·
    show Q_rmLaw Z p0 p1 p2 p3 p4 p5 cs sf h0 n0 _ T90.heap _
    rw [p90_0]
    exact ⟨rfl, N90⟩
 ·
  have R97 : own_R p e below T28 (mkF m 58 (fA22 b16 p0 p1 p2 p3 p4 p5 r_10 r_13 r_4 r_7) []) s₁ f0 := by have q := R30; rw [(hp : nn = (2 : Int32))] at q; exact q
  obtain ⟨T98, h98, X98, e98, E98, A98, D98, -, st98⟩ := newO X28 hx hZ hown (hU 5 _ rfl) (hU 6 _ rfl) (hU 7 _ rfl) e28 (g := (mkF m 58 (fA22 b16 p0 p1 p2 p3 p4 p5 r_10 r_13 r_4 r_7) [])) rfl (hb hby at_58) (by decide) (by decide)
  obtain ⟨b98, g98⟩ : ∃ z, z = h28.size := ⟨_, rfl⟩
  rw [← g98] at A98 D98 st98
  have g_b98 : n0 ≤ b98 := Nat.le_trans z28 (Nat.le_of_eq g98.symm)
  have sz_b98 : h0.size ≤ b98 := Nat.le_trans K28.1 (Nat.le_of_eq g98.symm)
  have ne_b16_b98 : b16 ≠ b98 := Nat.ne_of_lt (Nat.lt_of_lt_of_le v28.lt (Nat.le_of_eq g98.symm))
  have f98_S_String_COMPACT_STRINGS := f28_S_String_COMPACT_STRINGS.ext E98
  have f98_S_Preconditions_SIOOBE_FORMATTER := f28_S_Preconditions_SIOOBE_FORMATTER.ext E98
  have f98_A_b16 := v28.ext E98
  have z98 : n0 ≤ h98.size := Nat.le_trans z28 E98.1
  have K98 : Keep h0 h98 [] := K28.ext E98
  have d98_value : Fld Z h98 b98 "java/lang/String" "value" "[B" .null := D98 (Or.inr (hU 23 _ rfl)) (ty := (.array .byte)) (by decide)
  have d98_coder : Fld Z h98 b98 "java/lang/String" "coder" "B" (.int 0) := D98 (Or.inr (hU 24 _ rfl)) (ty := .byte) (by decide)
  have R99 := fun t k => R97 t (st98 t k)
  have R100 : own_R p e below T98 (mkF m 72 (fA22 b16 p0 p1 p2 p3 p4 p5 r_10 r_13 r_4 r_7) [(.int r_13), (.int r_10), (.int r_7), (.int r_4), (.int 2), (.ref b98), (.ref b98)]) s₁ f0 := fun t k => R99 t (by
   refine XS.dup X98.here hx rfl (hb hby at_61) rfl rfl ?_
   refine XS.iload X98.here hx rfl (hb hby at_62) rfl ?_
   refine XS.iload X98.here hx rfl (hb hby at_64) rfl ?_
   refine XS.iload X98.here hx rfl (hb hby at_66) rfl ?_
   refine XS.iload X98.here hx rfl (hb hby at_68) rfl ?_
   refine XS.iload X98.here hx rfl (hb hby at_70) rfl ?_
   exact k)
  obtain ⟨_, _, ⟨T101, L101, k101, n101⟩, -, X101, ⟨Lc101, hQ101, l101, y101, z101⟩, st101⟩ := Jvm.LawKit.callS X98 hx (y := yN6) hown (mvT hZ (hU 8 _ rfl)) (mvT hZ (hU 9 _ rfl)) (mvT hZ (hU 2 _ rfl)) (mvT hZ (hU 10 _ rfl)) (by decide) (backOf (W := 2) (rmMk2 l Z a0 hw [] r_4 r_7 r_10 r_13 h98 n0 z98) hZ (hU 10 _ rfl) (hU 2 _ rfl) (by decide) (by decide)) (g := (mkF m 72 (fA22 b16 p0 p1 p2 p3 p4 p5 r_10 r_13 r_4 r_7) [(.int r_13), (.int r_10), (.int r_7), (.int r_4), (.int 2), (.ref b98), (.ref b98)])) rfl (by rw [hml]; rfl) (argsL := [(.int 2), (.int r_4), (.int r_7), (.int r_10), (.int r_13)]) (rest := [(.ref b98), (.ref b98)]) (lenOf pd_29 rfl) rfl (Nat.le_of_eq rfl) (hb hby at_72) (fun _ _ => ⟨rfl, e98, (by decide : 2 + 1 ≤ _), (by decide : 8 + 2 ≤ _)⟩)
  dsimp only [Pt.U, Pt.locs, Pt.cells, Pt.slots] at X101 l101 y101 z101 st101 hQ101
  subst l101 y101 z101
  obtain ⟨b_101, kb_101, rfl, N101q, p101_0, p101_1, p101_2⟩ := hQ101
  have N101 := Fr.app N28 N101q
  have f101_S_String_COMPACT_STRINGS := own_sta_keep f98_S_String_COMPACT_STRINGS p101_0 ns0
  have f101_S_Preconditions_SIOOBE_FORMATTER := own_sta_keep f98_S_Preconditions_SIOOBE_FORMATTER p101_0 ns0
  have f101_A_b16 := f98_A_b16.keep p101_0 nin0
  have f101_E_b98 := A98.keep p101_0
  have f101_F_value_b98 := d98_value.keep p101_0 nin0
  have f101_F_coder_b98 := d98_coder.keep p101_0 nin0
  have z101 : n0 ≤ T101.heap.size := Nat.le_trans z98 p101_0.1
  have K101 : Keep h0 T101.heap [] := K98.trans p101_0 all0
  have g_b_101 : n0 ≤ b_101 := Nat.le_trans z98 p101_2
  have sz_b_101 : h0.size ≤ b_101 := Nat.le_trans K98.1 p101_2
  have ne_b16_b_101 : b16 ≠ b_101 := Nat.ne_of_lt (Nat.lt_of_lt_of_le f98_A_b16.lt p101_2)
  have ne_b98_b_101 : b98 ≠ b_101 := Nat.ne_of_lt (Nat.lt_of_lt_of_le d98_value.lt p101_2)
  have R102 := fun t k => R100 t (st101 t k)
  obtain ⟨_, _, ⟨T103, L103, k103, n103⟩, -, X103, ⟨Lc103, hQ103, l103, y103, z103⟩, st103⟩ := X101.specialBack hx (y := yN13) rfl hown (mvT hZ (hU 11 _ rfl)) (mvT hZ (hU 12 _ rfl)) (mvT hZ (hU 13 _ rfl)) (by decide) (backOf (W := 1) (rmStr l Z a0 hw [] b98 b_101 .null (.int 0) kb_101 (2 : Int32) [(.int (nar .char r_4)), (.int (nar .char r_7))] [(.int (nar .byte ((nar .char r_4).toInt8.toInt32))), (.int (nar .byte ((nar .char r_7).toInt8.toInt32)))] cs T101.heap n0 z101 f101_E_b98 f101_F_value_b98 f101_F_coder_b98 g_b98 p101_1 ne_b98_b_101 f101_S_String_COMPACT_STRINGS hcs (by decide) (rmComp2 l Z a0 hw [] b_101 kb_101 (nar .char r_4) (nar .char r_7) T101.heap n0 z101 p101_1 (own_h255 p4_1) (own_h255 p7_1))) hZ (hU 13 _ rfl) (hU 7 _ rfl) (by decide) (by decide)) (g := (mkF m 75 (fA22 b16 p0 p1 p2 p3 p4 p5 r_10 r_13 r_4 r_7) [(.ref b_101), (.ref b98), (.ref b98)])) rfl (by rw [hml]; rfl) (Steps.refl _) (a := b98) (argsL := [(.ref b_101)]) (rest := [(.ref b98)]) (lenOf pd_30 rfl) rfl (Nat.le_of_eq rfl) (hb hby at_75) (fun _ _ => ⟨rfl, rfl, (by decide : 3 + 1 ≤ _), (by decide : 10 + 4 ≤ _)⟩)
  dsimp only [Pt.U, Pt.locs, Pt.cells, Pt.slots] at X103 l103 y103 z103 st103 hQ103
  subst l103 y103 z103
  obtain ⟨b2_103, kb2_103, rfl, N103q, p103_0, p103_1, p103_2, p103_3, p103_4⟩ := hQ103
  have N103 := Fr.app N101 N103q
  have f103_S_String_COMPACT_STRINGS := own_sta_keep f101_S_String_COMPACT_STRINGS p103_0 (nsS f101_E_b98.nostat ns0)
  have f103_S_Preconditions_SIOOBE_FORMATTER := own_sta_keep f101_S_Preconditions_SIOOBE_FORMATTER p103_0 (nsS f101_E_b98.nostat ns0)
  have f103_A_b16 := f101_A_b16.keep p103_0 (ninS ne_b16_b98 nin0)
  have f103_E_b98 := f101_E_b98.keep p103_0
  have f103_A_b_101 := p101_1.keep p103_0 (ninS (Ne.symm ne_b98_b_101) nin0)
  have z103 : n0 ≤ T103.heap.size := Nat.le_trans z101 p103_0.1
  have K103 : Keep h0 T103.heap [] := K101.trans p103_0 (allS (Or.inr sz_b98) all0)
  have g_b2_103 : n0 ≤ b2_103 := Nat.le_trans z101 p103_4
  have sz_b2_103 : h0.size ≤ b2_103 := Nat.le_trans K101.1 p103_4
  have ne_b16_b2_103 : b16 ≠ b2_103 := Nat.ne_of_lt (Nat.lt_of_lt_of_le f101_A_b16.lt p103_4)
  have ne_b98_b2_103 : b98 ≠ b2_103 := Nat.ne_of_lt (Nat.lt_of_lt_of_le f101_F_value_b98.lt p103_4)
  have ne_b_101_b2_103 : b_101 ≠ b2_103 := Nat.ne_of_lt (Nat.lt_of_lt_of_le p101_1.lt p103_4)
  have R104 := fun t k => R102 t (st103.trans k)
  have R105 : own_R p e below T103 (mkF m 80 #[iv p0, iv p1, iv p2, iv p3, iv p4, own_l p5, .second, iv 2, iv r_4, iv r_7, iv r_10, iv r_13, rv b16, rv b98, .unset, .unset, .unset, .unset] []) s₁ f0 := fun t k => R104 t (by
   refine XS.astore X103.here hx rfl (hb hby at_78) rfl rfl (l' := #[iv p0, iv p1, iv p2, iv p3, iv p4, own_l p5, .second, iv 2, iv r_4, iv r_7, iv r_10, iv r_13, rv b16, rv b98, .unset, .unset, .unset, .unset]) rfl ?_
   exact k)
  rcases own_K2 (r_7 = (47 : Int32)) (r_4 = (47 : Int32)) with hK1 | ⟨hK1, hK0⟩ | ⟨hK1, hK0⟩
  ·
   have R106 : own_R p e below T103 (mkF m 83 (fA18 b16 b98 p0 p1 p2 p3 p4 p5 r_10 r_13 r_4 r_7) []) s₁ f0 := fun t k => R105 t (by
    refine XS.iconst X103.here hx rfl (hb hby at_80) ?_
    refine XS.istore X103.here hx rfl (hb hby at_81) rfl (l' := (fA18 b16 b98 p0 p1 p2 p3 p4 p5 r_10 r_13 r_4 r_7)) rfl ?_
    exact k)
   have R107 : own_R p e below T103 (mkF m 98 #[iv p0, iv p1, iv p2, iv p3, iv p4, own_l p5, .second, iv 2, iv r_4, iv r_7, iv r_10, iv r_13, rv b16, rv b98, iv (if r_4 = (47 : Int32) then (0 : Int32) else (-1 : Int32)), .unset, .unset, .unset] []) s₁ f0 := by
    intro t k
    refine R106 t ?_
    refine XS.iload X103.here hx rfl (hb hby at_83) rfl ?_
    refine XS.ifNo X103.here hx rfl (hb hby at_85) rfl ((if0 _ _).trans (tlt (by decide : (0 : Int32) < (2 : Int32))).2.2.2) ?_
    refine XS.iload X103.here hx rfl (hb hby at_88) rfl ?_
    refine XS.bipush X103.here hx rfl (hb hby at_90) ?_
    by_cases hm1 : r_4 = (47 : Int32)
    ·
     refine XS.icmpNo X103.here hx rfl (hb hby at_92) rfl (teq hm1).2 ?_
     refine XS.iconst X103.here hx rfl (hb hby at_95) ?_
     refine XS.istore X103.here hx rfl (hb hby at_96) rfl (l' := (fA43 b16 b98 p0 p1 p2 p3 p4 p5 r_10 r_13 r_4 r_7)) rfl ?_
     have hv : (if r_4 = (47 : Int32) then (0 : Int32) else (-1 : Int32)) = (0 : Int32) := by simp [hm1]
     rw [hv] at k
     exact k
    ·
     refine XS.icmpYes X103.here hx rfl (pc0 := 92) (pc' := 98) rfl (hb hby at_92) rfl (feq hm1).2 (by decide) (by decide) ?_
     have hv : (if r_4 = (47 : Int32) then (0 : Int32) else (-1 : Int32)) = (-1 : Int32) := by simp [hm1]
     rw [hv] at k
     exact k
   have R108 : own_R p e below T103 (mkF m 155 (fA40 b16 b98 p0 p1 p2 p3 p4 p5 r_10 r_13 r_4 r_7) []) s₁ f0 := fun t k => R107 t (by
    refine XS.iload X103.here hx rfl (hb hby at_98) rfl ?_
    refine XS.iconst X103.here hx rfl (hb hby at_100) ?_
    refine XS.icmpNo X103.here hx rfl (hb hby at_101) rfl (tlt (by decide : (1 : Int32) < (2 : Int32))).2.2.2 ?_
    refine XS.iload X103.here hx rfl (hb hby at_104) rfl ?_
    refine XS.bipush X103.here hx rfl (hb hby at_106) ?_
    refine XS.icmpNo X103.here hx rfl (hb hby at_108) rfl (teq hK1).2 ?_
    refine XS.iconst X103.here hx rfl (hb hby at_111) ?_
    refine XS.istore X103.here hx rfl (hb hby at_112) rfl (l' := #[iv p0, iv p1, iv p2, iv p3, iv p4, own_l p5, .second, iv 2, iv r_4, iv r_7, iv r_10, iv r_13, rv b16, rv b98, iv 1, .unset, .unset, .unset]) rfl ?_
    refine XS.iload X103.here hx rfl (hb hby at_114) rfl ?_
    refine XS.iconst X103.here hx rfl (hb hby at_116) ?_
    refine XS.icmpYes X103.here hx rfl (pc0 := 117) (pc' := 130) rfl (hb hby at_117) rfl (flt (by decide : ¬ ((2 : Int32) < (2 : Int32)))).2.2.2 (by decide) (by decide) ?_
    refine XS.iload X103.here hx rfl (hb hby at_130) rfl ?_
    show own_S p e below T103 (mkF m 132 #[iv p0, iv p1, iv p2, iv p3, iv p4, own_l p5, .second, iv 2, iv r_4, iv r_7, iv r_10, iv r_13, rv b16, rv b98, iv 1, .unset, .unset, .unset] [(.int 2)]) _
    refine XS.iconst X103.here hx rfl (hb hby at_132) ?_
    refine XS.icmpYes X103.here hx rfl (pc0 := 133) (pc' := 146) rfl (hb hby at_133) rfl (flt (by decide : ¬ ((3 : Int32) < (2 : Int32)))).2.2.2 (by decide) (by decide) ?_
    refine XS.iload X103.here hx rfl (hb hby at_146) rfl ?_
    refine XS.iload X103.here hx rfl (hb hby at_148) rfl ?_
    refine XS.isub X103.here hx rfl (hb hby at_150) rfl ?_
    refine XS.iconst X103.here hx rfl (hb hby at_151) ?_
    refine XS.isub X103.here hx rfl (hb hby at_152) rfl ?_
    refine XS.istore X103.here hx rfl (hb hby at_153) rfl (l' := (fA40 b16 b98 p0 p1 p2 p3 p4 p5 r_10 r_13 r_4 r_7)) rfl ?_
    exact k)
   obtain ⟨T109, h109, X109, e109, E109, A109, D109, -, st109⟩ := newO X103 hx hZ hown (hU 29 _ rfl) (hU 30 _ rfl) (hU 31 _ rfl) rfl (g := (mkF m 155 (fA40 b16 b98 p0 p1 p2 p3 p4 p5 r_10 r_13 r_4 r_7) [])) rfl (hb hby at_155) (by decide) (by decide)
   obtain ⟨b109, g109⟩ : ∃ z, z = T103.heap.size := ⟨_, rfl⟩
   rw [← g109] at A109 D109 st109
   have g_b109 : n0 ≤ b109 := Nat.le_trans z103 (Nat.le_of_eq g109.symm)
   have sz_b109 : h0.size ≤ b109 := Nat.le_trans K103.1 (Nat.le_of_eq g109.symm)
   have ne_b16_b109 : b16 ≠ b109 := Nat.ne_of_lt (Nat.lt_of_lt_of_le f103_A_b16.lt (Nat.le_of_eq g109.symm))
   have ne_b98_b109 : b98 ≠ b109 := Nat.ne_of_lt (Nat.lt_of_lt_of_le f103_E_b98.lt (Nat.le_of_eq g109.symm))
   have ne_b2_103_b109 : b2_103 ≠ b109 := Nat.ne_of_lt (Nat.lt_of_lt_of_le p103_3.lt (Nat.le_of_eq g109.symm))
   have f109_S_String_COMPACT_STRINGS := f103_S_String_COMPACT_STRINGS.ext E109
   have f109_S_Preconditions_SIOOBE_FORMATTER := f103_S_Preconditions_SIOOBE_FORMATTER.ext E109
   have f109_A_b16 := f103_A_b16.ext E109
   have f109_E_b98 := f103_E_b98.ext E109
   have f109_F_value_b98 := p103_1.ext E109
   have f109_F_coder_b98 := p103_2.ext E109
   have f109_A_b2_103 := p103_3.ext E109
   have z109 : n0 ≤ h109.size := Nat.le_trans z103 E109.1
   have K109 : Keep h0 h109 [] := K103.ext E109
   have d109_path : Fld Z h109 b109 sN0 "path" "Ljava/lang/String;" .null := D109 (Or.inr (hU 37 _ rfl)) (ty := (.object "java/lang/String")) (by decide)
   have d109_creationZxid : Fld Z h109 b109 sN0 "creationZxid" "J" (.long (0 : Int64)) := D109 (Or.inr (hU 39 _ rfl)) (ty := .long) (by decide)
   have R110 := fun t k => R108 t (st109 t k)
   have R111 : own_R p e below T109 (mkF m 163 (fA40 b16 b98 p0 p1 p2 p3 p4 p5 r_10 r_13 r_4 r_7) [(.long p5), (.ref b98), (.ref b109), (.ref b109)]) s₁ f0 := fun t k => R110 t (by
    refine XS.dup X109.here hx rfl (hb hby at_158) rfl rfl ?_
    refine XS.aload X109.here hx rfl (hb hby at_159) rfl rfl ?_
    refine XS.lload X109.here hx rfl (hb hby at_161) rfl ?_
    exact k)
   obtain ⟨_, _, ⟨T112, L112, k112, n112⟩, -, X112, ⟨Lc112, hQ112, l112, y112, z112⟩, st112⟩ := X109.specialBack hx (y := yN5) rfl hown (mvT hZ (hU 32 _ rfl)) (mvT hZ (hU 33 _ rfl)) (mvT hZ (hU 34 _ rfl)) (by decide) (backOf (W := 1) (rmQni l Z a0 hw [] b109 b98 p5 .null (.long (0 : Int64)) h109 n0 z109 A109 d109_path d109_creationZxid g_b109) hZ (hU 34 _ rfl) (hU 31 _ rfl) (by decide) (by decide)) (g := (mkF m 163 (fA40 b16 b98 p0 p1 p2 p3 p4 p5 r_10 r_13 r_4 r_7) [(.long p5), (.ref b98), (.ref b109), (.ref b109)])) rfl (by rw [hml]; rfl) (Steps.refl _) (a := b109) (argsL := [(.ref b98), (.long p5)]) (rest := [(.ref b109)]) (lenOf pd_31 rfl) rfl (Nat.le_of_eq rfl) (hb hby at_163) (fun _ _ => ⟨rfl, e109, (by decide : 5 + 0 ≤ _), (by decide : 16 + 0 ≤ _)⟩)
   dsimp only [Pt.U, Pt.locs, Pt.cells, Pt.slots] at X112 l112 y112 z112 st112 hQ112
   subst l112 y112 z112
   obtain ⟨rfl, N112q, p112_0, p112_1⟩ := hQ112
   have N112 := Fr.app N103 N112q
   have f112_S_String_COMPACT_STRINGS := own_sta_keep f109_S_String_COMPACT_STRINGS p112_0 (nsS A109.nostat ns0)
   have f112_S_Preconditions_SIOOBE_FORMATTER := own_sta_keep f109_S_Preconditions_SIOOBE_FORMATTER p112_0 (nsS A109.nostat ns0)
   have f112_A_b16 := f109_A_b16.keep p112_0 (ninS ne_b16_b109 nin0)
   have f112_E_b98 := f109_E_b98.keep p112_0
   have f112_F_value_b98 := f109_F_value_b98.keep p112_0 (ninS ne_b98_b109 nin0)
   have f112_F_coder_b98 := f109_F_coder_b98.keep p112_0 (ninS ne_b98_b109 nin0)
   have f112_A_b2_103 := f109_A_b2_103.keep p112_0 (ninS ne_b2_103_b109 nin0)
   have f112_E_b109 := A109.keep p112_0
   have z112 : n0 ≤ T112.heap.size := Nat.le_trans z109 p112_0.1
   have K112 : Keep h0 T112.heap [] := K109.trans p112_0 (allS (Or.inr sz_b109) all0)
   have R113 := fun t k => R111 t (st112.trans k)
   have R114 : own_R p e below T112 (mkF m 170 #[iv p0, iv p1, iv p2, iv p3, iv p4, own_l p5, .second, iv 2, iv r_4, iv r_7, iv r_10, iv r_13, rv b16, rv b98, iv 1, iv 0, rv b109, .unset] [(.ref b109)]) s₁ f0 := fun t k => R113 t (by
    refine XS.astore X112.here hx rfl (hb hby at_166) rfl rfl (l' := #[iv p0, iv p1, iv p2, iv p3, iv p4, own_l p5, .second, iv 2, iv r_4, iv r_7, iv r_10, iv r_13, rv b16, rv b98, iv 1, iv 0, rv b109, .unset]) rfl ?_
    refine XS.aload X112.here hx rfl (hb hby at_168) rfl rfl ?_
    exact k)
   obtain ⟨cq115, kq115, q115a, q115b, q115c⟩ := isOf hZ rfl f112_E_b109
   obtain ⟨_, _, ⟨T115, L115, k115, n115⟩, -, X115, S115, gq115, ⟨Lc115, hQ115, l115, y115, z115⟩, st115⟩ := X112.virtualBackS hx (y := yN2) (z := yN2) hown (mvT hZ (hU 40 _ rfl)) (mvT hZ (hU 41 _ rfl)) (notFace_of_selects (args := #[]) (mvT hZ (hU 43 _ rfl))) (mvT hZ (hU 43 _ rfl)) (mvT hZ (hU 42 _ rfl)) (by decide) (own_backS (s := s) (vm0 := s.vm) (W := 0) (rmNmE l Z a0 hw [] b109 b98 b2_103 kb2_103 (2 : Int32) [(.int (nar .byte ((nar .char r_4).toInt8.toInt32))), (.int (nar .byte ((nar .char r_7).toInt8.toInt32)))] cs sf (1 : Int32) (own_li2 (nar .byte ((nar .char r_4).toInt8.toInt32)) (nar .byte ((nar .char r_7).toInt8.toInt32))) T112.heap n0 z112 f112_E_b109 p112_1 f112_E_b98 f112_F_coder_b98 f112_F_value_b98 f112_A_b2_103 f112_S_String_COMPACT_STRINGS hcs f112_S_Preconditions_SIOOBE_FORMATTER hsf (by decide) (by decide) (by decide) (rmLli2 l Z a0 hw [] b2_103 kb2_103 (nar .byte ((nar .char r_4).toInt8.toInt32)) (nar .byte ((nar .char r_7).toInt8.toInt32)) T112.heap n0 z112 f112_A_b2_103) (own_lk21 (own_b47 hK1))) hZ (hU 44 _ rfl) (hU 31 _ rfl) (by decide) (by decide) hEL (CHv.keep K112 (fun _ h => nomatch h) hCH)) q115a q115c (g := (mkF m 170 #[iv p0, iv p1, iv p2, iv p3, iv p4, own_l p5, .second, iv 2, iv r_4, iv r_7, iv r_10, iv r_13, rv b16, rv b98, iv 1, iv 0, rv b109, .unset] [(.ref b109)])) rfl (by rw [hml]; rfl) (Steps.refl _) (argsL := []) (rest := []) (lenOf pd_32 rfl) rfl (Nat.le_of_eq rfl) (hb hby at_170) (fun _ _ => ⟨rfl, rfl, (by decide : 5 + 2 ≤ _), (by decide : 16 + 4 ≤ _)⟩)
   dsimp only [Pt.U, Pt.locs, Pt.cells, Pt.slots] at X115 l115 y115 z115 st115 hQ115 S115 gq115
   subst l115 y115 z115
   have hZ : Z.Warmed39 (s.setVm T115.vm).vm := State.Warmed39.trans (t := s) hZ S115.1
   have hown : (s.setVm T115.vm).vm.findClass sN1 = some m.cls := by rw [show (s.setVm T115.vm).vm = T115.vm from rfl, S115.1.alike.findClass]; exact hown
   obtain ⟨r_115, b2_115, kb2_115, rfl, N115q, p115_0, p115_1, p115_2, p115_3, p115_4⟩ := hQ115
   have N115 := Fr.app N112 N115q
   have f115_S_String_COMPACT_STRINGS := own_sta_keep f112_S_String_COMPACT_STRINGS p115_0 ns0
   have f115_S_Preconditions_SIOOBE_FORMATTER := own_sta_keep f112_S_Preconditions_SIOOBE_FORMATTER p115_0 ns0
   have f115_A_b16 := f112_A_b16.keep p115_0 nin0
   have f115_E_b98 := f112_E_b98.keep p115_0
   have f115_F_value_b98 := f112_F_value_b98.keep p115_0 nin0
   have f115_F_coder_b98 := f112_F_coder_b98.keep p115_0 nin0
   have f115_A_b2_103 := f112_A_b2_103.keep p115_0 nin0
   have f115_E_b109 := f112_E_b109.keep p115_0
   have f115_F_path_b109 := p112_1.keep p115_0 nin0
   have z115 : n0 ≤ T115.heap.size := Nat.le_trans z112 p115_0.1
   have K115 : Keep h0 T115.heap [] := K112.trans p115_0 all0
   have R116 := fun t k => R114 t (st115.trans k)
   have R117 : own_R p e below T115 (mkF m 177 (fA16 b109 b16 b98 p0 p1 p2 p3 p4 p5 r_10 r_115 r_13 r_4 r_7) [(.ref r_115)]) s₁ f0 := fun t k => R116 t (by
    refine XS.astore X115.here hx rfl (hb hby at_173) rfl rfl (l' := (fA16 b109 b16 b98 p0 p1 p2 p3 p4 p5 r_10 r_115 r_13 r_4 r_7)) rfl ?_
    refine XS.aload X115.here hx rfl (hb hby at_175) rfl rfl ?_
    exact k)
   obtain ⟨cq118, kq118, q118a, q118b, q118c⟩ := isOf hZ rfl p115_1
   obtain ⟨_, _, ⟨T118, L118, k118, n118⟩, -, X118, ⟨Lc118, hQ118, l118, y118, z118⟩, st118⟩ := X115.virtualBack hx (y := yN0) (z := yN0) hown (mvT hZ (hU 100 _ rfl)) (mvT hZ (hU 51 _ rfl)) (notFace_of_selects (args := #[]) (mvT hZ (hU 53 _ rfl))) (mvT hZ (hU 53 _ rfl)) (mvT hZ (hU 52 _ rfl)) (by decide) (backOf (W := 0) (rmLen l Z a0 hw [] r_115 b2_115 kb2_115 (0 : Int32) [] (.int 0) cs T115.heap n0 z115 p115_1 p115_2 p115_3 p115_4 f115_S_String_COMPACT_STRINGS hcs) hZ (hU 54 _ rfl) (hU 7 _ rfl) (by decide) (by decide)) q118a q118c (g := (mkF m 177 (fA16 b109 b16 b98 p0 p1 p2 p3 p4 p5 r_10 r_115 r_13 r_4 r_7) [(.ref r_115)])) rfl (by rw [hml]; rfl) (Steps.refl _) (argsL := []) (rest := []) (lenOf pd_20 rfl) rfl (Nat.le_of_eq rfl) (hb hby at_177) (fun _ _ => ⟨rfl, rfl, (by decide : 7 + 0 ≤ _), (by decide : 20 + 0 ≤ _)⟩)
   dsimp only [Pt.U, Pt.locs, Pt.cells, Pt.slots] at X118 l118 y118 z118 st118 hQ118
   subst l118 y118 z118
   obtain ⟨rfl, N118q, p118_0⟩ := hQ118
   have N118 := Fr.app N115 N118q
   have R119 := fun t k => R117 t (st118.trans k)
   have R120 : own_R p e below T118 (mkF m 180 (fA16 b109 b16 b98 p0 p1 p2 p3 p4 p5 r_10 r_115 r_13 r_4 r_7) [(.int 0)]) s₁ f0 := by have q := R119; rw [((own_sh (0 : Int32)) : ((0 : Int32) >>> ((0 : Int32) &&& 31)) = (0 : Int32))] at q; exact q
   have R121 : own_R p e below T118 (mkF m 283 (fA16 b109 b16 b98 p0 p1 p2 p3 p4 p5 r_10 r_115 r_13 r_4 r_7) [(.int 1)]) s₁ f0 := fun t k => R120 t (by
    refine XS.iload X118.here hx rfl (hb hby at_180) rfl ?_
    refine XS.icmpYes X118.here hx rfl (pc0 := 182) (pc' := 187) rfl (hb hby at_182) rfl (teq (by decide : (0 : Int32) = (0 : Int32))).1 (by decide) (by decide) ?_
    refine XS.iload X118.here hx rfl (hb hby at_187) rfl ?_
    refine XS.ifYes X118.here hx rfl (pc0 := 189) (pc' := 210) rfl (hb hby at_189) rfl ((if0 _ _).trans (flt (by decide : ¬ ((0 : Int32) < (0 : Int32)))).2.2.2) (by decide) (by decide) ?_
    refine XS.iload X118.here hx rfl (hb hby at_210) rfl ?_
    refine XS.iconst X118.here hx rfl (hb hby at_212) ?_
    refine XS.icmpYes X118.here hx rfl (pc0 := 213) (pc' := 234) rfl (hb hby at_213) rfl (flt (by decide : ¬ ((1 : Int32) < (0 : Int32)))).2.2.2 (by decide) (by decide) ?_
    refine XS.iload X118.here hx rfl (hb hby at_234) rfl ?_
    refine XS.iconst X118.here hx rfl (hb hby at_236) ?_
    refine XS.icmpYes X118.here hx rfl (pc0 := 237) (pc' := 258) rfl (hb hby at_237) rfl (flt (by decide : ¬ ((2 : Int32) < (0 : Int32)))).2.2.2 (by decide) (by decide) ?_
    refine XS.iload X118.here hx rfl (hb hby at_258) rfl ?_
    refine XS.iconst X118.here hx rfl (hb hby at_260) ?_
    show own_S p e below T118 (mkF m 261 (fA16 b109 b16 b98 p0 p1 p2 p3 p4 p5 r_10 r_115 r_13 r_4 r_7) [(.int 3), (.int 0)]) _
    refine XS.icmpYes X118.here hx rfl (pc0 := 261) (pc' := 282) rfl (hb hby at_261) rfl (flt (by decide : ¬ ((3 : Int32) < (0 : Int32)))).2.2.2 (by decide) (by decide) ?_
    refine XS.iconst X118.here hx rfl (hb hby at_282) ?_
    exact k)
   obtain ⟨fs, hr, hrun, hended, hend⟩ := X118.leaveW S115 (by rw [p118_0]; exact (Nat.le_refl _)) (v := some (.int 1)) (fun h => by rw [Bd.returns] at h; cases h)
   refine ⟨_, _, pre0 _ (R121 _ ?_), hrun, hended, _, _, rfl, ?_, hend.1, hend.2.1, hend.2.2.1, hend.2.2.2.mono (by decide) (by decide)⟩
   ·
    show own_S p e below T118 (mkF m 283 (fA16 b109 b16 b98 p0 p1 p2 p3 p4 p5 r_10 r_115 r_13 r_4 r_7) [(.int 1)]) _
    exact retN X118 hx (t := .boolean) Bd.returns (by simp) (hb hby at_283) hr
   ·
    show Q_rmLaw Z p0 p1 p2 p3 p4 p5 cs sf h0 n0 _ T118.heap _
    rw [p118_0]
    exact ⟨rfl, N118⟩
  ·
   have R122 : own_R p e below T103 (mkF m 155 (fA41 b16 b98 p0 p1 p2 p3 p4 p5 r_10 r_13 r_4 r_7) []) s₁ f0 := fun t k => R105 t (by
    refine XS.iconst X103.here hx rfl (hb hby at_80) ?_
    refine XS.istore X103.here hx rfl (hb hby at_81) rfl (l' := (fA18 b16 b98 p0 p1 p2 p3 p4 p5 r_10 r_13 r_4 r_7)) rfl ?_
    refine XS.iload X103.here hx rfl (hb hby at_83) rfl ?_
    refine XS.ifNo X103.here hx rfl (hb hby at_85) rfl ((if0 _ _).trans (tlt (by decide : (0 : Int32) < (2 : Int32))).2.2.2) ?_
    refine XS.iload X103.here hx rfl (hb hby at_88) rfl ?_
    refine XS.bipush X103.here hx rfl (hb hby at_90) ?_
    refine XS.icmpNo X103.here hx rfl (hb hby at_92) rfl (teq hK0).2 ?_
    refine XS.iconst X103.here hx rfl (hb hby at_95) ?_
    refine XS.istore X103.here hx rfl (hb hby at_96) rfl (l' := (fA43 b16 b98 p0 p1 p2 p3 p4 p5 r_10 r_13 r_4 r_7)) rfl ?_
    refine XS.iload X103.here hx rfl (hb hby at_98) rfl ?_
    refine XS.iconst X103.here hx rfl (hb hby at_100) ?_
    refine XS.icmpNo X103.here hx rfl (hb hby at_101) rfl (tlt (by decide : (1 : Int32) < (2 : Int32))).2.2.2 ?_
    show own_S p e below T103 (mkF m 104 (fA43 b16 b98 p0 p1 p2 p3 p4 p5 r_10 r_13 r_4 r_7) []) _
    refine XS.iload X103.here hx rfl (hb hby at_104) rfl ?_
    refine XS.bipush X103.here hx rfl (hb hby at_106) ?_
    refine XS.icmpYes X103.here hx rfl (pc0 := 108) (pc' := 114) rfl (hb hby at_108) rfl (feq hK1).2 (by decide) (by decide) ?_
    refine XS.iload X103.here hx rfl (hb hby at_114) rfl ?_
    refine XS.iconst X103.here hx rfl (hb hby at_116) ?_
    refine XS.icmpYes X103.here hx rfl (pc0 := 117) (pc' := 130) rfl (hb hby at_117) rfl (flt (by decide : ¬ ((2 : Int32) < (2 : Int32)))).2.2.2 (by decide) (by decide) ?_
    refine XS.iload X103.here hx rfl (hb hby at_130) rfl ?_
    refine XS.iconst X103.here hx rfl (hb hby at_132) ?_
    refine XS.icmpYes X103.here hx rfl (pc0 := 133) (pc' := 146) rfl (hb hby at_133) rfl (flt (by decide : ¬ ((3 : Int32) < (2 : Int32)))).2.2.2 (by decide) (by decide) ?_
    refine XS.iload X103.here hx rfl (hb hby at_146) rfl ?_
    refine XS.iload X103.here hx rfl (hb hby at_148) rfl ?_
    refine XS.isub X103.here hx rfl (hb hby at_150) rfl ?_
    show own_S p e below T103 (mkF m 151 (fA43 b16 b98 p0 p1 p2 p3 p4 p5 r_10 r_13 r_4 r_7) [(.int 2)]) _
    refine XS.iconst X103.here hx rfl (hb hby at_151) ?_
    refine XS.isub X103.here hx rfl (hb hby at_152) rfl ?_
    refine XS.istore X103.here hx rfl (hb hby at_153) rfl (l' := (fA41 b16 b98 p0 p1 p2 p3 p4 p5 r_10 r_13 r_4 r_7)) rfl ?_
    exact k)
   obtain ⟨T123, h123, X123, e123, E123, A123, D123, -, st123⟩ := newO X103 hx hZ hown (hU 29 _ rfl) (hU 30 _ rfl) (hU 31 _ rfl) rfl (g := (mkF m 155 (fA41 b16 b98 p0 p1 p2 p3 p4 p5 r_10 r_13 r_4 r_7) [])) rfl (hb hby at_155) (by decide) (by decide)
   obtain ⟨b123, g123⟩ : ∃ z, z = T103.heap.size := ⟨_, rfl⟩
   rw [← g123] at A123 D123 st123
   have g_b123 : n0 ≤ b123 := Nat.le_trans z103 (Nat.le_of_eq g123.symm)
   have sz_b123 : h0.size ≤ b123 := Nat.le_trans K103.1 (Nat.le_of_eq g123.symm)
   have ne_b16_b123 : b16 ≠ b123 := Nat.ne_of_lt (Nat.lt_of_lt_of_le f103_A_b16.lt (Nat.le_of_eq g123.symm))
   have ne_b98_b123 : b98 ≠ b123 := Nat.ne_of_lt (Nat.lt_of_lt_of_le f103_E_b98.lt (Nat.le_of_eq g123.symm))
   have ne_b2_103_b123 : b2_103 ≠ b123 := Nat.ne_of_lt (Nat.lt_of_lt_of_le p103_3.lt (Nat.le_of_eq g123.symm))
   have f123_S_String_COMPACT_STRINGS := f103_S_String_COMPACT_STRINGS.ext E123
   have f123_S_Preconditions_SIOOBE_FORMATTER := f103_S_Preconditions_SIOOBE_FORMATTER.ext E123
   have f123_A_b16 := f103_A_b16.ext E123
   have f123_E_b98 := f103_E_b98.ext E123
   have f123_F_value_b98 := p103_1.ext E123
   have f123_F_coder_b98 := p103_2.ext E123
   have f123_A_b2_103 := p103_3.ext E123
   have z123 : n0 ≤ h123.size := Nat.le_trans z103 E123.1
   have K123 : Keep h0 h123 [] := K103.ext E123
   have d123_path : Fld Z h123 b123 sN0 "path" "Ljava/lang/String;" .null := D123 (Or.inr (hU 37 _ rfl)) (ty := (.object "java/lang/String")) (by decide)
   have d123_creationZxid : Fld Z h123 b123 sN0 "creationZxid" "J" (.long (0 : Int64)) := D123 (Or.inr (hU 39 _ rfl)) (ty := .long) (by decide)
   have R124 := fun t k => R122 t (st123 t k)
   have R125 : own_R p e below T123 (mkF m 163 (fA41 b16 b98 p0 p1 p2 p3 p4 p5 r_10 r_13 r_4 r_7) [(.long p5), (.ref b98), (.ref b123), (.ref b123)]) s₁ f0 := fun t k => R124 t (by
    refine XS.dup X123.here hx rfl (hb hby at_158) rfl rfl ?_
    refine XS.aload X123.here hx rfl (hb hby at_159) rfl rfl ?_
    refine XS.lload X123.here hx rfl (hb hby at_161) rfl ?_
    exact k)
   obtain ⟨_, _, ⟨T126, L126, k126, n126⟩, -, X126, ⟨Lc126, hQ126, l126, y126, z126⟩, st126⟩ := X123.specialBack hx (y := yN5) rfl hown (mvT hZ (hU 32 _ rfl)) (mvT hZ (hU 33 _ rfl)) (mvT hZ (hU 34 _ rfl)) (by decide) (backOf (W := 1) (rmQni l Z a0 hw [] b123 b98 p5 .null (.long (0 : Int64)) h123 n0 z123 A123 d123_path d123_creationZxid g_b123) hZ (hU 34 _ rfl) (hU 31 _ rfl) (by decide) (by decide)) (g := (mkF m 163 (fA41 b16 b98 p0 p1 p2 p3 p4 p5 r_10 r_13 r_4 r_7) [(.long p5), (.ref b98), (.ref b123), (.ref b123)])) rfl (by rw [hml]; rfl) (Steps.refl _) (a := b123) (argsL := [(.ref b98), (.long p5)]) (rest := [(.ref b123)]) (lenOf pd_31 rfl) rfl (Nat.le_of_eq rfl) (hb hby at_163) (fun _ _ => ⟨rfl, e123, (by decide : 5 + 0 ≤ _), (by decide : 16 + 0 ≤ _)⟩)
   dsimp only [Pt.U, Pt.locs, Pt.cells, Pt.slots] at X126 l126 y126 z126 st126 hQ126
   subst l126 y126 z126
   obtain ⟨rfl, N126q, p126_0, p126_1⟩ := hQ126
   have N126 := Fr.app N103 N126q
   have f126_S_String_COMPACT_STRINGS := own_sta_keep f123_S_String_COMPACT_STRINGS p126_0 (nsS A123.nostat ns0)
   have f126_S_Preconditions_SIOOBE_FORMATTER := own_sta_keep f123_S_Preconditions_SIOOBE_FORMATTER p126_0 (nsS A123.nostat ns0)
   have f126_A_b16 := f123_A_b16.keep p126_0 (ninS ne_b16_b123 nin0)
   have f126_E_b98 := f123_E_b98.keep p126_0
   have f126_F_value_b98 := f123_F_value_b98.keep p126_0 (ninS ne_b98_b123 nin0)
   have f126_F_coder_b98 := f123_F_coder_b98.keep p126_0 (ninS ne_b98_b123 nin0)
   have f126_A_b2_103 := f123_A_b2_103.keep p126_0 (ninS ne_b2_103_b123 nin0)
   have f126_E_b123 := A123.keep p126_0
   have z126 : n0 ≤ T126.heap.size := Nat.le_trans z123 p126_0.1
   have K126 : Keep h0 T126.heap [] := K123.trans p126_0 (allS (Or.inr sz_b123) all0)
   have R127 := fun t k => R125 t (st126.trans k)
   have R128 : own_R p e below T126 (mkF m 170 #[iv p0, iv p1, iv p2, iv p3, iv p4, own_l p5, .second, iv 2, iv r_4, iv r_7, iv r_10, iv r_13, rv b16, rv b98, iv 0, iv 1, rv b123, .unset] [(.ref b123)]) s₁ f0 := fun t k => R127 t (by
    refine XS.astore X126.here hx rfl (hb hby at_166) rfl rfl (l' := #[iv p0, iv p1, iv p2, iv p3, iv p4, own_l p5, .second, iv 2, iv r_4, iv r_7, iv r_10, iv r_13, rv b16, rv b98, iv 0, iv 1, rv b123, .unset]) rfl ?_
    refine XS.aload X126.here hx rfl (hb hby at_168) rfl rfl ?_
    exact k)
   obtain ⟨cq129, kq129, q129a, q129b, q129c⟩ := isOf hZ rfl f126_E_b123
   obtain ⟨_, _, ⟨T129, L129, k129, n129⟩, -, X129, ⟨Lc129, hQ129, l129, y129, z129⟩, st129⟩ := X126.virtualBack hx (y := yN2) (z := yN2) hown (mvT hZ (hU 40 _ rfl)) (mvT hZ (hU 41 _ rfl)) (notFace_of_selects (args := #[]) (mvT hZ (hU 43 _ rfl))) (mvT hZ (hU 43 _ rfl)) (mvT hZ (hU 42 _ rfl)) (by decide) (backOf (W := 0) (rmNmM l Z a0 hw [] b123 b98 b2_103 kb2_103 (2 : Int32) [(.int (nar .byte ((nar .char r_4).toInt8.toInt32))), (.int (nar .byte ((nar .char r_7).toInt8.toInt32)))] cs sf (1 : Int32) (1 : Int32) [(.int (nar .byte ((nar .char r_7).toInt8.toInt32)))] (1 : Int32) (own_li2 (nar .byte ((nar .char r_4).toInt8.toInt32)) (nar .byte ((nar .char r_7).toInt8.toInt32))) T126.heap n0 z126 f126_E_b123 p126_1 f126_E_b98 f126_F_coder_b98 f126_F_value_b98 f126_A_b2_103 f126_S_String_COMPACT_STRINGS hcs f126_S_Preconditions_SIOOBE_FORMATTER hsf (by decide) (by decide) (by decide) (by decide) (by decide) (by decide) (fun h1 z1 A1 => rmCrb21 l Z a0 hw [] b2_103 kb2_103 (nar .byte ((nar .char r_4).toInt8.toInt32)) (nar .byte ((nar .char r_7).toInt8.toInt32)) h1 n0 z1 A1) (by decide) (rmLli2 l Z a0 hw [] b2_103 kb2_103 (nar .byte ((nar .char r_4).toInt8.toInt32)) (nar .byte ((nar .char r_7).toInt8.toInt32)) T126.heap n0 z126 f126_A_b2_103) (own_lk20 (own_n47 p7_1 hK1) (own_b47 hK0))) hZ (hU 44 _ rfl) (hU 31 _ rfl) (by decide) (by decide)) q129a q129c (g := (mkF m 170 #[iv p0, iv p1, iv p2, iv p3, iv p4, own_l p5, .second, iv 2, iv r_4, iv r_7, iv r_10, iv r_13, rv b16, rv b98, iv 0, iv 1, rv b123, .unset] [(.ref b123)])) rfl (by rw [hml]; rfl) (Steps.refl _) (argsL := []) (rest := []) (lenOf pd_32 rfl) rfl (Nat.le_of_eq rfl) (hb hby at_170) (fun _ _ => ⟨rfl, rfl, (by decide : 5 + 2 ≤ _), (by decide : 16 + 7 ≤ _)⟩)
   dsimp only [Pt.U, Pt.locs, Pt.cells, Pt.slots] at X129 l129 y129 z129 st129 hQ129
   subst l129 y129 z129
   obtain ⟨r_129, b2_129, kb2_129, rfl, N129q, p129_0, p129_1, p129_2, p129_3, p129_4, p129_5, p129_6⟩ := hQ129
   have N129 := Fr.app N126 N129q
   have f129_S_String_COMPACT_STRINGS := own_sta_keep f126_S_String_COMPACT_STRINGS p129_0 ns0
   have f129_S_Preconditions_SIOOBE_FORMATTER := own_sta_keep f126_S_Preconditions_SIOOBE_FORMATTER p129_0 ns0
   have f129_A_b16 := f126_A_b16.keep p129_0 nin0
   have f129_E_b98 := f126_E_b98.keep p129_0
   have f129_F_value_b98 := f126_F_value_b98.keep p129_0 nin0
   have f129_F_coder_b98 := f126_F_coder_b98.keep p129_0 nin0
   have f129_A_b2_103 := f126_A_b2_103.keep p129_0 nin0
   have f129_E_b123 := f126_E_b123.keep p129_0
   have f129_F_path_b123 := p126_1.keep p129_0 nin0
   have z129 : n0 ≤ T129.heap.size := Nat.le_trans z126 p129_0.1
   have K129 : Keep h0 T129.heap [] := K126.trans p129_0 all0
   have g_r_129 : n0 ≤ r_129 := Nat.le_trans z126 p129_5
   have sz_r_129 : h0.size ≤ r_129 := Nat.le_trans K126.1 p129_5
   have ne_b16_r_129 : b16 ≠ r_129 := Nat.ne_of_lt (Nat.lt_of_lt_of_le f126_A_b16.lt p129_5)
   have ne_b98_r_129 : b98 ≠ r_129 := Nat.ne_of_lt (Nat.lt_of_lt_of_le f126_F_value_b98.lt p129_5)
   have ne_b2_103_r_129 : b2_103 ≠ r_129 := Nat.ne_of_lt (Nat.lt_of_lt_of_le f126_A_b2_103.lt p129_5)
   have ne_b123_r_129 : b123 ≠ r_129 := Nat.ne_of_lt (Nat.lt_of_lt_of_le p126_1.lt p129_5)
   have g_b2_129 : n0 ≤ b2_129 := Nat.le_trans z126 p129_6
   have sz_b2_129 : h0.size ≤ b2_129 := Nat.le_trans K126.1 p129_6
   have ne_b16_b2_129 : b16 ≠ b2_129 := Nat.ne_of_lt (Nat.lt_of_lt_of_le f126_A_b16.lt p129_6)
   have ne_b98_b2_129 : b98 ≠ b2_129 := Nat.ne_of_lt (Nat.lt_of_lt_of_le f126_F_value_b98.lt p129_6)
   have ne_b2_103_b2_129 : b2_103 ≠ b2_129 := Nat.ne_of_lt (Nat.lt_of_lt_of_le f126_A_b2_103.lt p129_6)
   have ne_b123_b2_129 : b123 ≠ b2_129 := Nat.ne_of_lt (Nat.lt_of_lt_of_le p126_1.lt p129_6)
   have R130 := fun t k => R128 t (st129.trans k)
   have R131 : own_R p e below T129 (mkF m 177 (fA9 b123 b16 b98 p0 p1 p2 p3 p4 p5 r_10 r_129 r_13 r_4 r_7) [(.ref r_129)]) s₁ f0 := fun t k => R130 t (by
    refine XS.astore X129.here hx rfl (hb hby at_173) rfl rfl (l' := (fA9 b123 b16 b98 p0 p1 p2 p3 p4 p5 r_10 r_129 r_13 r_4 r_7)) rfl ?_
    refine XS.aload X129.here hx rfl (hb hby at_175) rfl rfl ?_
    exact k)
   obtain ⟨cq132, kq132, q132a, q132b, q132c⟩ := isOf hZ rfl p129_1
   obtain ⟨_, _, ⟨T132, L132, k132, n132⟩, -, X132, ⟨Lc132, hQ132, l132, y132, z132⟩, st132⟩ := X129.virtualBack hx (y := yN0) (z := yN0) hown (mvT hZ (hU 100 _ rfl)) (mvT hZ (hU 51 _ rfl)) (notFace_of_selects (args := #[]) (mvT hZ (hU 53 _ rfl))) (mvT hZ (hU 53 _ rfl)) (mvT hZ (hU 52 _ rfl)) (by decide) (backOf (W := 0) (rmLen l Z a0 hw [] r_129 b2_129 kb2_129 (1 : Int32) [(.int (nar .byte ((nar .char r_7).toInt8.toInt32)))] (.int 0) cs T129.heap n0 z129 p129_1 p129_2 p129_3 p129_4 f129_S_String_COMPACT_STRINGS hcs) hZ (hU 54 _ rfl) (hU 7 _ rfl) (by decide) (by decide)) q132a q132c (g := (mkF m 177 (fA9 b123 b16 b98 p0 p1 p2 p3 p4 p5 r_10 r_129 r_13 r_4 r_7) [(.ref r_129)])) rfl (by rw [hml]; rfl) (Steps.refl _) (argsL := []) (rest := []) (lenOf pd_20 rfl) rfl (Nat.le_of_eq rfl) (hb hby at_177) (fun _ _ => ⟨rfl, rfl, (by decide : 7 + 0 ≤ _), (by decide : 23 + 0 ≤ _)⟩)
   dsimp only [Pt.U, Pt.locs, Pt.cells, Pt.slots] at X132 l132 y132 z132 st132 hQ132
   subst l132 y132 z132
   obtain ⟨rfl, N132q, p132_0⟩ := hQ132
   have N132 := Fr.app N129 N132q
   have R133 := fun t k => R131 t (st132.trans k)
   have R134 : own_R p e below T132 (mkF m 180 (fA9 b123 b16 b98 p0 p1 p2 p3 p4 p5 r_10 r_129 r_13 r_4 r_7) [(.int 1)]) s₁ f0 := by have q := R133; rw [((own_sh (1 : Int32)) : ((1 : Int32) >>> ((0 : Int32) &&& 31)) = (1 : Int32))] at q; exact q
   have R135 : own_R p e below T132 (mkF m 195 (fA9 b123 b16 b98 p0 p1 p2 p3 p4 p5 r_10 r_129 r_13 r_4 r_7) [(.int 0), (.ref r_129)]) s₁ f0 := fun t k => R134 t (by
    refine XS.iload X132.here hx rfl (hb hby at_180) rfl ?_
    refine XS.icmpYes X132.here hx rfl (pc0 := 182) (pc' := 187) rfl (hb hby at_182) rfl (teq (by decide : (1 : Int32) = (1 : Int32))).1 (by decide) (by decide) ?_
    refine XS.iload X132.here hx rfl (hb hby at_187) rfl ?_
    refine XS.ifNo X132.here hx rfl (hb hby at_189) rfl ((if0 _ _).trans (tlt (by decide : (0 : Int32) < (1 : Int32))).2.2.2) ?_
    refine XS.aload X132.here hx rfl (hb hby at_192) rfl rfl ?_
    refine XS.iconst X132.here hx rfl (hb hby at_194) ?_
    exact k)
   obtain ⟨cq136, kq136, q136a, q136b, q136c⟩ := isOf hZ p132_0 p129_1
   obtain ⟨_, _, ⟨T136, L136, k136, n136⟩, -, X136, ⟨Lc136, hQ136, l136, y136, z136⟩, st136⟩ := X132.virtualBack hx (y := yN1) (z := yN1) hown (mvT hZ (hU 111 _ rfl)) (mvT hZ (hU 112 _ rfl)) (notFace_of_selects (args := #[]) (mvT hZ (hU 114 _ rfl))) (mvT hZ (hU 114 _ rfl)) (mvT hZ (hU 113 _ rfl)) (by decide) (backOf (W := 0) (rmCa l Z a0 hw [] r_129 (0 : Int32) b2_129 kb2_129 (1 : Int32) [(.int (nar .byte ((nar .char r_7).toInt8.toInt32)))] (.int 0) (nar .byte ((nar .char r_7).toInt8.toInt32)) cs sf T129.heap n0 z129 p129_1 p129_2 p129_3 p129_4 f129_S_String_COMPACT_STRINGS hcs f129_S_Preconditions_SIOOBE_FORMATTER hsf (by decide) (by decide) rfl) hZ (hU 115 _ rfl) (hU 7 _ rfl) (by decide) (by decide)) q136a q136c (g := (mkF m 195 (fA9 b123 b16 b98 p0 p1 p2 p3 p4 p5 r_10 r_129 r_13 r_4 r_7) [(.int 0), (.ref r_129)])) rfl (by rw [hml]; rfl) (Steps.refl _) (argsL := [(.int 0)]) (rest := []) (lenOf pd_28 rfl) rfl (Nat.le_of_eq rfl) (hb hby at_195) (fun _ _ => ⟨rfl, p132_0, (by decide : 7 + 0 ≤ _), (by decide : 23 + 0 ≤ _)⟩)
   dsimp only [Pt.U, Pt.locs, Pt.cells, Pt.slots] at X136 l136 y136 z136 st136 hQ136
   subst l136 y136 z136
   obtain ⟨rfl, N136q, p136_0⟩ := hQ136
   have N136 := Fr.app N132 N136q
   have R137 := fun t k => R135 t (st136.trans k)
   have R138 : own_R p e below T136 (mkF m 198 (fA9 b123 b16 b98 p0 p1 p2 p3 p4 p5 r_10 r_129 r_13 r_4 r_7) [(.int (nar .char r_7))]) s₁ f0 := by have q := R137; rw [((own_chb p7_1) : (own_ch (nar .byte ((nar .char r_7).toInt8.toInt32))) = (nar .char r_7))] at q; exact q
   have R139 : own_R p e below T136 (mkF m 204 (fA9 b123 b16 b98 p0 p1 p2 p3 p4 p5 r_10 r_129 r_13 r_4 r_7) [(.int 1), (.ref b16), (.int (nar .char r_7))]) s₁ f0 := fun t k => R138 t (by
    refine XS.aload X136.here hx rfl (hb hby at_198) rfl rfl ?_
    refine XS.iload X136.here hx rfl (hb hby at_200) rfl ?_
    refine XS.iconst X136.here hx rfl (hb hby at_202) ?_
    refine XS.iadd X136.here hx rfl (hb hby at_203) rfl ?_
    exact k)
   obtain ⟨cl140, Ar140, q140, S140, n140_, H140, G140⟩ := id f129_A_b16
   have hin140 : ¬ ((1 : Int32) < 0 ∨ cl140.slots.size ≤ ((1 : Int32)).toNatClampNeg) := inb_of S140 ⟨by decide, by decide⟩
   have hat140 : cl140.slots[((1 : Int32)).toNatClampNeg]? = some (.int (nar .char r_7)) := Has.at H140 hin140 rfl
   have R141 : own_R p e below T136 (mkF m 205 (fA9 b123 b16 b98 p0 p1 p2 p3 p4 p5 r_10 r_129 r_13 r_4 r_7) [(.int (nar .char r_7)), (.int (nar .char r_7))]) s₁ f0 := fun t k => R139 t (X136.caload hx (j := (1 : Int32)) (v := (.int (nar .char r_7))) (by rw [p136_0]; exact Ar140.1) (State.isArrayOf_alike hZ.alike Ar140.2.1) Ar140.2.2 hin140 hat140 (g := (mkF m 204 (fA9 b123 b16 b98 p0 p1 p2 p3 p4 p5 r_10 r_129 r_13 r_4 r_7) [(.int 1), (.ref b16), (.int (nar .char r_7))])) rfl rfl (hb hby at_204) _ k)
   have R142 : own_R p e below T136 (mkF m 283 (fA9 b123 b16 b98 p0 p1 p2 p3 p4 p5 r_10 r_129 r_13 r_4 r_7) [(.int 1)]) s₁ f0 := fun t k => R141 t (by
    refine XS.icmpYes X136.here hx rfl (pc0 := 205) (pc' := 210) rfl (hb hby at_205) rfl (teq rfl).1 (by decide) (by decide) ?_
    refine XS.iload X136.here hx rfl (hb hby at_210) rfl ?_
    refine XS.iconst X136.here hx rfl (hb hby at_212) ?_
    refine XS.icmpYes X136.here hx rfl (pc0 := 213) (pc' := 234) rfl (hb hby at_213) rfl (flt (by decide : ¬ ((1 : Int32) < (1 : Int32)))).2.2.2 (by decide) (by decide) ?_
    refine XS.iload X136.here hx rfl (hb hby at_234) rfl ?_
    refine XS.iconst X136.here hx rfl (hb hby at_236) ?_
    refine XS.icmpYes X136.here hx rfl (pc0 := 237) (pc' := 258) rfl (hb hby at_237) rfl (flt (by decide : ¬ ((2 : Int32) < (1 : Int32)))).2.2.2 (by decide) (by decide) ?_
    refine XS.iload X136.here hx rfl (hb hby at_258) rfl ?_
    refine XS.iconst X136.here hx rfl (hb hby at_260) ?_
    refine XS.icmpYes X136.here hx rfl (pc0 := 261) (pc' := 282) rfl (hb hby at_261) rfl (flt (by decide : ¬ ((3 : Int32) < (1 : Int32)))).2.2.2 (by decide) (by decide) ?_
    refine XS.iconst X136.here hx rfl (hb hby at_282) ?_
    exact k)
   obtain ⟨fs, hr, hrun, hended, hW, hsame⟩ := X136.leave (v := some (.int 1)) (fun h => by rw [Bd.returns] at h; cases h)
   have hend := ReturnedEndW.of_narrow (o := Outcome.returned (some (.int 1))) ⟨_, rfl⟩ hW hsame
   refine ⟨_, _, pre0 _ (R142 _ ?_), hrun, hended, _, _, rfl, ?_, hend.1, hend.2.1, hend.2.2.1, hend.2.2.2.mono (by decide) (by decide)⟩
   ·
    show own_S p e below T136 (mkF m 283 (fA9 b123 b16 b98 p0 p1 p2 p3 p4 p5 r_10 r_129 r_13 r_4 r_7) [(.int 1)]) _
    exact retN X136 hx (t := .boolean) Bd.returns (by simp) (hb hby at_283) hr
   ·
    show Q_rmLaw Z p0 p1 p2 p3 p4 p5 cs sf h0 n0 _ T136.heap _
    rw [p136_0]
    exact ⟨rfl, N136⟩
  ·
   have R143 : own_R p e below T103 (mkF m 155 (fA29 b16 b98 p0 p1 p2 p3 p4 p5 r_10 r_13 r_4 r_7) []) s₁ f0 := fun t k => R105 t (by
    refine XS.iconst X103.here hx rfl (hb hby at_80) ?_
    refine XS.istore X103.here hx rfl (hb hby at_81) rfl (l' := (fA18 b16 b98 p0 p1 p2 p3 p4 p5 r_10 r_13 r_4 r_7)) rfl ?_
    refine XS.iload X103.here hx rfl (hb hby at_83) rfl ?_
    refine XS.ifNo X103.here hx rfl (hb hby at_85) rfl ((if0 _ _).trans (tlt (by decide : (0 : Int32) < (2 : Int32))).2.2.2) ?_
    refine XS.iload X103.here hx rfl (hb hby at_88) rfl ?_
    refine XS.bipush X103.here hx rfl (hb hby at_90) ?_
    refine XS.icmpYes X103.here hx rfl (pc0 := 92) (pc' := 98) rfl (hb hby at_92) rfl (feq hK0).2 (by decide) (by decide) ?_
    refine XS.iload X103.here hx rfl (hb hby at_98) rfl ?_
    refine XS.iconst X103.here hx rfl (hb hby at_100) ?_
    refine XS.icmpNo X103.here hx rfl (hb hby at_101) rfl (tlt (by decide : (1 : Int32) < (2 : Int32))).2.2.2 ?_
    refine XS.iload X103.here hx rfl (hb hby at_104) rfl ?_
    refine XS.bipush X103.here hx rfl (hb hby at_106) ?_
    show own_S p e below T103 (mkF m 108 (fA18 b16 b98 p0 p1 p2 p3 p4 p5 r_10 r_13 r_4 r_7) [(.int 47), (.int r_7)]) _
    refine XS.icmpYes X103.here hx rfl (pc0 := 108) (pc' := 114) rfl (hb hby at_108) rfl (feq hK1).2 (by decide) (by decide) ?_
    refine XS.iload X103.here hx rfl (hb hby at_114) rfl ?_
    refine XS.iconst X103.here hx rfl (hb hby at_116) ?_
    refine XS.icmpYes X103.here hx rfl (pc0 := 117) (pc' := 130) rfl (hb hby at_117) rfl (flt (by decide : ¬ ((2 : Int32) < (2 : Int32)))).2.2.2 (by decide) (by decide) ?_
    refine XS.iload X103.here hx rfl (hb hby at_130) rfl ?_
    refine XS.iconst X103.here hx rfl (hb hby at_132) ?_
    refine XS.icmpYes X103.here hx rfl (pc0 := 133) (pc' := 146) rfl (hb hby at_133) rfl (flt (by decide : ¬ ((3 : Int32) < (2 : Int32)))).2.2.2 (by decide) (by decide) ?_
    refine XS.iload X103.here hx rfl (hb hby at_146) rfl ?_
    refine XS.iload X103.here hx rfl (hb hby at_148) rfl ?_
    refine XS.isub X103.here hx rfl (hb hby at_150) rfl ?_
    refine XS.iconst X103.here hx rfl (hb hby at_151) ?_
    refine XS.isub X103.here hx rfl (hb hby at_152) rfl ?_
    show own_S p e below T103 (mkF m 153 (fA18 b16 b98 p0 p1 p2 p3 p4 p5 r_10 r_13 r_4 r_7) [(.int 2)]) _
    refine XS.istore X103.here hx rfl (hb hby at_153) rfl (l' := (fA29 b16 b98 p0 p1 p2 p3 p4 p5 r_10 r_13 r_4 r_7)) rfl ?_
    exact k)
   obtain ⟨T144, h144, X144, e144, E144, A144, D144, -, st144⟩ := newO X103 hx hZ hown (hU 29 _ rfl) (hU 30 _ rfl) (hU 31 _ rfl) rfl (g := (mkF m 155 (fA29 b16 b98 p0 p1 p2 p3 p4 p5 r_10 r_13 r_4 r_7) [])) rfl (hb hby at_155) (by decide) (by decide)
   obtain ⟨b144, g144⟩ : ∃ z, z = T103.heap.size := ⟨_, rfl⟩
   rw [← g144] at A144 D144 st144
   have g_b144 : n0 ≤ b144 := Nat.le_trans z103 (Nat.le_of_eq g144.symm)
   have sz_b144 : h0.size ≤ b144 := Nat.le_trans K103.1 (Nat.le_of_eq g144.symm)
   have ne_b16_b144 : b16 ≠ b144 := Nat.ne_of_lt (Nat.lt_of_lt_of_le f103_A_b16.lt (Nat.le_of_eq g144.symm))
   have ne_b98_b144 : b98 ≠ b144 := Nat.ne_of_lt (Nat.lt_of_lt_of_le f103_E_b98.lt (Nat.le_of_eq g144.symm))
   have ne_b2_103_b144 : b2_103 ≠ b144 := Nat.ne_of_lt (Nat.lt_of_lt_of_le p103_3.lt (Nat.le_of_eq g144.symm))
   have f144_S_String_COMPACT_STRINGS := f103_S_String_COMPACT_STRINGS.ext E144
   have f144_S_Preconditions_SIOOBE_FORMATTER := f103_S_Preconditions_SIOOBE_FORMATTER.ext E144
   have f144_A_b16 := f103_A_b16.ext E144
   have f144_E_b98 := f103_E_b98.ext E144
   have f144_F_value_b98 := p103_1.ext E144
   have f144_F_coder_b98 := p103_2.ext E144
   have f144_A_b2_103 := p103_3.ext E144
   have z144 : n0 ≤ h144.size := Nat.le_trans z103 E144.1
   have K144 : Keep h0 h144 [] := K103.ext E144
   have d144_path : Fld Z h144 b144 sN0 "path" "Ljava/lang/String;" .null := D144 (Or.inr (hU 37 _ rfl)) (ty := (.object "java/lang/String")) (by decide)
   have d144_creationZxid : Fld Z h144 b144 sN0 "creationZxid" "J" (.long (0 : Int64)) := D144 (Or.inr (hU 39 _ rfl)) (ty := .long) (by decide)
   have R145 := fun t k => R143 t (st144 t k)
   have R146 : own_R p e below T144 (mkF m 163 (fA29 b16 b98 p0 p1 p2 p3 p4 p5 r_10 r_13 r_4 r_7) [(.long p5), (.ref b98), (.ref b144), (.ref b144)]) s₁ f0 := fun t k => R145 t (by
    refine XS.dup X144.here hx rfl (hb hby at_158) rfl rfl ?_
    refine XS.aload X144.here hx rfl (hb hby at_159) rfl rfl ?_
    refine XS.lload X144.here hx rfl (hb hby at_161) rfl ?_
    exact k)
   obtain ⟨_, _, ⟨T147, L147, k147, n147⟩, -, X147, ⟨Lc147, hQ147, l147, y147, z147⟩, st147⟩ := X144.specialBack hx (y := yN5) rfl hown (mvT hZ (hU 32 _ rfl)) (mvT hZ (hU 33 _ rfl)) (mvT hZ (hU 34 _ rfl)) (by decide) (backOf (W := 1) (rmQni l Z a0 hw [] b144 b98 p5 .null (.long (0 : Int64)) h144 n0 z144 A144 d144_path d144_creationZxid g_b144) hZ (hU 34 _ rfl) (hU 31 _ rfl) (by decide) (by decide)) (g := (mkF m 163 (fA29 b16 b98 p0 p1 p2 p3 p4 p5 r_10 r_13 r_4 r_7) [(.long p5), (.ref b98), (.ref b144), (.ref b144)])) rfl (by rw [hml]; rfl) (Steps.refl _) (a := b144) (argsL := [(.ref b98), (.long p5)]) (rest := [(.ref b144)]) (lenOf pd_31 rfl) rfl (Nat.le_of_eq rfl) (hb hby at_163) (fun _ _ => ⟨rfl, e144, (by decide : 5 + 0 ≤ _), (by decide : 16 + 0 ≤ _)⟩)
   dsimp only [Pt.U, Pt.locs, Pt.cells, Pt.slots] at X147 l147 y147 z147 st147 hQ147
   subst l147 y147 z147
   obtain ⟨rfl, N147q, p147_0, p147_1⟩ := hQ147
   have N147 := Fr.app N103 N147q
   have f147_S_String_COMPACT_STRINGS := own_sta_keep f144_S_String_COMPACT_STRINGS p147_0 (nsS A144.nostat ns0)
   have f147_S_Preconditions_SIOOBE_FORMATTER := own_sta_keep f144_S_Preconditions_SIOOBE_FORMATTER p147_0 (nsS A144.nostat ns0)
   have f147_A_b16 := f144_A_b16.keep p147_0 (ninS ne_b16_b144 nin0)
   have f147_E_b98 := f144_E_b98.keep p147_0
   have f147_F_value_b98 := f144_F_value_b98.keep p147_0 (ninS ne_b98_b144 nin0)
   have f147_F_coder_b98 := f144_F_coder_b98.keep p147_0 (ninS ne_b98_b144 nin0)
   have f147_A_b2_103 := f144_A_b2_103.keep p147_0 (ninS ne_b2_103_b144 nin0)
   have f147_E_b144 := A144.keep p147_0
   have z147 : n0 ≤ T147.heap.size := Nat.le_trans z144 p147_0.1
   have K147 : Keep h0 T147.heap [] := K144.trans p147_0 (allS (Or.inr sz_b144) all0)
   have R148 := fun t k => R146 t (st147.trans k)
   have R149 : own_R p e below T147 (mkF m 170 #[iv p0, iv p1, iv p2, iv p3, iv p4, own_l p5, .second, iv 2, iv r_4, iv r_7, iv r_10, iv r_13, rv b16, rv b98, iv (-1), iv 2, rv b144, .unset] [(.ref b144)]) s₁ f0 := fun t k => R148 t (by
    refine XS.astore X147.here hx rfl (hb hby at_166) rfl rfl (l' := #[iv p0, iv p1, iv p2, iv p3, iv p4, own_l p5, .second, iv 2, iv r_4, iv r_7, iv r_10, iv r_13, rv b16, rv b98, iv (-1), iv 2, rv b144, .unset]) rfl ?_
    refine XS.aload X147.here hx rfl (hb hby at_168) rfl rfl ?_
    exact k)
   obtain ⟨cq150, kq150, q150a, q150b, q150c⟩ := isOf hZ rfl f147_E_b144
   obtain ⟨_, _, ⟨T150, L150, k150, n150⟩, -, X150, ⟨Lc150, hQ150, l150, y150, z150⟩, st150⟩ := X147.virtualBack hx (y := yN2) (z := yN2) hown (mvT hZ (hU 40 _ rfl)) (mvT hZ (hU 41 _ rfl)) (notFace_of_selects (args := #[]) (mvT hZ (hU 43 _ rfl))) (mvT hZ (hU 43 _ rfl)) (mvT hZ (hU 42 _ rfl)) (by decide) (backOf (W := 0) (rmNm0 l Z a0 hw [] b144 b98 b2_103 kb2_103 (2 : Int32) [(.int (nar .byte ((nar .char r_4).toInt8.toInt32))), (.int (nar .byte ((nar .char r_7).toInt8.toInt32)))] cs sf (1 : Int32) (own_li2 (nar .byte ((nar .char r_4).toInt8.toInt32)) (nar .byte ((nar .char r_7).toInt8.toInt32))) T147.heap n0 z147 f147_E_b144 p147_1 f147_E_b98 f147_F_coder_b98 f147_F_value_b98 f147_A_b2_103 f147_S_String_COMPACT_STRINGS hcs f147_S_Preconditions_SIOOBE_FORMATTER hsf (by decide) (by decide) (rmLli2 l Z a0 hw [] b2_103 kb2_103 (nar .byte ((nar .char r_4).toInt8.toInt32)) (nar .byte ((nar .char r_7).toInt8.toInt32)) T147.heap n0 z147 f147_A_b2_103) (own_lk2m (own_n47 p7_1 hK1) (own_n47 p4_1 hK0))) hZ (hU 44 _ rfl) (hU 31 _ rfl) (by decide) (by decide)) q150a q150c (g := (mkF m 170 #[iv p0, iv p1, iv p2, iv p3, iv p4, own_l p5, .second, iv 2, iv r_4, iv r_7, iv r_10, iv r_13, rv b16, rv b98, iv (-1), iv 2, rv b144, .unset] [(.ref b144)])) rfl (by rw [hml]; rfl) (Steps.refl _) (argsL := []) (rest := []) (lenOf pd_32 rfl) rfl (Nat.le_of_eq rfl) (hb hby at_170) (fun _ _ => ⟨rfl, rfl, (by decide : 5 + 0 ≤ _), (by decide : 16 + 0 ≤ _)⟩)
   dsimp only [Pt.U, Pt.locs, Pt.cells, Pt.slots] at X150 l150 y150 z150 st150 hQ150
   subst l150 y150 z150
   obtain ⟨rfl, N150q, p150_0⟩ := hQ150
   have N150 := Fr.app N147 N150q
   have R151 := fun t k => R149 t (st150.trans k)
   have R152 : own_R p e below T150 (mkF m 177 (fA3 b144 b16 b98 p0 p1 p2 p3 p4 p5 r_10 r_13 r_4 r_7) [(.ref b98)]) s₁ f0 := fun t k => R151 t (by
    refine XS.astore X150.here hx rfl (hb hby at_173) rfl rfl (l' := (fA3 b144 b16 b98 p0 p1 p2 p3 p4 p5 r_10 r_13 r_4 r_7)) rfl ?_
    refine XS.aload X150.here hx rfl (hb hby at_175) rfl rfl ?_
    exact k)
   obtain ⟨cq153, kq153, q153a, q153b, q153c⟩ := isOf hZ p150_0 f147_E_b98
   obtain ⟨_, _, ⟨T153, L153, k153, n153⟩, -, X153, ⟨Lc153, hQ153, l153, y153, z153⟩, st153⟩ := X150.virtualBack hx (y := yN0) (z := yN0) hown (mvT hZ (hU 100 _ rfl)) (mvT hZ (hU 51 _ rfl)) (notFace_of_selects (args := #[]) (mvT hZ (hU 53 _ rfl))) (mvT hZ (hU 53 _ rfl)) (mvT hZ (hU 52 _ rfl)) (by decide) (backOf (W := 0) (rmLen l Z a0 hw [] b98 b2_103 kb2_103 (2 : Int32) [(.int (nar .byte ((nar .char r_4).toInt8.toInt32))), (.int (nar .byte ((nar .char r_7).toInt8.toInt32)))] (.int 0) cs T147.heap n0 z147 f147_E_b98 f147_F_coder_b98 f147_F_value_b98 f147_A_b2_103 f147_S_String_COMPACT_STRINGS hcs) hZ (hU 54 _ rfl) (hU 7 _ rfl) (by decide) (by decide)) q153a q153c (g := (mkF m 177 (fA3 b144 b16 b98 p0 p1 p2 p3 p4 p5 r_10 r_13 r_4 r_7) [(.ref b98)])) rfl (by rw [hml]; rfl) (Steps.refl _) (argsL := []) (rest := []) (lenOf pd_20 rfl) rfl (Nat.le_of_eq rfl) (hb hby at_177) (fun _ _ => ⟨rfl, p150_0, (by decide : 5 + 0 ≤ _), (by decide : 16 + 0 ≤ _)⟩)
   dsimp only [Pt.U, Pt.locs, Pt.cells, Pt.slots] at X153 l153 y153 z153 st153 hQ153
   subst l153 y153 z153
   obtain ⟨rfl, N153q, p153_0⟩ := hQ153
   have N153 := Fr.app N150 N153q
   have R154 := fun t k => R152 t (st153.trans k)
   have R155 : own_R p e below T153 (mkF m 180 (fA3 b144 b16 b98 p0 p1 p2 p3 p4 p5 r_10 r_13 r_4 r_7) [(.int 2)]) s₁ f0 := by have q := R154; rw [((own_sh (2 : Int32)) : ((2 : Int32) >>> ((0 : Int32) &&& 31)) = (2 : Int32))] at q; exact q
   have R156 : own_R p e below T153 (mkF m 195 (fA3 b144 b16 b98 p0 p1 p2 p3 p4 p5 r_10 r_13 r_4 r_7) [(.int 0), (.ref b98)]) s₁ f0 := fun t k => R155 t (by
    refine XS.iload X153.here hx rfl (hb hby at_180) rfl ?_
    refine XS.icmpYes X153.here hx rfl (pc0 := 182) (pc' := 187) rfl (hb hby at_182) rfl (teq (by decide : (2 : Int32) = (2 : Int32))).1 (by decide) (by decide) ?_
    refine XS.iload X153.here hx rfl (hb hby at_187) rfl ?_
    refine XS.ifNo X153.here hx rfl (hb hby at_189) rfl ((if0 _ _).trans (tlt (by decide : (0 : Int32) < (2 : Int32))).2.2.2) ?_
    refine XS.aload X153.here hx rfl (hb hby at_192) rfl rfl ?_
    refine XS.iconst X153.here hx rfl (hb hby at_194) ?_
    exact k)
   obtain ⟨cq157, kq157, q157a, q157b, q157c⟩ := isOf hZ p153_0 f147_E_b98
   obtain ⟨_, _, ⟨T157, L157, k157, n157⟩, -, X157, ⟨Lc157, hQ157, l157, y157, z157⟩, st157⟩ := X153.virtualBack hx (y := yN1) (z := yN1) hown (mvT hZ (hU 111 _ rfl)) (mvT hZ (hU 112 _ rfl)) (notFace_of_selects (args := #[]) (mvT hZ (hU 114 _ rfl))) (mvT hZ (hU 114 _ rfl)) (mvT hZ (hU 113 _ rfl)) (by decide) (backOf (W := 0) (rmCa l Z a0 hw [] b98 (0 : Int32) b2_103 kb2_103 (2 : Int32) [(.int (nar .byte ((nar .char r_4).toInt8.toInt32))), (.int (nar .byte ((nar .char r_7).toInt8.toInt32)))] (.int 0) (nar .byte ((nar .char r_4).toInt8.toInt32)) cs sf T147.heap n0 z147 f147_E_b98 f147_F_coder_b98 f147_F_value_b98 f147_A_b2_103 f147_S_String_COMPACT_STRINGS hcs f147_S_Preconditions_SIOOBE_FORMATTER hsf (by decide) (by decide) rfl) hZ (hU 115 _ rfl) (hU 7 _ rfl) (by decide) (by decide)) q157a q157c (g := (mkF m 195 (fA3 b144 b16 b98 p0 p1 p2 p3 p4 p5 r_10 r_13 r_4 r_7) [(.int 0), (.ref b98)])) rfl (by rw [hml]; rfl) (Steps.refl _) (argsL := [(.int 0)]) (rest := []) (lenOf pd_28 rfl) rfl (Nat.le_of_eq rfl) (hb hby at_195) (fun _ _ => ⟨rfl, p153_0, (by decide : 5 + 0 ≤ _), (by decide : 16 + 0 ≤ _)⟩)
   dsimp only [Pt.U, Pt.locs, Pt.cells, Pt.slots] at X157 l157 y157 z157 st157 hQ157
   subst l157 y157 z157
   obtain ⟨rfl, N157q, p157_0⟩ := hQ157
   have N157 := Fr.app N153 N157q
   have R158 := fun t k => R156 t (st157.trans k)
   have R159 : own_R p e below T157 (mkF m 198 (fA3 b144 b16 b98 p0 p1 p2 p3 p4 p5 r_10 r_13 r_4 r_7) [(.int (nar .char r_4))]) s₁ f0 := by have q := R158; rw [((own_chb p4_1) : (own_ch (nar .byte ((nar .char r_4).toInt8.toInt32))) = (nar .char r_4))] at q; exact q
   have R160 : own_R p e below T157 (mkF m 204 (fA3 b144 b16 b98 p0 p1 p2 p3 p4 p5 r_10 r_13 r_4 r_7) [(.int 0), (.ref b16), (.int (nar .char r_4))]) s₁ f0 := fun t k => R159 t (by
    refine XS.aload X157.here hx rfl (hb hby at_198) rfl rfl ?_
    refine XS.iload X157.here hx rfl (hb hby at_200) rfl ?_
    refine XS.iconst X157.here hx rfl (hb hby at_202) ?_
    refine XS.iadd X157.here hx rfl (hb hby at_203) rfl ?_
    exact k)
   obtain ⟨cl161, Ar161, q161, S161, n161_, H161, G161⟩ := id f147_A_b16
   have hin161 : ¬ ((0 : Int32) < 0 ∨ cl161.slots.size ≤ ((0 : Int32)).toNatClampNeg) := inb_of S161 ⟨by decide, by decide⟩
   have hat161 : cl161.slots[((0 : Int32)).toNatClampNeg]? = some (.int (nar .char r_4)) := Has.at H161 hin161 rfl
   have R162 : own_R p e below T157 (mkF m 205 (fA3 b144 b16 b98 p0 p1 p2 p3 p4 p5 r_10 r_13 r_4 r_7) [(.int (nar .char r_4)), (.int (nar .char r_4))]) s₁ f0 := fun t k => R160 t (X157.caload hx (j := (0 : Int32)) (v := (.int (nar .char r_4))) (by rw [p157_0]; exact Ar161.1) (State.isArrayOf_alike hZ.alike Ar161.2.1) Ar161.2.2 hin161 hat161 (g := (mkF m 204 (fA3 b144 b16 b98 p0 p1 p2 p3 p4 p5 r_10 r_13 r_4 r_7) [(.int 0), (.ref b16), (.int (nar .char r_4))])) rfl rfl (hb hby at_204) _ k)
   have R163 : own_R p e below T157 (mkF m 219 (fA3 b144 b16 b98 p0 p1 p2 p3 p4 p5 r_10 r_13 r_4 r_7) [(.int 1), (.ref b98)]) s₁ f0 := fun t k => R162 t (by
    refine XS.icmpYes X157.here hx rfl (pc0 := 205) (pc' := 210) rfl (hb hby at_205) rfl (teq rfl).1 (by decide) (by decide) ?_
    refine XS.iload X157.here hx rfl (hb hby at_210) rfl ?_
    refine XS.iconst X157.here hx rfl (hb hby at_212) ?_
    refine XS.icmpNo X157.here hx rfl (hb hby at_213) rfl (tlt (by decide : (1 : Int32) < (2 : Int32))).2.2.2 ?_
    refine XS.aload X157.here hx rfl (hb hby at_216) rfl rfl ?_
    refine XS.iconst X157.here hx rfl (hb hby at_218) ?_
    exact k)
   obtain ⟨cq164, kq164, q164a, q164b, q164c⟩ := isOf hZ p157_0 f147_E_b98
   obtain ⟨_, _, ⟨T164, L164, k164, n164⟩, -, X164, ⟨Lc164, hQ164, l164, y164, z164⟩, st164⟩ := X157.virtualBack hx (y := yN1) (z := yN1) hown (mvT hZ (hU 111 _ rfl)) (mvT hZ (hU 112 _ rfl)) (notFace_of_selects (args := #[]) (mvT hZ (hU 114 _ rfl))) (mvT hZ (hU 114 _ rfl)) (mvT hZ (hU 113 _ rfl)) (by decide) (backOf (W := 0) (rmCa l Z a0 hw [] b98 (1 : Int32) b2_103 kb2_103 (2 : Int32) [(.int (nar .byte ((nar .char r_4).toInt8.toInt32))), (.int (nar .byte ((nar .char r_7).toInt8.toInt32)))] (.int 0) (nar .byte ((nar .char r_7).toInt8.toInt32)) cs sf T147.heap n0 z147 f147_E_b98 f147_F_coder_b98 f147_F_value_b98 f147_A_b2_103 f147_S_String_COMPACT_STRINGS hcs f147_S_Preconditions_SIOOBE_FORMATTER hsf (by decide) (by decide) rfl) hZ (hU 115 _ rfl) (hU 7 _ rfl) (by decide) (by decide)) q164a q164c (g := (mkF m 219 (fA3 b144 b16 b98 p0 p1 p2 p3 p4 p5 r_10 r_13 r_4 r_7) [(.int 1), (.ref b98)])) rfl (by rw [hml]; rfl) (Steps.refl _) (argsL := [(.int 1)]) (rest := []) (lenOf pd_28 rfl) rfl (Nat.le_of_eq rfl) (hb hby at_219) (fun _ _ => ⟨rfl, p157_0, (by decide : 5 + 0 ≤ _), (by decide : 16 + 0 ≤ _)⟩)
   dsimp only [Pt.U, Pt.locs, Pt.cells, Pt.slots] at X164 l164 y164 z164 st164 hQ164
   subst l164 y164 z164
   obtain ⟨rfl, N164q, p164_0⟩ := hQ164
   have N164 := Fr.app N157 N164q
   have R165 := fun t k => R163 t (st164.trans k)
   have R166 : own_R p e below T164 (mkF m 222 (fA3 b144 b16 b98 p0 p1 p2 p3 p4 p5 r_10 r_13 r_4 r_7) [(.int (nar .char r_7))]) s₁ f0 := by have q := R165; rw [((own_chb p7_1) : (own_ch (nar .byte ((nar .char r_7).toInt8.toInt32))) = (nar .char r_7))] at q; exact q
   have R167 : own_R p e below T164 (mkF m 228 (fA3 b144 b16 b98 p0 p1 p2 p3 p4 p5 r_10 r_13 r_4 r_7) [(.int 1), (.ref b16), (.int (nar .char r_7))]) s₁ f0 := fun t k => R166 t (by
    refine XS.aload X164.here hx rfl (hb hby at_222) rfl rfl ?_
    refine XS.iload X164.here hx rfl (hb hby at_224) rfl ?_
    refine XS.iconst X164.here hx rfl (hb hby at_226) ?_
    refine XS.iadd X164.here hx rfl (hb hby at_227) rfl ?_
    exact k)
   obtain ⟨cl168, Ar168, q168, S168, n168_, H168, G168⟩ := id f147_A_b16
   have hin168 : ¬ ((1 : Int32) < 0 ∨ cl168.slots.size ≤ ((1 : Int32)).toNatClampNeg) := inb_of S168 ⟨by decide, by decide⟩
   have hat168 : cl168.slots[((1 : Int32)).toNatClampNeg]? = some (.int (nar .char r_7)) := Has.at H168 hin168 rfl
   have R169 : own_R p e below T164 (mkF m 229 (fA3 b144 b16 b98 p0 p1 p2 p3 p4 p5 r_10 r_13 r_4 r_7) [(.int (nar .char r_7)), (.int (nar .char r_7))]) s₁ f0 := fun t k => R167 t (X164.caload hx (j := (1 : Int32)) (v := (.int (nar .char r_7))) (by rw [p164_0]; exact Ar168.1) (State.isArrayOf_alike hZ.alike Ar168.2.1) Ar168.2.2 hin168 hat168 (g := (mkF m 228 (fA3 b144 b16 b98 p0 p1 p2 p3 p4 p5 r_10 r_13 r_4 r_7) [(.int 1), (.ref b16), (.int (nar .char r_7))])) rfl rfl (hb hby at_228) _ k)
   have R170 : own_R p e below T164 (mkF m 283 (fA3 b144 b16 b98 p0 p1 p2 p3 p4 p5 r_10 r_13 r_4 r_7) [(.int 1)]) s₁ f0 := fun t k => R169 t (by
    refine XS.icmpYes X164.here hx rfl (pc0 := 229) (pc' := 234) rfl (hb hby at_229) rfl (teq rfl).1 (by decide) (by decide) ?_
    refine XS.iload X164.here hx rfl (hb hby at_234) rfl ?_
    refine XS.iconst X164.here hx rfl (hb hby at_236) ?_
    refine XS.icmpYes X164.here hx rfl (pc0 := 237) (pc' := 258) rfl (hb hby at_237) rfl (flt (by decide : ¬ ((2 : Int32) < (2 : Int32)))).2.2.2 (by decide) (by decide) ?_
    refine XS.iload X164.here hx rfl (hb hby at_258) rfl ?_
    refine XS.iconst X164.here hx rfl (hb hby at_260) ?_
    refine XS.icmpYes X164.here hx rfl (pc0 := 261) (pc' := 282) rfl (hb hby at_261) rfl (flt (by decide : ¬ ((3 : Int32) < (2 : Int32)))).2.2.2 (by decide) (by decide) ?_
    refine XS.iconst X164.here hx rfl (hb hby at_282) ?_
    exact k)
   obtain ⟨fs, hr, hrun, hended, hW, hsame⟩ := X164.leave (v := some (.int 1)) (fun h => by rw [Bd.returns] at h; cases h)
   have hend := ReturnedEndW.of_narrow (o := Outcome.returned (some (.int 1))) ⟨_, rfl⟩ hW hsame
   refine ⟨_, _, pre0 _ (R170 _ ?_), hrun, hended, _, _, rfl, ?_, hend.1, hend.2.1, hend.2.2.1, hend.2.2.2.mono (by decide) (by decide)⟩
   ·
    show own_S p e below T164 (mkF m 283 (fA3 b144 b16 b98 p0 p1 p2 p3 p4 p5 r_10 r_13 r_4 r_7) [(.int 1)]) _
    exact retN X164 hx (t := .boolean) Bd.returns (by simp) (hb hby at_283) hr
   ·
    show Q_rmLaw Z p0 p1 p2 p3 p4 p5 cs sf h0 n0 _ T164.heap _
    rw [p164_0]
    exact ⟨rfl, N164⟩
 ·
  have R171 : own_R p e below T28 (mkF m 58 (fA23 b16 p0 p1 p2 p3 p4 p5 r_10 r_13 r_4 r_7) []) s₁ f0 := by have q := R30; rw [(hp : nn = (3 : Int32))] at q; exact q
  obtain ⟨T172, h172, X172, e172, E172, A172, D172, -, st172⟩ := newO X28 hx hZ hown (hU 5 _ rfl) (hU 6 _ rfl) (hU 7 _ rfl) e28 (g := (mkF m 58 (fA23 b16 p0 p1 p2 p3 p4 p5 r_10 r_13 r_4 r_7) [])) rfl (hb hby at_58) (by decide) (by decide)
  obtain ⟨b172, g172⟩ : ∃ z, z = h28.size := ⟨_, rfl⟩
  rw [← g172] at A172 D172 st172
  have g_b172 : n0 ≤ b172 := Nat.le_trans z28 (Nat.le_of_eq g172.symm)
  have sz_b172 : h0.size ≤ b172 := Nat.le_trans K28.1 (Nat.le_of_eq g172.symm)
  have ne_b16_b172 : b16 ≠ b172 := Nat.ne_of_lt (Nat.lt_of_lt_of_le v28.lt (Nat.le_of_eq g172.symm))
  have f172_S_String_COMPACT_STRINGS := f28_S_String_COMPACT_STRINGS.ext E172
  have f172_S_Preconditions_SIOOBE_FORMATTER := f28_S_Preconditions_SIOOBE_FORMATTER.ext E172
  have f172_A_b16 := v28.ext E172
  have z172 : n0 ≤ h172.size := Nat.le_trans z28 E172.1
  have K172 : Keep h0 h172 [] := K28.ext E172
  have d172_value : Fld Z h172 b172 "java/lang/String" "value" "[B" .null := D172 (Or.inr (hU 23 _ rfl)) (ty := (.array .byte)) (by decide)
  have d172_coder : Fld Z h172 b172 "java/lang/String" "coder" "B" (.int 0) := D172 (Or.inr (hU 24 _ rfl)) (ty := .byte) (by decide)
  have R173 := fun t k => R171 t (st172 t k)
  have R174 : own_R p e below T172 (mkF m 72 (fA23 b16 p0 p1 p2 p3 p4 p5 r_10 r_13 r_4 r_7) [(.int r_13), (.int r_10), (.int r_7), (.int r_4), (.int 3), (.ref b172), (.ref b172)]) s₁ f0 := fun t k => R173 t (by
   refine XS.dup X172.here hx rfl (hb hby at_61) rfl rfl ?_
   refine XS.iload X172.here hx rfl (hb hby at_62) rfl ?_
   refine XS.iload X172.here hx rfl (hb hby at_64) rfl ?_
   refine XS.iload X172.here hx rfl (hb hby at_66) rfl ?_
   refine XS.iload X172.here hx rfl (hb hby at_68) rfl ?_
   refine XS.iload X172.here hx rfl (hb hby at_70) rfl ?_
   exact k)
  obtain ⟨_, _, ⟨T175, L175, k175, n175⟩, -, X175, ⟨Lc175, hQ175, l175, y175, z175⟩, st175⟩ := Jvm.LawKit.callS X172 hx (y := yN6) hown (mvT hZ (hU 8 _ rfl)) (mvT hZ (hU 9 _ rfl)) (mvT hZ (hU 2 _ rfl)) (mvT hZ (hU 10 _ rfl)) (by decide) (backOf (W := 2) (rmMk3 l Z a0 hw [] r_4 r_7 r_10 r_13 h172 n0 z172) hZ (hU 10 _ rfl) (hU 2 _ rfl) (by decide) (by decide)) (g := (mkF m 72 (fA23 b16 p0 p1 p2 p3 p4 p5 r_10 r_13 r_4 r_7) [(.int r_13), (.int r_10), (.int r_7), (.int r_4), (.int 3), (.ref b172), (.ref b172)])) rfl (by rw [hml]; rfl) (argsL := [(.int 3), (.int r_4), (.int r_7), (.int r_10), (.int r_13)]) (rest := [(.ref b172), (.ref b172)]) (lenOf pd_29 rfl) rfl (Nat.le_of_eq rfl) (hb hby at_72) (fun _ _ => ⟨rfl, e172, (by decide : 2 + 1 ≤ _), (by decide : 8 + 3 ≤ _)⟩)
  dsimp only [Pt.U, Pt.locs, Pt.cells, Pt.slots] at X175 l175 y175 z175 st175 hQ175
  subst l175 y175 z175
  obtain ⟨b_175, kb_175, rfl, N175q, p175_0, p175_1, p175_2⟩ := hQ175
  have N175 := Fr.app N28 N175q
  have f175_S_String_COMPACT_STRINGS := own_sta_keep f172_S_String_COMPACT_STRINGS p175_0 ns0
  have f175_S_Preconditions_SIOOBE_FORMATTER := own_sta_keep f172_S_Preconditions_SIOOBE_FORMATTER p175_0 ns0
  have f175_A_b16 := f172_A_b16.keep p175_0 nin0
  have f175_E_b172 := A172.keep p175_0
  have f175_F_value_b172 := d172_value.keep p175_0 nin0
  have f175_F_coder_b172 := d172_coder.keep p175_0 nin0
  have z175 : n0 ≤ T175.heap.size := Nat.le_trans z172 p175_0.1
  have K175 : Keep h0 T175.heap [] := K172.trans p175_0 all0
  have g_b_175 : n0 ≤ b_175 := Nat.le_trans z172 p175_2
  have sz_b_175 : h0.size ≤ b_175 := Nat.le_trans K172.1 p175_2
  have ne_b16_b_175 : b16 ≠ b_175 := Nat.ne_of_lt (Nat.lt_of_lt_of_le f172_A_b16.lt p175_2)
  have ne_b172_b_175 : b172 ≠ b_175 := Nat.ne_of_lt (Nat.lt_of_lt_of_le d172_value.lt p175_2)
  have R176 := fun t k => R174 t (st175 t k)
  obtain ⟨_, _, ⟨T177, L177, k177, n177⟩, -, X177, ⟨Lc177, hQ177, l177, y177, z177⟩, st177⟩ := X175.specialBack hx (y := yN13) rfl hown (mvT hZ (hU 11 _ rfl)) (mvT hZ (hU 12 _ rfl)) (mvT hZ (hU 13 _ rfl)) (by decide) (backOf (W := 1) (rmStr l Z a0 hw [] b172 b_175 .null (.int 0) kb_175 (3 : Int32) [(.int (nar .char r_4)), (.int (nar .char r_7)), (.int (nar .char r_10))] [(.int (nar .byte ((nar .char r_4).toInt8.toInt32))), (.int (nar .byte ((nar .char r_7).toInt8.toInt32))), (.int (nar .byte ((nar .char r_10).toInt8.toInt32)))] cs T175.heap n0 z175 f175_E_b172 f175_F_value_b172 f175_F_coder_b172 g_b172 p175_1 ne_b172_b_175 f175_S_String_COMPACT_STRINGS hcs (by decide) (rmComp3 l Z a0 hw [] b_175 kb_175 (nar .char r_4) (nar .char r_7) (nar .char r_10) T175.heap n0 z175 p175_1 (own_h255 p4_1) (own_h255 p7_1) (own_h255 p10_1))) hZ (hU 13 _ rfl) (hU 7 _ rfl) (by decide) (by decide)) (g := (mkF m 75 (fA23 b16 p0 p1 p2 p3 p4 p5 r_10 r_13 r_4 r_7) [(.ref b_175), (.ref b172), (.ref b172)])) rfl (by rw [hml]; rfl) (Steps.refl _) (a := b172) (argsL := [(.ref b_175)]) (rest := [(.ref b172)]) (lenOf pd_30 rfl) rfl (Nat.le_of_eq rfl) (hb hby at_75) (fun _ _ => ⟨rfl, rfl, (by decide : 3 + 1 ≤ _), (by decide : 11 + 4 ≤ _)⟩)
  dsimp only [Pt.U, Pt.locs, Pt.cells, Pt.slots] at X177 l177 y177 z177 st177 hQ177
  subst l177 y177 z177
  obtain ⟨b2_177, kb2_177, rfl, N177q, p177_0, p177_1, p177_2, p177_3, p177_4⟩ := hQ177
  have N177 := Fr.app N175 N177q
  have f177_S_String_COMPACT_STRINGS := own_sta_keep f175_S_String_COMPACT_STRINGS p177_0 (nsS f175_E_b172.nostat ns0)
  have f177_S_Preconditions_SIOOBE_FORMATTER := own_sta_keep f175_S_Preconditions_SIOOBE_FORMATTER p177_0 (nsS f175_E_b172.nostat ns0)
  have f177_A_b16 := f175_A_b16.keep p177_0 (ninS ne_b16_b172 nin0)
  have f177_E_b172 := f175_E_b172.keep p177_0
  have f177_A_b_175 := p175_1.keep p177_0 (ninS (Ne.symm ne_b172_b_175) nin0)
  have z177 : n0 ≤ T177.heap.size := Nat.le_trans z175 p177_0.1
  have K177 : Keep h0 T177.heap [] := K175.trans p177_0 (allS (Or.inr sz_b172) all0)
  have g_b2_177 : n0 ≤ b2_177 := Nat.le_trans z175 p177_4
  have sz_b2_177 : h0.size ≤ b2_177 := Nat.le_trans K175.1 p177_4
  have ne_b16_b2_177 : b16 ≠ b2_177 := Nat.ne_of_lt (Nat.lt_of_lt_of_le f175_A_b16.lt p177_4)
  have ne_b172_b2_177 : b172 ≠ b2_177 := Nat.ne_of_lt (Nat.lt_of_lt_of_le f175_F_value_b172.lt p177_4)
  have ne_b_175_b2_177 : b_175 ≠ b2_177 := Nat.ne_of_lt (Nat.lt_of_lt_of_le p175_1.lt p177_4)
  have R178 := fun t k => R176 t (st177.trans k)
  have R179 : own_R p e below T177 (mkF m 80 #[iv p0, iv p1, iv p2, iv p3, iv p4, own_l p5, .second, iv 3, iv r_4, iv r_7, iv r_10, iv r_13, rv b16, rv b172, .unset, .unset, .unset, .unset] []) s₁ f0 := fun t k => R178 t (by
   refine XS.astore X177.here hx rfl (hb hby at_78) rfl rfl (l' := #[iv p0, iv p1, iv p2, iv p3, iv p4, own_l p5, .second, iv 3, iv r_4, iv r_7, iv r_10, iv r_13, rv b16, rv b172, .unset, .unset, .unset, .unset]) rfl ?_
   exact k)
  rcases own_K3 (r_10 = (47 : Int32)) (r_7 = (47 : Int32)) (r_4 = (47 : Int32)) with hK2 | ⟨hK2, hK1⟩ | ⟨hK2, hK1, hK0⟩ | ⟨hK2, hK1, hK0⟩
  ·
   have R180 : own_R p e below T177 (mkF m 83 (fA12 b16 b172 p0 p1 p2 p3 p4 p5 r_10 r_13 r_4 r_7) []) s₁ f0 := fun t k => R179 t (by
    refine XS.iconst X177.here hx rfl (hb hby at_80) ?_
    refine XS.istore X177.here hx rfl (hb hby at_81) rfl (l' := (fA12 b16 b172 p0 p1 p2 p3 p4 p5 r_10 r_13 r_4 r_7)) rfl ?_
    exact k)
   have R181 : own_R p e below T177 (mkF m 98 #[iv p0, iv p1, iv p2, iv p3, iv p4, own_l p5, .second, iv 3, iv r_4, iv r_7, iv r_10, iv r_13, rv b16, rv b172, iv (if r_4 = (47 : Int32) then (0 : Int32) else (-1 : Int32)), .unset, .unset, .unset] []) s₁ f0 := by
    intro t k
    refine R180 t ?_
    refine XS.iload X177.here hx rfl (hb hby at_83) rfl ?_
    refine XS.ifNo X177.here hx rfl (hb hby at_85) rfl ((if0 _ _).trans (tlt (by decide : (0 : Int32) < (3 : Int32))).2.2.2) ?_
    refine XS.iload X177.here hx rfl (hb hby at_88) rfl ?_
    refine XS.bipush X177.here hx rfl (hb hby at_90) ?_
    by_cases hm1 : r_4 = (47 : Int32)
    ·
     refine XS.icmpNo X177.here hx rfl (hb hby at_92) rfl (teq hm1).2 ?_
     refine XS.iconst X177.here hx rfl (hb hby at_95) ?_
     refine XS.istore X177.here hx rfl (hb hby at_96) rfl (l' := (fA30 b16 b172 p0 p1 p2 p3 p4 p5 r_10 r_13 r_4 r_7)) rfl ?_
     have hv : (if r_4 = (47 : Int32) then (0 : Int32) else (-1 : Int32)) = (0 : Int32) := by simp [hm1]
     rw [hv] at k
     exact k
    ·
     refine XS.icmpYes X177.here hx rfl (pc0 := 92) (pc' := 98) rfl (hb hby at_92) rfl (feq hm1).2 (by decide) (by decide) ?_
     have hv : (if r_4 = (47 : Int32) then (0 : Int32) else (-1 : Int32)) = (-1 : Int32) := by simp [hm1]
     rw [hv] at k
     exact k
   have R182 : own_R p e below T177 (mkF m 114 #[iv p0, iv p1, iv p2, iv p3, iv p4, own_l p5, .second, iv 3, iv r_4, iv r_7, iv r_10, iv r_13, rv b16, rv b172, iv (if r_7 = (47 : Int32) then (1 : Int32) else (if r_4 = (47 : Int32) then (0 : Int32) else (-1 : Int32))), .unset, .unset, .unset] []) s₁ f0 := by
    intro t k
    refine R181 t ?_
    refine XS.iload X177.here hx rfl (hb hby at_98) rfl ?_
    refine XS.iconst X177.here hx rfl (hb hby at_100) ?_
    refine XS.icmpNo X177.here hx rfl (hb hby at_101) rfl (tlt (by decide : (1 : Int32) < (3 : Int32))).2.2.2 ?_
    refine XS.iload X177.here hx rfl (hb hby at_104) rfl ?_
    refine XS.bipush X177.here hx rfl (hb hby at_106) ?_
    by_cases hm1 : r_7 = (47 : Int32)
    ·
     refine XS.icmpNo X177.here hx rfl (hb hby at_108) rfl (teq hm1).2 ?_
     refine XS.iconst X177.here hx rfl (hb hby at_111) ?_
     refine XS.istore X177.here hx rfl (hb hby at_112) rfl (l' := #[iv p0, iv p1, iv p2, iv p3, iv p4, own_l p5, .second, iv 3, iv r_4, iv r_7, iv r_10, iv r_13, rv b16, rv b172, iv 1, .unset, .unset, .unset]) rfl ?_
     have hv : (if r_7 = (47 : Int32) then (1 : Int32) else (if r_4 = (47 : Int32) then (0 : Int32) else (-1 : Int32))) = (1 : Int32) := by simp [hm1]
     rw [hv] at k
     exact k
    ·
     refine XS.icmpYes X177.here hx rfl (pc0 := 108) (pc' := 114) rfl (hb hby at_108) rfl (feq hm1).2 (by decide) (by decide) ?_
     have hv : (if r_7 = (47 : Int32) then (1 : Int32) else (if r_4 = (47 : Int32) then (0 : Int32) else (-1 : Int32))) = (if r_4 = (47 : Int32) then (0 : Int32) else (-1 : Int32)) := by simp [hm1]
     rw [hv] at k
     exact k
   have R183 : own_R p e below T177 (mkF m 155 (fA32 b16 b172 p0 p1 p2 p3 p4 p5 r_10 r_13 r_4 r_7) []) s₁ f0 := fun t k => R182 t (by
    refine XS.iload X177.here hx rfl (hb hby at_114) rfl ?_
    refine XS.iconst X177.here hx rfl (hb hby at_116) ?_
    refine XS.icmpNo X177.here hx rfl (hb hby at_117) rfl (tlt (by decide : (2 : Int32) < (3 : Int32))).2.2.2 ?_
    refine XS.iload X177.here hx rfl (hb hby at_120) rfl ?_
    refine XS.bipush X177.here hx rfl (hb hby at_122) ?_
    refine XS.icmpNo X177.here hx rfl (hb hby at_124) rfl (teq hK2).2 ?_
    refine XS.iconst X177.here hx rfl (hb hby at_127) ?_
    refine XS.istore X177.here hx rfl (hb hby at_128) rfl (l' := #[iv p0, iv p1, iv p2, iv p3, iv p4, own_l p5, .second, iv 3, iv r_4, iv r_7, iv r_10, iv r_13, rv b16, rv b172, iv 2, .unset, .unset, .unset]) rfl ?_
    refine XS.iload X177.here hx rfl (hb hby at_130) rfl ?_
    refine XS.iconst X177.here hx rfl (hb hby at_132) ?_
    refine XS.icmpYes X177.here hx rfl (pc0 := 133) (pc' := 146) rfl (hb hby at_133) rfl (flt (by decide : ¬ ((3 : Int32) < (3 : Int32)))).2.2.2 (by decide) (by decide) ?_
    refine XS.iload X177.here hx rfl (hb hby at_146) rfl ?_
    show own_S p e below T177 (mkF m 148 #[iv p0, iv p1, iv p2, iv p3, iv p4, own_l p5, .second, iv 3, iv r_4, iv r_7, iv r_10, iv r_13, rv b16, rv b172, iv 2, .unset, .unset, .unset] [(.int 3)]) _
    refine XS.iload X177.here hx rfl (hb hby at_148) rfl ?_
    refine XS.isub X177.here hx rfl (hb hby at_150) rfl ?_
    refine XS.iconst X177.here hx rfl (hb hby at_151) ?_
    refine XS.isub X177.here hx rfl (hb hby at_152) rfl ?_
    refine XS.istore X177.here hx rfl (hb hby at_153) rfl (l' := (fA32 b16 b172 p0 p1 p2 p3 p4 p5 r_10 r_13 r_4 r_7)) rfl ?_
    exact k)
   obtain ⟨T184, h184, X184, e184, E184, A184, D184, -, st184⟩ := newO X177 hx hZ hown (hU 29 _ rfl) (hU 30 _ rfl) (hU 31 _ rfl) rfl (g := (mkF m 155 (fA32 b16 b172 p0 p1 p2 p3 p4 p5 r_10 r_13 r_4 r_7) [])) rfl (hb hby at_155) (by decide) (by decide)
   obtain ⟨b184, g184⟩ : ∃ z, z = T177.heap.size := ⟨_, rfl⟩
   rw [← g184] at A184 D184 st184
   have g_b184 : n0 ≤ b184 := Nat.le_trans z177 (Nat.le_of_eq g184.symm)
   have sz_b184 : h0.size ≤ b184 := Nat.le_trans K177.1 (Nat.le_of_eq g184.symm)
   have ne_b16_b184 : b16 ≠ b184 := Nat.ne_of_lt (Nat.lt_of_lt_of_le f177_A_b16.lt (Nat.le_of_eq g184.symm))
   have ne_b172_b184 : b172 ≠ b184 := Nat.ne_of_lt (Nat.lt_of_lt_of_le f177_E_b172.lt (Nat.le_of_eq g184.symm))
   have ne_b2_177_b184 : b2_177 ≠ b184 := Nat.ne_of_lt (Nat.lt_of_lt_of_le p177_3.lt (Nat.le_of_eq g184.symm))
   have f184_S_String_COMPACT_STRINGS := f177_S_String_COMPACT_STRINGS.ext E184
   have f184_S_Preconditions_SIOOBE_FORMATTER := f177_S_Preconditions_SIOOBE_FORMATTER.ext E184
   have f184_A_b16 := f177_A_b16.ext E184
   have f184_E_b172 := f177_E_b172.ext E184
   have f184_F_value_b172 := p177_1.ext E184
   have f184_F_coder_b172 := p177_2.ext E184
   have f184_A_b2_177 := p177_3.ext E184
   have z184 : n0 ≤ h184.size := Nat.le_trans z177 E184.1
   have K184 : Keep h0 h184 [] := K177.ext E184
   have d184_path : Fld Z h184 b184 sN0 "path" "Ljava/lang/String;" .null := D184 (Or.inr (hU 37 _ rfl)) (ty := (.object "java/lang/String")) (by decide)
   have d184_creationZxid : Fld Z h184 b184 sN0 "creationZxid" "J" (.long (0 : Int64)) := D184 (Or.inr (hU 39 _ rfl)) (ty := .long) (by decide)
   have R185 := fun t k => R183 t (st184 t k)
   have R186 : own_R p e below T184 (mkF m 163 (fA32 b16 b172 p0 p1 p2 p3 p4 p5 r_10 r_13 r_4 r_7) [(.long p5), (.ref b172), (.ref b184), (.ref b184)]) s₁ f0 := fun t k => R185 t (by
    refine XS.dup X184.here hx rfl (hb hby at_158) rfl rfl ?_
    refine XS.aload X184.here hx rfl (hb hby at_159) rfl rfl ?_
    refine XS.lload X184.here hx rfl (hb hby at_161) rfl ?_
    exact k)
   obtain ⟨_, _, ⟨T187, L187, k187, n187⟩, -, X187, ⟨Lc187, hQ187, l187, y187, z187⟩, st187⟩ := X184.specialBack hx (y := yN5) rfl hown (mvT hZ (hU 32 _ rfl)) (mvT hZ (hU 33 _ rfl)) (mvT hZ (hU 34 _ rfl)) (by decide) (backOf (W := 1) (rmQni l Z a0 hw [] b184 b172 p5 .null (.long (0 : Int64)) h184 n0 z184 A184 d184_path d184_creationZxid g_b184) hZ (hU 34 _ rfl) (hU 31 _ rfl) (by decide) (by decide)) (g := (mkF m 163 (fA32 b16 b172 p0 p1 p2 p3 p4 p5 r_10 r_13 r_4 r_7) [(.long p5), (.ref b172), (.ref b184), (.ref b184)])) rfl (by rw [hml]; rfl) (Steps.refl _) (a := b184) (argsL := [(.ref b172), (.long p5)]) (rest := [(.ref b184)]) (lenOf pd_31 rfl) rfl (Nat.le_of_eq rfl) (hb hby at_163) (fun _ _ => ⟨rfl, e184, (by decide : 5 + 0 ≤ _), (by decide : 17 + 0 ≤ _)⟩)
   dsimp only [Pt.U, Pt.locs, Pt.cells, Pt.slots] at X187 l187 y187 z187 st187 hQ187
   subst l187 y187 z187
   obtain ⟨rfl, N187q, p187_0, p187_1⟩ := hQ187
   have N187 := Fr.app N177 N187q
   have f187_S_String_COMPACT_STRINGS := own_sta_keep f184_S_String_COMPACT_STRINGS p187_0 (nsS A184.nostat ns0)
   have f187_S_Preconditions_SIOOBE_FORMATTER := own_sta_keep f184_S_Preconditions_SIOOBE_FORMATTER p187_0 (nsS A184.nostat ns0)
   have f187_A_b16 := f184_A_b16.keep p187_0 (ninS ne_b16_b184 nin0)
   have f187_E_b172 := f184_E_b172.keep p187_0
   have f187_F_value_b172 := f184_F_value_b172.keep p187_0 (ninS ne_b172_b184 nin0)
   have f187_F_coder_b172 := f184_F_coder_b172.keep p187_0 (ninS ne_b172_b184 nin0)
   have f187_A_b2_177 := f184_A_b2_177.keep p187_0 (ninS ne_b2_177_b184 nin0)
   have f187_E_b184 := A184.keep p187_0
   have z187 : n0 ≤ T187.heap.size := Nat.le_trans z184 p187_0.1
   have K187 : Keep h0 T187.heap [] := K184.trans p187_0 (allS (Or.inr sz_b184) all0)
   have R188 := fun t k => R186 t (st187.trans k)
   have R189 : own_R p e below T187 (mkF m 170 #[iv p0, iv p1, iv p2, iv p3, iv p4, own_l p5, .second, iv 3, iv r_4, iv r_7, iv r_10, iv r_13, rv b16, rv b172, iv 2, iv 0, rv b184, .unset] [(.ref b184)]) s₁ f0 := fun t k => R188 t (by
    refine XS.astore X187.here hx rfl (hb hby at_166) rfl rfl (l' := #[iv p0, iv p1, iv p2, iv p3, iv p4, own_l p5, .second, iv 3, iv r_4, iv r_7, iv r_10, iv r_13, rv b16, rv b172, iv 2, iv 0, rv b184, .unset]) rfl ?_
    refine XS.aload X187.here hx rfl (hb hby at_168) rfl rfl ?_
    exact k)
   obtain ⟨cq190, kq190, q190a, q190b, q190c⟩ := isOf hZ rfl f187_E_b184
   obtain ⟨_, _, ⟨T190, L190, k190, n190⟩, -, X190, S190, gq190, ⟨Lc190, hQ190, l190, y190, z190⟩, st190⟩ := X187.virtualBackS hx (y := yN2) (z := yN2) hown (mvT hZ (hU 40 _ rfl)) (mvT hZ (hU 41 _ rfl)) (notFace_of_selects (args := #[]) (mvT hZ (hU 43 _ rfl))) (mvT hZ (hU 43 _ rfl)) (mvT hZ (hU 42 _ rfl)) (by decide) (own_backS (s := s) (vm0 := s.vm) (W := 0) (rmNmE l Z a0 hw [] b184 b172 b2_177 kb2_177 (3 : Int32) [(.int (nar .byte ((nar .char r_4).toInt8.toInt32))), (.int (nar .byte ((nar .char r_7).toInt8.toInt32))), (.int (nar .byte ((nar .char r_10).toInt8.toInt32)))] cs sf (2 : Int32) (own_li3 (nar .byte ((nar .char r_4).toInt8.toInt32)) (nar .byte ((nar .char r_7).toInt8.toInt32)) (nar .byte ((nar .char r_10).toInt8.toInt32))) T187.heap n0 z187 f187_E_b184 p187_1 f187_E_b172 f187_F_coder_b172 f187_F_value_b172 f187_A_b2_177 f187_S_String_COMPACT_STRINGS hcs f187_S_Preconditions_SIOOBE_FORMATTER hsf (by decide) (by decide) (by decide) (rmLli3 l Z a0 hw [] b2_177 kb2_177 (nar .byte ((nar .char r_4).toInt8.toInt32)) (nar .byte ((nar .char r_7).toInt8.toInt32)) (nar .byte ((nar .char r_10).toInt8.toInt32)) T187.heap n0 z187 f187_A_b2_177) (own_lk32 (own_b47 hK2))) hZ (hU 44 _ rfl) (hU 31 _ rfl) (by decide) (by decide) hEL (CHv.keep K187 (fun _ h => nomatch h) hCH)) q190a q190c (g := (mkF m 170 #[iv p0, iv p1, iv p2, iv p3, iv p4, own_l p5, .second, iv 3, iv r_4, iv r_7, iv r_10, iv r_13, rv b16, rv b172, iv 2, iv 0, rv b184, .unset] [(.ref b184)])) rfl (by rw [hml]; rfl) (Steps.refl _) (argsL := []) (rest := []) (lenOf pd_32 rfl) rfl (Nat.le_of_eq rfl) (hb hby at_170) (fun _ _ => ⟨rfl, rfl, (by decide : 5 + 2 ≤ _), (by decide : 17 + 4 ≤ _)⟩)
   dsimp only [Pt.U, Pt.locs, Pt.cells, Pt.slots] at X190 l190 y190 z190 st190 hQ190 S190 gq190
   subst l190 y190 z190
   have hZ : Z.Warmed39 (s.setVm T190.vm).vm := State.Warmed39.trans (t := s) hZ S190.1
   have hown : (s.setVm T190.vm).vm.findClass sN1 = some m.cls := by rw [show (s.setVm T190.vm).vm = T190.vm from rfl, S190.1.alike.findClass]; exact hown
   obtain ⟨r_190, b2_190, kb2_190, rfl, N190q, p190_0, p190_1, p190_2, p190_3, p190_4⟩ := hQ190
   have N190 := Fr.app N187 N190q
   have f190_S_String_COMPACT_STRINGS := own_sta_keep f187_S_String_COMPACT_STRINGS p190_0 ns0
   have f190_S_Preconditions_SIOOBE_FORMATTER := own_sta_keep f187_S_Preconditions_SIOOBE_FORMATTER p190_0 ns0
   have f190_A_b16 := f187_A_b16.keep p190_0 nin0
   have f190_E_b172 := f187_E_b172.keep p190_0
   have f190_F_value_b172 := f187_F_value_b172.keep p190_0 nin0
   have f190_F_coder_b172 := f187_F_coder_b172.keep p190_0 nin0
   have f190_A_b2_177 := f187_A_b2_177.keep p190_0 nin0
   have f190_E_b184 := f187_E_b184.keep p190_0
   have f190_F_path_b184 := p187_1.keep p190_0 nin0
   have z190 : n0 ≤ T190.heap.size := Nat.le_trans z187 p190_0.1
   have K190 : Keep h0 T190.heap [] := K187.trans p190_0 all0
   have R191 := fun t k => R189 t (st190.trans k)
   have R192 : own_R p e below T190 (mkF m 177 (fA13 b16 b172 b184 p0 p1 p2 p3 p4 p5 r_10 r_13 r_190 r_4 r_7) [(.ref r_190)]) s₁ f0 := fun t k => R191 t (by
    refine XS.astore X190.here hx rfl (hb hby at_173) rfl rfl (l' := (fA13 b16 b172 b184 p0 p1 p2 p3 p4 p5 r_10 r_13 r_190 r_4 r_7)) rfl ?_
    refine XS.aload X190.here hx rfl (hb hby at_175) rfl rfl ?_
    exact k)
   obtain ⟨cq193, kq193, q193a, q193b, q193c⟩ := isOf hZ rfl p190_1
   obtain ⟨_, _, ⟨T193, L193, k193, n193⟩, -, X193, ⟨Lc193, hQ193, l193, y193, z193⟩, st193⟩ := X190.virtualBack hx (y := yN0) (z := yN0) hown (mvT hZ (hU 100 _ rfl)) (mvT hZ (hU 51 _ rfl)) (notFace_of_selects (args := #[]) (mvT hZ (hU 53 _ rfl))) (mvT hZ (hU 53 _ rfl)) (mvT hZ (hU 52 _ rfl)) (by decide) (backOf (W := 0) (rmLen l Z a0 hw [] r_190 b2_190 kb2_190 (0 : Int32) [] (.int 0) cs T190.heap n0 z190 p190_1 p190_2 p190_3 p190_4 f190_S_String_COMPACT_STRINGS hcs) hZ (hU 54 _ rfl) (hU 7 _ rfl) (by decide) (by decide)) q193a q193c (g := (mkF m 177 (fA13 b16 b172 b184 p0 p1 p2 p3 p4 p5 r_10 r_13 r_190 r_4 r_7) [(.ref r_190)])) rfl (by rw [hml]; rfl) (Steps.refl _) (argsL := []) (rest := []) (lenOf pd_20 rfl) rfl (Nat.le_of_eq rfl) (hb hby at_177) (fun _ _ => ⟨rfl, rfl, (by decide : 7 + 0 ≤ _), (by decide : 21 + 0 ≤ _)⟩)
   dsimp only [Pt.U, Pt.locs, Pt.cells, Pt.slots] at X193 l193 y193 z193 st193 hQ193
   subst l193 y193 z193
   obtain ⟨rfl, N193q, p193_0⟩ := hQ193
   have N193 := Fr.app N190 N193q
   have R194 := fun t k => R192 t (st193.trans k)
   have R195 : own_R p e below T193 (mkF m 180 (fA13 b16 b172 b184 p0 p1 p2 p3 p4 p5 r_10 r_13 r_190 r_4 r_7) [(.int 0)]) s₁ f0 := by have q := R194; rw [((own_sh (0 : Int32)) : ((0 : Int32) >>> ((0 : Int32) &&& 31)) = (0 : Int32))] at q; exact q
   have R196 : own_R p e below T193 (mkF m 283 (fA13 b16 b172 b184 p0 p1 p2 p3 p4 p5 r_10 r_13 r_190 r_4 r_7) [(.int 1)]) s₁ f0 := fun t k => R195 t (by
    refine XS.iload X193.here hx rfl (hb hby at_180) rfl ?_
    refine XS.icmpYes X193.here hx rfl (pc0 := 182) (pc' := 187) rfl (hb hby at_182) rfl (teq (by decide : (0 : Int32) = (0 : Int32))).1 (by decide) (by decide) ?_
    refine XS.iload X193.here hx rfl (hb hby at_187) rfl ?_
    refine XS.ifYes X193.here hx rfl (pc0 := 189) (pc' := 210) rfl (hb hby at_189) rfl ((if0 _ _).trans (flt (by decide : ¬ ((0 : Int32) < (0 : Int32)))).2.2.2) (by decide) (by decide) ?_
    refine XS.iload X193.here hx rfl (hb hby at_210) rfl ?_
    refine XS.iconst X193.here hx rfl (hb hby at_212) ?_
    refine XS.icmpYes X193.here hx rfl (pc0 := 213) (pc' := 234) rfl (hb hby at_213) rfl (flt (by decide : ¬ ((1 : Int32) < (0 : Int32)))).2.2.2 (by decide) (by decide) ?_
    refine XS.iload X193.here hx rfl (hb hby at_234) rfl ?_
    refine XS.iconst X193.here hx rfl (hb hby at_236) ?_
    refine XS.icmpYes X193.here hx rfl (pc0 := 237) (pc' := 258) rfl (hb hby at_237) rfl (flt (by decide : ¬ ((2 : Int32) < (0 : Int32)))).2.2.2 (by decide) (by decide) ?_
    refine XS.iload X193.here hx rfl (hb hby at_258) rfl ?_
    refine XS.iconst X193.here hx rfl (hb hby at_260) ?_
    show own_S p e below T193 (mkF m 261 (fA13 b16 b172 b184 p0 p1 p2 p3 p4 p5 r_10 r_13 r_190 r_4 r_7) [(.int 3), (.int 0)]) _
    refine XS.icmpYes X193.here hx rfl (pc0 := 261) (pc' := 282) rfl (hb hby at_261) rfl (flt (by decide : ¬ ((3 : Int32) < (0 : Int32)))).2.2.2 (by decide) (by decide) ?_
    refine XS.iconst X193.here hx rfl (hb hby at_282) ?_
    exact k)
   obtain ⟨fs, hr, hrun, hended, hend⟩ := X193.leaveW S190 (by rw [p193_0]; exact (Nat.le_refl _)) (v := some (.int 1)) (fun h => by rw [Bd.returns] at h; cases h)
   refine ⟨_, _, pre0 _ (R196 _ ?_), hrun, hended, _, _, rfl, ?_, hend.1, hend.2.1, hend.2.2.1, hend.2.2.2.mono (by decide) (by decide)⟩
   ·
    show own_S p e below T193 (mkF m 283 (fA13 b16 b172 b184 p0 p1 p2 p3 p4 p5 r_10 r_13 r_190 r_4 r_7) [(.int 1)]) _
    exact retN X193 hx (t := .boolean) Bd.returns (by simp) (hb hby at_283) hr
   ·
    show Q_rmLaw Z p0 p1 p2 p3 p4 p5 cs sf h0 n0 _ T193.heap _
    rw [p193_0]
    exact ⟨rfl, N193⟩
  ·
   have R197 : own_R p e below T177 (mkF m 83 (fA12 b16 b172 p0 p1 p2 p3 p4 p5 r_10 r_13 r_4 r_7) []) s₁ f0 := fun t k => R179 t (by
    refine XS.iconst X177.here hx rfl (hb hby at_80) ?_
    refine XS.istore X177.here hx rfl (hb hby at_81) rfl (l' := (fA12 b16 b172 p0 p1 p2 p3 p4 p5 r_10 r_13 r_4 r_7)) rfl ?_
    exact k)
   have R198 : own_R p e below T177 (mkF m 98 #[iv p0, iv p1, iv p2, iv p3, iv p4, own_l p5, .second, iv 3, iv r_4, iv r_7, iv r_10, iv r_13, rv b16, rv b172, iv (if r_4 = (47 : Int32) then (0 : Int32) else (-1 : Int32)), .unset, .unset, .unset] []) s₁ f0 := by
    intro t k
    refine R197 t ?_
    refine XS.iload X177.here hx rfl (hb hby at_83) rfl ?_
    refine XS.ifNo X177.here hx rfl (hb hby at_85) rfl ((if0 _ _).trans (tlt (by decide : (0 : Int32) < (3 : Int32))).2.2.2) ?_
    refine XS.iload X177.here hx rfl (hb hby at_88) rfl ?_
    refine XS.bipush X177.here hx rfl (hb hby at_90) ?_
    by_cases hm1 : r_4 = (47 : Int32)
    ·
     refine XS.icmpNo X177.here hx rfl (hb hby at_92) rfl (teq hm1).2 ?_
     refine XS.iconst X177.here hx rfl (hb hby at_95) ?_
     refine XS.istore X177.here hx rfl (hb hby at_96) rfl (l' := (fA30 b16 b172 p0 p1 p2 p3 p4 p5 r_10 r_13 r_4 r_7)) rfl ?_
     have hv : (if r_4 = (47 : Int32) then (0 : Int32) else (-1 : Int32)) = (0 : Int32) := by simp [hm1]
     rw [hv] at k
     exact k
    ·
     refine XS.icmpYes X177.here hx rfl (pc0 := 92) (pc' := 98) rfl (hb hby at_92) rfl (feq hm1).2 (by decide) (by decide) ?_
     have hv : (if r_4 = (47 : Int32) then (0 : Int32) else (-1 : Int32)) = (-1 : Int32) := by simp [hm1]
     rw [hv] at k
     exact k
   have R199 : own_R p e below T177 (mkF m 155 (fA33 b16 b172 p0 p1 p2 p3 p4 p5 r_10 r_13 r_4 r_7) []) s₁ f0 := fun t k => R198 t (by
    refine XS.iload X177.here hx rfl (hb hby at_98) rfl ?_
    refine XS.iconst X177.here hx rfl (hb hby at_100) ?_
    refine XS.icmpNo X177.here hx rfl (hb hby at_101) rfl (tlt (by decide : (1 : Int32) < (3 : Int32))).2.2.2 ?_
    refine XS.iload X177.here hx rfl (hb hby at_104) rfl ?_
    refine XS.bipush X177.here hx rfl (hb hby at_106) ?_
    refine XS.icmpNo X177.here hx rfl (hb hby at_108) rfl (teq hK1).2 ?_
    refine XS.iconst X177.here hx rfl (hb hby at_111) ?_
    refine XS.istore X177.here hx rfl (hb hby at_112) rfl (l' := #[iv p0, iv p1, iv p2, iv p3, iv p4, own_l p5, .second, iv 3, iv r_4, iv r_7, iv r_10, iv r_13, rv b16, rv b172, iv 1, .unset, .unset, .unset]) rfl ?_
    refine XS.iload X177.here hx rfl (hb hby at_114) rfl ?_
    refine XS.iconst X177.here hx rfl (hb hby at_116) ?_
    refine XS.icmpNo X177.here hx rfl (hb hby at_117) rfl (tlt (by decide : (2 : Int32) < (3 : Int32))).2.2.2 ?_
    refine XS.iload X177.here hx rfl (hb hby at_120) rfl ?_
    show own_S p e below T177 (mkF m 122 #[iv p0, iv p1, iv p2, iv p3, iv p4, own_l p5, .second, iv 3, iv r_4, iv r_7, iv r_10, iv r_13, rv b16, rv b172, iv 1, .unset, .unset, .unset] [(.int r_10)]) _
    refine XS.bipush X177.here hx rfl (hb hby at_122) ?_
    refine XS.icmpYes X177.here hx rfl (pc0 := 124) (pc' := 130) rfl (hb hby at_124) rfl (feq hK2).2 (by decide) (by decide) ?_
    refine XS.iload X177.here hx rfl (hb hby at_130) rfl ?_
    refine XS.iconst X177.here hx rfl (hb hby at_132) ?_
    refine XS.icmpYes X177.here hx rfl (pc0 := 133) (pc' := 146) rfl (hb hby at_133) rfl (flt (by decide : ¬ ((3 : Int32) < (3 : Int32)))).2.2.2 (by decide) (by decide) ?_
    refine XS.iload X177.here hx rfl (hb hby at_146) rfl ?_
    refine XS.iload X177.here hx rfl (hb hby at_148) rfl ?_
    refine XS.isub X177.here hx rfl (hb hby at_150) rfl ?_
    refine XS.iconst X177.here hx rfl (hb hby at_151) ?_
    refine XS.isub X177.here hx rfl (hb hby at_152) rfl ?_
    refine XS.istore X177.here hx rfl (hb hby at_153) rfl (l' := (fA33 b16 b172 p0 p1 p2 p3 p4 p5 r_10 r_13 r_4 r_7)) rfl ?_
    exact k)
   obtain ⟨T200, h200, X200, e200, E200, A200, D200, -, st200⟩ := newO X177 hx hZ hown (hU 29 _ rfl) (hU 30 _ rfl) (hU 31 _ rfl) rfl (g := (mkF m 155 (fA33 b16 b172 p0 p1 p2 p3 p4 p5 r_10 r_13 r_4 r_7) [])) rfl (hb hby at_155) (by decide) (by decide)
   obtain ⟨b200, g200⟩ : ∃ z, z = T177.heap.size := ⟨_, rfl⟩
   rw [← g200] at A200 D200 st200
   have g_b200 : n0 ≤ b200 := Nat.le_trans z177 (Nat.le_of_eq g200.symm)
   have sz_b200 : h0.size ≤ b200 := Nat.le_trans K177.1 (Nat.le_of_eq g200.symm)
   have ne_b16_b200 : b16 ≠ b200 := Nat.ne_of_lt (Nat.lt_of_lt_of_le f177_A_b16.lt (Nat.le_of_eq g200.symm))
   have ne_b172_b200 : b172 ≠ b200 := Nat.ne_of_lt (Nat.lt_of_lt_of_le f177_E_b172.lt (Nat.le_of_eq g200.symm))
   have ne_b2_177_b200 : b2_177 ≠ b200 := Nat.ne_of_lt (Nat.lt_of_lt_of_le p177_3.lt (Nat.le_of_eq g200.symm))
   have f200_S_String_COMPACT_STRINGS := f177_S_String_COMPACT_STRINGS.ext E200
   have f200_S_Preconditions_SIOOBE_FORMATTER := f177_S_Preconditions_SIOOBE_FORMATTER.ext E200
   have f200_A_b16 := f177_A_b16.ext E200
   have f200_E_b172 := f177_E_b172.ext E200
   have f200_F_value_b172 := p177_1.ext E200
   have f200_F_coder_b172 := p177_2.ext E200
   have f200_A_b2_177 := p177_3.ext E200
   have z200 : n0 ≤ h200.size := Nat.le_trans z177 E200.1
   have K200 : Keep h0 h200 [] := K177.ext E200
   have d200_path : Fld Z h200 b200 sN0 "path" "Ljava/lang/String;" .null := D200 (Or.inr (hU 37 _ rfl)) (ty := (.object "java/lang/String")) (by decide)
   have d200_creationZxid : Fld Z h200 b200 sN0 "creationZxid" "J" (.long (0 : Int64)) := D200 (Or.inr (hU 39 _ rfl)) (ty := .long) (by decide)
   have R201 := fun t k => R199 t (st200 t k)
   have R202 : own_R p e below T200 (mkF m 163 (fA33 b16 b172 p0 p1 p2 p3 p4 p5 r_10 r_13 r_4 r_7) [(.long p5), (.ref b172), (.ref b200), (.ref b200)]) s₁ f0 := fun t k => R201 t (by
    refine XS.dup X200.here hx rfl (hb hby at_158) rfl rfl ?_
    refine XS.aload X200.here hx rfl (hb hby at_159) rfl rfl ?_
    refine XS.lload X200.here hx rfl (hb hby at_161) rfl ?_
    exact k)
   obtain ⟨_, _, ⟨T203, L203, k203, n203⟩, -, X203, ⟨Lc203, hQ203, l203, y203, z203⟩, st203⟩ := X200.specialBack hx (y := yN5) rfl hown (mvT hZ (hU 32 _ rfl)) (mvT hZ (hU 33 _ rfl)) (mvT hZ (hU 34 _ rfl)) (by decide) (backOf (W := 1) (rmQni l Z a0 hw [] b200 b172 p5 .null (.long (0 : Int64)) h200 n0 z200 A200 d200_path d200_creationZxid g_b200) hZ (hU 34 _ rfl) (hU 31 _ rfl) (by decide) (by decide)) (g := (mkF m 163 (fA33 b16 b172 p0 p1 p2 p3 p4 p5 r_10 r_13 r_4 r_7) [(.long p5), (.ref b172), (.ref b200), (.ref b200)])) rfl (by rw [hml]; rfl) (Steps.refl _) (a := b200) (argsL := [(.ref b172), (.long p5)]) (rest := [(.ref b200)]) (lenOf pd_31 rfl) rfl (Nat.le_of_eq rfl) (hb hby at_163) (fun _ _ => ⟨rfl, e200, (by decide : 5 + 0 ≤ _), (by decide : 17 + 0 ≤ _)⟩)
   dsimp only [Pt.U, Pt.locs, Pt.cells, Pt.slots] at X203 l203 y203 z203 st203 hQ203
   subst l203 y203 z203
   obtain ⟨rfl, N203q, p203_0, p203_1⟩ := hQ203
   have N203 := Fr.app N177 N203q
   have f203_S_String_COMPACT_STRINGS := own_sta_keep f200_S_String_COMPACT_STRINGS p203_0 (nsS A200.nostat ns0)
   have f203_S_Preconditions_SIOOBE_FORMATTER := own_sta_keep f200_S_Preconditions_SIOOBE_FORMATTER p203_0 (nsS A200.nostat ns0)
   have f203_A_b16 := f200_A_b16.keep p203_0 (ninS ne_b16_b200 nin0)
   have f203_E_b172 := f200_E_b172.keep p203_0
   have f203_F_value_b172 := f200_F_value_b172.keep p203_0 (ninS ne_b172_b200 nin0)
   have f203_F_coder_b172 := f200_F_coder_b172.keep p203_0 (ninS ne_b172_b200 nin0)
   have f203_A_b2_177 := f200_A_b2_177.keep p203_0 (ninS ne_b2_177_b200 nin0)
   have f203_E_b200 := A200.keep p203_0
   have z203 : n0 ≤ T203.heap.size := Nat.le_trans z200 p203_0.1
   have K203 : Keep h0 T203.heap [] := K200.trans p203_0 (allS (Or.inr sz_b200) all0)
   have R204 := fun t k => R202 t (st203.trans k)
   have R205 : own_R p e below T203 (mkF m 170 #[iv p0, iv p1, iv p2, iv p3, iv p4, own_l p5, .second, iv 3, iv r_4, iv r_7, iv r_10, iv r_13, rv b16, rv b172, iv 1, iv 1, rv b200, .unset] [(.ref b200)]) s₁ f0 := fun t k => R204 t (by
    refine XS.astore X203.here hx rfl (hb hby at_166) rfl rfl (l' := #[iv p0, iv p1, iv p2, iv p3, iv p4, own_l p5, .second, iv 3, iv r_4, iv r_7, iv r_10, iv r_13, rv b16, rv b172, iv 1, iv 1, rv b200, .unset]) rfl ?_
    refine XS.aload X203.here hx rfl (hb hby at_168) rfl rfl ?_
    exact k)
   obtain ⟨cq206, kq206, q206a, q206b, q206c⟩ := isOf hZ rfl f203_E_b200
   obtain ⟨_, _, ⟨T206, L206, k206, n206⟩, -, X206, ⟨Lc206, hQ206, l206, y206, z206⟩, st206⟩ := X203.virtualBack hx (y := yN2) (z := yN2) hown (mvT hZ (hU 40 _ rfl)) (mvT hZ (hU 41 _ rfl)) (notFace_of_selects (args := #[]) (mvT hZ (hU 43 _ rfl))) (mvT hZ (hU 43 _ rfl)) (mvT hZ (hU 42 _ rfl)) (by decide) (backOf (W := 0) (rmNmM l Z a0 hw [] b200 b172 b2_177 kb2_177 (3 : Int32) [(.int (nar .byte ((nar .char r_4).toInt8.toInt32))), (.int (nar .byte ((nar .char r_7).toInt8.toInt32))), (.int (nar .byte ((nar .char r_10).toInt8.toInt32)))] cs sf (2 : Int32) (1 : Int32) [(.int (nar .byte ((nar .char r_10).toInt8.toInt32)))] (2 : Int32) (own_li3 (nar .byte ((nar .char r_4).toInt8.toInt32)) (nar .byte ((nar .char r_7).toInt8.toInt32)) (nar .byte ((nar .char r_10).toInt8.toInt32))) T203.heap n0 z203 f203_E_b200 p203_1 f203_E_b172 f203_F_coder_b172 f203_F_value_b172 f203_A_b2_177 f203_S_String_COMPACT_STRINGS hcs f203_S_Preconditions_SIOOBE_FORMATTER hsf (by decide) (by decide) (by decide) (by decide) (by decide) (by decide) (fun h1 z1 A1 => rmCrb32 l Z a0 hw [] b2_177 kb2_177 (nar .byte ((nar .char r_4).toInt8.toInt32)) (nar .byte ((nar .char r_7).toInt8.toInt32)) (nar .byte ((nar .char r_10).toInt8.toInt32)) h1 n0 z1 A1) (by decide) (rmLli3 l Z a0 hw [] b2_177 kb2_177 (nar .byte ((nar .char r_4).toInt8.toInt32)) (nar .byte ((nar .char r_7).toInt8.toInt32)) (nar .byte ((nar .char r_10).toInt8.toInt32)) T203.heap n0 z203 f203_A_b2_177) (own_lk31 (own_n47 p10_1 hK2) (own_b47 hK1))) hZ (hU 44 _ rfl) (hU 31 _ rfl) (by decide) (by decide)) q206a q206c (g := (mkF m 170 #[iv p0, iv p1, iv p2, iv p3, iv p4, own_l p5, .second, iv 3, iv r_4, iv r_7, iv r_10, iv r_13, rv b16, rv b172, iv 1, iv 1, rv b200, .unset] [(.ref b200)])) rfl (by rw [hml]; rfl) (Steps.refl _) (argsL := []) (rest := []) (lenOf pd_32 rfl) rfl (Nat.le_of_eq rfl) (hb hby at_170) (fun _ _ => ⟨rfl, rfl, (by decide : 5 + 2 ≤ _), (by decide : 17 + 7 ≤ _)⟩)
   dsimp only [Pt.U, Pt.locs, Pt.cells, Pt.slots] at X206 l206 y206 z206 st206 hQ206
   subst l206 y206 z206
   obtain ⟨r_206, b2_206, kb2_206, rfl, N206q, p206_0, p206_1, p206_2, p206_3, p206_4, p206_5, p206_6⟩ := hQ206
   have N206 := Fr.app N203 N206q
   have f206_S_String_COMPACT_STRINGS := own_sta_keep f203_S_String_COMPACT_STRINGS p206_0 ns0
   have f206_S_Preconditions_SIOOBE_FORMATTER := own_sta_keep f203_S_Preconditions_SIOOBE_FORMATTER p206_0 ns0
   have f206_A_b16 := f203_A_b16.keep p206_0 nin0
   have f206_E_b172 := f203_E_b172.keep p206_0
   have f206_F_value_b172 := f203_F_value_b172.keep p206_0 nin0
   have f206_F_coder_b172 := f203_F_coder_b172.keep p206_0 nin0
   have f206_A_b2_177 := f203_A_b2_177.keep p206_0 nin0
   have f206_E_b200 := f203_E_b200.keep p206_0
   have f206_F_path_b200 := p203_1.keep p206_0 nin0
   have z206 : n0 ≤ T206.heap.size := Nat.le_trans z203 p206_0.1
   have K206 : Keep h0 T206.heap [] := K203.trans p206_0 all0
   have g_r_206 : n0 ≤ r_206 := Nat.le_trans z203 p206_5
   have sz_r_206 : h0.size ≤ r_206 := Nat.le_trans K203.1 p206_5
   have ne_b16_r_206 : b16 ≠ r_206 := Nat.ne_of_lt (Nat.lt_of_lt_of_le f203_A_b16.lt p206_5)
   have ne_b172_r_206 : b172 ≠ r_206 := Nat.ne_of_lt (Nat.lt_of_lt_of_le f203_F_value_b172.lt p206_5)
   have ne_b2_177_r_206 : b2_177 ≠ r_206 := Nat.ne_of_lt (Nat.lt_of_lt_of_le f203_A_b2_177.lt p206_5)
   have ne_b200_r_206 : b200 ≠ r_206 := Nat.ne_of_lt (Nat.lt_of_lt_of_le p203_1.lt p206_5)
   have g_b2_206 : n0 ≤ b2_206 := Nat.le_trans z203 p206_6
   have sz_b2_206 : h0.size ≤ b2_206 := Nat.le_trans K203.1 p206_6
   have ne_b16_b2_206 : b16 ≠ b2_206 := Nat.ne_of_lt (Nat.lt_of_lt_of_le f203_A_b16.lt p206_6)
   have ne_b172_b2_206 : b172 ≠ b2_206 := Nat.ne_of_lt (Nat.lt_of_lt_of_le f203_F_value_b172.lt p206_6)
   have ne_b2_177_b2_206 : b2_177 ≠ b2_206 := Nat.ne_of_lt (Nat.lt_of_lt_of_le f203_A_b2_177.lt p206_6)
   have ne_b200_b2_206 : b200 ≠ b2_206 := Nat.ne_of_lt (Nat.lt_of_lt_of_le p203_1.lt p206_6)
   have R207 := fun t k => R205 t (st206.trans k)
   have R208 : own_R p e below T206 (mkF m 177 (fA6 b16 b172 b200 p0 p1 p2 p3 p4 p5 r_10 r_13 r_206 r_4 r_7) [(.ref r_206)]) s₁ f0 := fun t k => R207 t (by
    refine XS.astore X206.here hx rfl (hb hby at_173) rfl rfl (l' := (fA6 b16 b172 b200 p0 p1 p2 p3 p4 p5 r_10 r_13 r_206 r_4 r_7)) rfl ?_
    refine XS.aload X206.here hx rfl (hb hby at_175) rfl rfl ?_
    exact k)
   obtain ⟨cq209, kq209, q209a, q209b, q209c⟩ := isOf hZ rfl p206_1
   obtain ⟨_, _, ⟨T209, L209, k209, n209⟩, -, X209, ⟨Lc209, hQ209, l209, y209, z209⟩, st209⟩ := X206.virtualBack hx (y := yN0) (z := yN0) hown (mvT hZ (hU 100 _ rfl)) (mvT hZ (hU 51 _ rfl)) (notFace_of_selects (args := #[]) (mvT hZ (hU 53 _ rfl))) (mvT hZ (hU 53 _ rfl)) (mvT hZ (hU 52 _ rfl)) (by decide) (backOf (W := 0) (rmLen l Z a0 hw [] r_206 b2_206 kb2_206 (1 : Int32) [(.int (nar .byte ((nar .char r_10).toInt8.toInt32)))] (.int 0) cs T206.heap n0 z206 p206_1 p206_2 p206_3 p206_4 f206_S_String_COMPACT_STRINGS hcs) hZ (hU 54 _ rfl) (hU 7 _ rfl) (by decide) (by decide)) q209a q209c (g := (mkF m 177 (fA6 b16 b172 b200 p0 p1 p2 p3 p4 p5 r_10 r_13 r_206 r_4 r_7) [(.ref r_206)])) rfl (by rw [hml]; rfl) (Steps.refl _) (argsL := []) (rest := []) (lenOf pd_20 rfl) rfl (Nat.le_of_eq rfl) (hb hby at_177) (fun _ _ => ⟨rfl, rfl, (by decide : 7 + 0 ≤ _), (by decide : 24 + 0 ≤ _)⟩)
   dsimp only [Pt.U, Pt.locs, Pt.cells, Pt.slots] at X209 l209 y209 z209 st209 hQ209
   subst l209 y209 z209
   obtain ⟨rfl, N209q, p209_0⟩ := hQ209
   have N209 := Fr.app N206 N209q
   have R210 := fun t k => R208 t (st209.trans k)
   have R211 : own_R p e below T209 (mkF m 180 (fA6 b16 b172 b200 p0 p1 p2 p3 p4 p5 r_10 r_13 r_206 r_4 r_7) [(.int 1)]) s₁ f0 := by have q := R210; rw [((own_sh (1 : Int32)) : ((1 : Int32) >>> ((0 : Int32) &&& 31)) = (1 : Int32))] at q; exact q
   have R212 : own_R p e below T209 (mkF m 195 (fA6 b16 b172 b200 p0 p1 p2 p3 p4 p5 r_10 r_13 r_206 r_4 r_7) [(.int 0), (.ref r_206)]) s₁ f0 := fun t k => R211 t (by
    refine XS.iload X209.here hx rfl (hb hby at_180) rfl ?_
    refine XS.icmpYes X209.here hx rfl (pc0 := 182) (pc' := 187) rfl (hb hby at_182) rfl (teq (by decide : (1 : Int32) = (1 : Int32))).1 (by decide) (by decide) ?_
    refine XS.iload X209.here hx rfl (hb hby at_187) rfl ?_
    refine XS.ifNo X209.here hx rfl (hb hby at_189) rfl ((if0 _ _).trans (tlt (by decide : (0 : Int32) < (1 : Int32))).2.2.2) ?_
    refine XS.aload X209.here hx rfl (hb hby at_192) rfl rfl ?_
    refine XS.iconst X209.here hx rfl (hb hby at_194) ?_
    exact k)
   obtain ⟨cq213, kq213, q213a, q213b, q213c⟩ := isOf hZ p209_0 p206_1
   obtain ⟨_, _, ⟨T213, L213, k213, n213⟩, -, X213, ⟨Lc213, hQ213, l213, y213, z213⟩, st213⟩ := X209.virtualBack hx (y := yN1) (z := yN1) hown (mvT hZ (hU 111 _ rfl)) (mvT hZ (hU 112 _ rfl)) (notFace_of_selects (args := #[]) (mvT hZ (hU 114 _ rfl))) (mvT hZ (hU 114 _ rfl)) (mvT hZ (hU 113 _ rfl)) (by decide) (backOf (W := 0) (rmCa l Z a0 hw [] r_206 (0 : Int32) b2_206 kb2_206 (1 : Int32) [(.int (nar .byte ((nar .char r_10).toInt8.toInt32)))] (.int 0) (nar .byte ((nar .char r_10).toInt8.toInt32)) cs sf T206.heap n0 z206 p206_1 p206_2 p206_3 p206_4 f206_S_String_COMPACT_STRINGS hcs f206_S_Preconditions_SIOOBE_FORMATTER hsf (by decide) (by decide) rfl) hZ (hU 115 _ rfl) (hU 7 _ rfl) (by decide) (by decide)) q213a q213c (g := (mkF m 195 (fA6 b16 b172 b200 p0 p1 p2 p3 p4 p5 r_10 r_13 r_206 r_4 r_7) [(.int 0), (.ref r_206)])) rfl (by rw [hml]; rfl) (Steps.refl _) (argsL := [(.int 0)]) (rest := []) (lenOf pd_28 rfl) rfl (Nat.le_of_eq rfl) (hb hby at_195) (fun _ _ => ⟨rfl, p209_0, (by decide : 7 + 0 ≤ _), (by decide : 24 + 0 ≤ _)⟩)
   dsimp only [Pt.U, Pt.locs, Pt.cells, Pt.slots] at X213 l213 y213 z213 st213 hQ213
   subst l213 y213 z213
   obtain ⟨rfl, N213q, p213_0⟩ := hQ213
   have N213 := Fr.app N209 N213q
   have R214 := fun t k => R212 t (st213.trans k)
   have R215 : own_R p e below T213 (mkF m 198 (fA6 b16 b172 b200 p0 p1 p2 p3 p4 p5 r_10 r_13 r_206 r_4 r_7) [(.int (nar .char r_10))]) s₁ f0 := by have q := R214; rw [((own_chb p10_1) : (own_ch (nar .byte ((nar .char r_10).toInt8.toInt32))) = (nar .char r_10))] at q; exact q
   have R216 : own_R p e below T213 (mkF m 204 (fA6 b16 b172 b200 p0 p1 p2 p3 p4 p5 r_10 r_13 r_206 r_4 r_7) [(.int 2), (.ref b16), (.int (nar .char r_10))]) s₁ f0 := fun t k => R215 t (by
    refine XS.aload X213.here hx rfl (hb hby at_198) rfl rfl ?_
    refine XS.iload X213.here hx rfl (hb hby at_200) rfl ?_
    refine XS.iconst X213.here hx rfl (hb hby at_202) ?_
    refine XS.iadd X213.here hx rfl (hb hby at_203) rfl ?_
    exact k)
   obtain ⟨cl217, Ar217, q217, S217, n217_, H217, G217⟩ := id f206_A_b16
   have hin217 : ¬ ((2 : Int32) < 0 ∨ cl217.slots.size ≤ ((2 : Int32)).toNatClampNeg) := inb_of S217 ⟨by decide, by decide⟩
   have hat217 : cl217.slots[((2 : Int32)).toNatClampNeg]? = some (.int (nar .char r_10)) := Has.at H217 hin217 rfl
   have R218 : own_R p e below T213 (mkF m 205 (fA6 b16 b172 b200 p0 p1 p2 p3 p4 p5 r_10 r_13 r_206 r_4 r_7) [(.int (nar .char r_10)), (.int (nar .char r_10))]) s₁ f0 := fun t k => R216 t (X213.caload hx (j := (2 : Int32)) (v := (.int (nar .char r_10))) (by rw [p213_0]; exact Ar217.1) (State.isArrayOf_alike hZ.alike Ar217.2.1) Ar217.2.2 hin217 hat217 (g := (mkF m 204 (fA6 b16 b172 b200 p0 p1 p2 p3 p4 p5 r_10 r_13 r_206 r_4 r_7) [(.int 2), (.ref b16), (.int (nar .char r_10))])) rfl rfl (hb hby at_204) _ k)
   have R219 : own_R p e below T213 (mkF m 283 (fA6 b16 b172 b200 p0 p1 p2 p3 p4 p5 r_10 r_13 r_206 r_4 r_7) [(.int 1)]) s₁ f0 := fun t k => R218 t (by
    refine XS.icmpYes X213.here hx rfl (pc0 := 205) (pc' := 210) rfl (hb hby at_205) rfl (teq rfl).1 (by decide) (by decide) ?_
    refine XS.iload X213.here hx rfl (hb hby at_210) rfl ?_
    refine XS.iconst X213.here hx rfl (hb hby at_212) ?_
    refine XS.icmpYes X213.here hx rfl (pc0 := 213) (pc' := 234) rfl (hb hby at_213) rfl (flt (by decide : ¬ ((1 : Int32) < (1 : Int32)))).2.2.2 (by decide) (by decide) ?_
    refine XS.iload X213.here hx rfl (hb hby at_234) rfl ?_
    refine XS.iconst X213.here hx rfl (hb hby at_236) ?_
    refine XS.icmpYes X213.here hx rfl (pc0 := 237) (pc' := 258) rfl (hb hby at_237) rfl (flt (by decide : ¬ ((2 : Int32) < (1 : Int32)))).2.2.2 (by decide) (by decide) ?_
    refine XS.iload X213.here hx rfl (hb hby at_258) rfl ?_
    refine XS.iconst X213.here hx rfl (hb hby at_260) ?_
    refine XS.icmpYes X213.here hx rfl (pc0 := 261) (pc' := 282) rfl (hb hby at_261) rfl (flt (by decide : ¬ ((3 : Int32) < (1 : Int32)))).2.2.2 (by decide) (by decide) ?_
    refine XS.iconst X213.here hx rfl (hb hby at_282) ?_
    exact k)
   obtain ⟨fs, hr, hrun, hended, hW, hsame⟩ := X213.leave (v := some (.int 1)) (fun h => by rw [Bd.returns] at h; cases h)
   have hend := ReturnedEndW.of_narrow (o := Outcome.returned (some (.int 1))) ⟨_, rfl⟩ hW hsame
   refine ⟨_, _, pre0 _ (R219 _ ?_), hrun, hended, _, _, rfl, ?_, hend.1, hend.2.1, hend.2.2.1, hend.2.2.2.mono (by decide) (by decide)⟩
   ·
    show own_S p e below T213 (mkF m 283 (fA6 b16 b172 b200 p0 p1 p2 p3 p4 p5 r_10 r_13 r_206 r_4 r_7) [(.int 1)]) _
    exact retN X213 hx (t := .boolean) Bd.returns (by simp) (hb hby at_283) hr
   ·
    show Q_rmLaw Z p0 p1 p2 p3 p4 p5 cs sf h0 n0 _ T213.heap _
    rw [p213_0]
    exact ⟨rfl, N213⟩
  ·
   have R220 : own_R p e below T177 (mkF m 155 (fA34 b16 b172 p0 p1 p2 p3 p4 p5 r_10 r_13 r_4 r_7) []) s₁ f0 := fun t k => R179 t (by
    refine XS.iconst X177.here hx rfl (hb hby at_80) ?_
    refine XS.istore X177.here hx rfl (hb hby at_81) rfl (l' := (fA12 b16 b172 p0 p1 p2 p3 p4 p5 r_10 r_13 r_4 r_7)) rfl ?_
    refine XS.iload X177.here hx rfl (hb hby at_83) rfl ?_
    refine XS.ifNo X177.here hx rfl (hb hby at_85) rfl ((if0 _ _).trans (tlt (by decide : (0 : Int32) < (3 : Int32))).2.2.2) ?_
    refine XS.iload X177.here hx rfl (hb hby at_88) rfl ?_
    refine XS.bipush X177.here hx rfl (hb hby at_90) ?_
    refine XS.icmpNo X177.here hx rfl (hb hby at_92) rfl (teq hK0).2 ?_
    refine XS.iconst X177.here hx rfl (hb hby at_95) ?_
    refine XS.istore X177.here hx rfl (hb hby at_96) rfl (l' := (fA30 b16 b172 p0 p1 p2 p3 p4 p5 r_10 r_13 r_4 r_7)) rfl ?_
    refine XS.iload X177.here hx rfl (hb hby at_98) rfl ?_
    refine XS.iconst X177.here hx rfl (hb hby at_100) ?_
    refine XS.icmpNo X177.here hx rfl (hb hby at_101) rfl (tlt (by decide : (1 : Int32) < (3 : Int32))).2.2.2 ?_
    show own_S p e below T177 (mkF m 104 (fA30 b16 b172 p0 p1 p2 p3 p4 p5 r_10 r_13 r_4 r_7) []) _
    refine XS.iload X177.here hx rfl (hb hby at_104) rfl ?_
    refine XS.bipush X177.here hx rfl (hb hby at_106) ?_
    refine XS.icmpYes X177.here hx rfl (pc0 := 108) (pc' := 114) rfl (hb hby at_108) rfl (feq hK1).2 (by decide) (by decide) ?_
    refine XS.iload X177.here hx rfl (hb hby at_114) rfl ?_
    refine XS.iconst X177.here hx rfl (hb hby at_116) ?_
    refine XS.icmpNo X177.here hx rfl (hb hby at_117) rfl (tlt (by decide : (2 : Int32) < (3 : Int32))).2.2.2 ?_
    refine XS.iload X177.here hx rfl (hb hby at_120) rfl ?_
    refine XS.bipush X177.here hx rfl (hb hby at_122) ?_
    refine XS.icmpYes X177.here hx rfl (pc0 := 124) (pc' := 130) rfl (hb hby at_124) rfl (feq hK2).2 (by decide) (by decide) ?_
    refine XS.iload X177.here hx rfl (hb hby at_130) rfl ?_
    refine XS.iconst X177.here hx rfl (hb hby at_132) ?_
    refine XS.icmpYes X177.here hx rfl (pc0 := 133) (pc' := 146) rfl (hb hby at_133) rfl (flt (by decide : ¬ ((3 : Int32) < (3 : Int32)))).2.2.2 (by decide) (by decide) ?_
    show own_S p e below T177 (mkF m 146 (fA30 b16 b172 p0 p1 p2 p3 p4 p5 r_10 r_13 r_4 r_7) []) _
    refine XS.iload X177.here hx rfl (hb hby at_146) rfl ?_
    refine XS.iload X177.here hx rfl (hb hby at_148) rfl ?_
    refine XS.isub X177.here hx rfl (hb hby at_150) rfl ?_
    refine XS.iconst X177.here hx rfl (hb hby at_151) ?_
    refine XS.isub X177.here hx rfl (hb hby at_152) rfl ?_
    refine XS.istore X177.here hx rfl (hb hby at_153) rfl (l' := (fA34 b16 b172 p0 p1 p2 p3 p4 p5 r_10 r_13 r_4 r_7)) rfl ?_
    exact k)
   obtain ⟨T221, h221, X221, e221, E221, A221, D221, -, st221⟩ := newO X177 hx hZ hown (hU 29 _ rfl) (hU 30 _ rfl) (hU 31 _ rfl) rfl (g := (mkF m 155 (fA34 b16 b172 p0 p1 p2 p3 p4 p5 r_10 r_13 r_4 r_7) [])) rfl (hb hby at_155) (by decide) (by decide)
   obtain ⟨b221, g221⟩ : ∃ z, z = T177.heap.size := ⟨_, rfl⟩
   rw [← g221] at A221 D221 st221
   have g_b221 : n0 ≤ b221 := Nat.le_trans z177 (Nat.le_of_eq g221.symm)
   have sz_b221 : h0.size ≤ b221 := Nat.le_trans K177.1 (Nat.le_of_eq g221.symm)
   have ne_b16_b221 : b16 ≠ b221 := Nat.ne_of_lt (Nat.lt_of_lt_of_le f177_A_b16.lt (Nat.le_of_eq g221.symm))
   have ne_b172_b221 : b172 ≠ b221 := Nat.ne_of_lt (Nat.lt_of_lt_of_le f177_E_b172.lt (Nat.le_of_eq g221.symm))
   have ne_b2_177_b221 : b2_177 ≠ b221 := Nat.ne_of_lt (Nat.lt_of_lt_of_le p177_3.lt (Nat.le_of_eq g221.symm))
   have f221_S_String_COMPACT_STRINGS := f177_S_String_COMPACT_STRINGS.ext E221
   have f221_S_Preconditions_SIOOBE_FORMATTER := f177_S_Preconditions_SIOOBE_FORMATTER.ext E221
   have f221_A_b16 := f177_A_b16.ext E221
   have f221_E_b172 := f177_E_b172.ext E221
   have f221_F_value_b172 := p177_1.ext E221
   have f221_F_coder_b172 := p177_2.ext E221
   have f221_A_b2_177 := p177_3.ext E221
   have z221 : n0 ≤ h221.size := Nat.le_trans z177 E221.1
   have K221 : Keep h0 h221 [] := K177.ext E221
   have d221_path : Fld Z h221 b221 sN0 "path" "Ljava/lang/String;" .null := D221 (Or.inr (hU 37 _ rfl)) (ty := (.object "java/lang/String")) (by decide)
   have d221_creationZxid : Fld Z h221 b221 sN0 "creationZxid" "J" (.long (0 : Int64)) := D221 (Or.inr (hU 39 _ rfl)) (ty := .long) (by decide)
   have R222 := fun t k => R220 t (st221 t k)
   have R223 : own_R p e below T221 (mkF m 163 (fA34 b16 b172 p0 p1 p2 p3 p4 p5 r_10 r_13 r_4 r_7) [(.long p5), (.ref b172), (.ref b221), (.ref b221)]) s₁ f0 := fun t k => R222 t (by
    refine XS.dup X221.here hx rfl (hb hby at_158) rfl rfl ?_
    refine XS.aload X221.here hx rfl (hb hby at_159) rfl rfl ?_
    refine XS.lload X221.here hx rfl (hb hby at_161) rfl ?_
    exact k)
   obtain ⟨_, _, ⟨T224, L224, k224, n224⟩, -, X224, ⟨Lc224, hQ224, l224, y224, z224⟩, st224⟩ := X221.specialBack hx (y := yN5) rfl hown (mvT hZ (hU 32 _ rfl)) (mvT hZ (hU 33 _ rfl)) (mvT hZ (hU 34 _ rfl)) (by decide) (backOf (W := 1) (rmQni l Z a0 hw [] b221 b172 p5 .null (.long (0 : Int64)) h221 n0 z221 A221 d221_path d221_creationZxid g_b221) hZ (hU 34 _ rfl) (hU 31 _ rfl) (by decide) (by decide)) (g := (mkF m 163 (fA34 b16 b172 p0 p1 p2 p3 p4 p5 r_10 r_13 r_4 r_7) [(.long p5), (.ref b172), (.ref b221), (.ref b221)])) rfl (by rw [hml]; rfl) (Steps.refl _) (a := b221) (argsL := [(.ref b172), (.long p5)]) (rest := [(.ref b221)]) (lenOf pd_31 rfl) rfl (Nat.le_of_eq rfl) (hb hby at_163) (fun _ _ => ⟨rfl, e221, (by decide : 5 + 0 ≤ _), (by decide : 17 + 0 ≤ _)⟩)
   dsimp only [Pt.U, Pt.locs, Pt.cells, Pt.slots] at X224 l224 y224 z224 st224 hQ224
   subst l224 y224 z224
   obtain ⟨rfl, N224q, p224_0, p224_1⟩ := hQ224
   have N224 := Fr.app N177 N224q
   have f224_S_String_COMPACT_STRINGS := own_sta_keep f221_S_String_COMPACT_STRINGS p224_0 (nsS A221.nostat ns0)
   have f224_S_Preconditions_SIOOBE_FORMATTER := own_sta_keep f221_S_Preconditions_SIOOBE_FORMATTER p224_0 (nsS A221.nostat ns0)
   have f224_A_b16 := f221_A_b16.keep p224_0 (ninS ne_b16_b221 nin0)
   have f224_E_b172 := f221_E_b172.keep p224_0
   have f224_F_value_b172 := f221_F_value_b172.keep p224_0 (ninS ne_b172_b221 nin0)
   have f224_F_coder_b172 := f221_F_coder_b172.keep p224_0 (ninS ne_b172_b221 nin0)
   have f224_A_b2_177 := f221_A_b2_177.keep p224_0 (ninS ne_b2_177_b221 nin0)
   have f224_E_b221 := A221.keep p224_0
   have z224 : n0 ≤ T224.heap.size := Nat.le_trans z221 p224_0.1
   have K224 : Keep h0 T224.heap [] := K221.trans p224_0 (allS (Or.inr sz_b221) all0)
   have R225 := fun t k => R223 t (st224.trans k)
   have R226 : own_R p e below T224 (mkF m 170 #[iv p0, iv p1, iv p2, iv p3, iv p4, own_l p5, .second, iv 3, iv r_4, iv r_7, iv r_10, iv r_13, rv b16, rv b172, iv 0, iv 2, rv b221, .unset] [(.ref b221)]) s₁ f0 := fun t k => R225 t (by
    refine XS.astore X224.here hx rfl (hb hby at_166) rfl rfl (l' := #[iv p0, iv p1, iv p2, iv p3, iv p4, own_l p5, .second, iv 3, iv r_4, iv r_7, iv r_10, iv r_13, rv b16, rv b172, iv 0, iv 2, rv b221, .unset]) rfl ?_
    refine XS.aload X224.here hx rfl (hb hby at_168) rfl rfl ?_
    exact k)
   obtain ⟨cq227, kq227, q227a, q227b, q227c⟩ := isOf hZ rfl f224_E_b221
   obtain ⟨_, _, ⟨T227, L227, k227, n227⟩, -, X227, ⟨Lc227, hQ227, l227, y227, z227⟩, st227⟩ := X224.virtualBack hx (y := yN2) (z := yN2) hown (mvT hZ (hU 40 _ rfl)) (mvT hZ (hU 41 _ rfl)) (notFace_of_selects (args := #[]) (mvT hZ (hU 43 _ rfl))) (mvT hZ (hU 43 _ rfl)) (mvT hZ (hU 42 _ rfl)) (by decide) (backOf (W := 0) (rmNmM l Z a0 hw [] b221 b172 b2_177 kb2_177 (3 : Int32) [(.int (nar .byte ((nar .char r_4).toInt8.toInt32))), (.int (nar .byte ((nar .char r_7).toInt8.toInt32))), (.int (nar .byte ((nar .char r_10).toInt8.toInt32)))] cs sf (1 : Int32) (2 : Int32) [(.int (nar .byte ((nar .char r_7).toInt8.toInt32))), (.int (nar .byte ((nar .char r_10).toInt8.toInt32)))] (2 : Int32) (own_li3 (nar .byte ((nar .char r_4).toInt8.toInt32)) (nar .byte ((nar .char r_7).toInt8.toInt32)) (nar .byte ((nar .char r_10).toInt8.toInt32))) T224.heap n0 z224 f224_E_b221 p224_1 f224_E_b172 f224_F_coder_b172 f224_F_value_b172 f224_A_b2_177 f224_S_String_COMPACT_STRINGS hcs f224_S_Preconditions_SIOOBE_FORMATTER hsf (by decide) (by decide) (by decide) (by decide) (by decide) (by decide) (fun h1 z1 A1 => rmCrb31 l Z a0 hw [] b2_177 kb2_177 (nar .byte ((nar .char r_4).toInt8.toInt32)) (nar .byte ((nar .char r_7).toInt8.toInt32)) (nar .byte ((nar .char r_10).toInt8.toInt32)) h1 n0 z1 A1) (by decide) (rmLli3 l Z a0 hw [] b2_177 kb2_177 (nar .byte ((nar .char r_4).toInt8.toInt32)) (nar .byte ((nar .char r_7).toInt8.toInt32)) (nar .byte ((nar .char r_10).toInt8.toInt32)) T224.heap n0 z224 f224_A_b2_177) (own_lk30 (own_n47 p10_1 hK2) (own_n47 p7_1 hK1) (own_b47 hK0))) hZ (hU 44 _ rfl) (hU 31 _ rfl) (by decide) (by decide)) q227a q227c (g := (mkF m 170 #[iv p0, iv p1, iv p2, iv p3, iv p4, own_l p5, .second, iv 3, iv r_4, iv r_7, iv r_10, iv r_13, rv b16, rv b172, iv 0, iv 2, rv b221, .unset] [(.ref b221)])) rfl (by rw [hml]; rfl) (Steps.refl _) (argsL := []) (rest := []) (lenOf pd_32 rfl) rfl (Nat.le_of_eq rfl) (hb hby at_170) (fun _ _ => ⟨rfl, rfl, (by decide : 5 + 2 ≤ _), (by decide : 17 + 7 ≤ _)⟩)
   dsimp only [Pt.U, Pt.locs, Pt.cells, Pt.slots] at X227 l227 y227 z227 st227 hQ227
   subst l227 y227 z227
   obtain ⟨r_227, b2_227, kb2_227, rfl, N227q, p227_0, p227_1, p227_2, p227_3, p227_4, p227_5, p227_6⟩ := hQ227
   have N227 := Fr.app N224 N227q
   have f227_S_String_COMPACT_STRINGS := own_sta_keep f224_S_String_COMPACT_STRINGS p227_0 ns0
   have f227_S_Preconditions_SIOOBE_FORMATTER := own_sta_keep f224_S_Preconditions_SIOOBE_FORMATTER p227_0 ns0
   have f227_A_b16 := f224_A_b16.keep p227_0 nin0
   have f227_E_b172 := f224_E_b172.keep p227_0
   have f227_F_value_b172 := f224_F_value_b172.keep p227_0 nin0
   have f227_F_coder_b172 := f224_F_coder_b172.keep p227_0 nin0
   have f227_A_b2_177 := f224_A_b2_177.keep p227_0 nin0
   have f227_E_b221 := f224_E_b221.keep p227_0
   have f227_F_path_b221 := p224_1.keep p227_0 nin0
   have z227 : n0 ≤ T227.heap.size := Nat.le_trans z224 p227_0.1
   have K227 : Keep h0 T227.heap [] := K224.trans p227_0 all0
   have g_r_227 : n0 ≤ r_227 := Nat.le_trans z224 p227_5
   have sz_r_227 : h0.size ≤ r_227 := Nat.le_trans K224.1 p227_5
   have ne_b16_r_227 : b16 ≠ r_227 := Nat.ne_of_lt (Nat.lt_of_lt_of_le f224_A_b16.lt p227_5)
   have ne_b172_r_227 : b172 ≠ r_227 := Nat.ne_of_lt (Nat.lt_of_lt_of_le f224_F_value_b172.lt p227_5)
   have ne_b2_177_r_227 : b2_177 ≠ r_227 := Nat.ne_of_lt (Nat.lt_of_lt_of_le f224_A_b2_177.lt p227_5)
   have ne_b221_r_227 : b221 ≠ r_227 := Nat.ne_of_lt (Nat.lt_of_lt_of_le p224_1.lt p227_5)
   have g_b2_227 : n0 ≤ b2_227 := Nat.le_trans z224 p227_6
   have sz_b2_227 : h0.size ≤ b2_227 := Nat.le_trans K224.1 p227_6
   have ne_b16_b2_227 : b16 ≠ b2_227 := Nat.ne_of_lt (Nat.lt_of_lt_of_le f224_A_b16.lt p227_6)
   have ne_b172_b2_227 : b172 ≠ b2_227 := Nat.ne_of_lt (Nat.lt_of_lt_of_le f224_F_value_b172.lt p227_6)
   have ne_b2_177_b2_227 : b2_177 ≠ b2_227 := Nat.ne_of_lt (Nat.lt_of_lt_of_le f224_A_b2_177.lt p227_6)
   have ne_b221_b2_227 : b221 ≠ b2_227 := Nat.ne_of_lt (Nat.lt_of_lt_of_le p224_1.lt p227_6)
   have R228 := fun t k => R226 t (st227.trans k)
   have R229 : own_R p e below T227 (mkF m 177 (fA4 b16 b172 b221 p0 p1 p2 p3 p4 p5 r_10 r_13 r_227 r_4 r_7) [(.ref r_227)]) s₁ f0 := fun t k => R228 t (by
    refine XS.astore X227.here hx rfl (hb hby at_173) rfl rfl (l' := (fA4 b16 b172 b221 p0 p1 p2 p3 p4 p5 r_10 r_13 r_227 r_4 r_7)) rfl ?_
    refine XS.aload X227.here hx rfl (hb hby at_175) rfl rfl ?_
    exact k)
   obtain ⟨cq230, kq230, q230a, q230b, q230c⟩ := isOf hZ rfl p227_1
   obtain ⟨_, _, ⟨T230, L230, k230, n230⟩, -, X230, ⟨Lc230, hQ230, l230, y230, z230⟩, st230⟩ := X227.virtualBack hx (y := yN0) (z := yN0) hown (mvT hZ (hU 100 _ rfl)) (mvT hZ (hU 51 _ rfl)) (notFace_of_selects (args := #[]) (mvT hZ (hU 53 _ rfl))) (mvT hZ (hU 53 _ rfl)) (mvT hZ (hU 52 _ rfl)) (by decide) (backOf (W := 0) (rmLen l Z a0 hw [] r_227 b2_227 kb2_227 (2 : Int32) [(.int (nar .byte ((nar .char r_7).toInt8.toInt32))), (.int (nar .byte ((nar .char r_10).toInt8.toInt32)))] (.int 0) cs T227.heap n0 z227 p227_1 p227_2 p227_3 p227_4 f227_S_String_COMPACT_STRINGS hcs) hZ (hU 54 _ rfl) (hU 7 _ rfl) (by decide) (by decide)) q230a q230c (g := (mkF m 177 (fA4 b16 b172 b221 p0 p1 p2 p3 p4 p5 r_10 r_13 r_227 r_4 r_7) [(.ref r_227)])) rfl (by rw [hml]; rfl) (Steps.refl _) (argsL := []) (rest := []) (lenOf pd_20 rfl) rfl (Nat.le_of_eq rfl) (hb hby at_177) (fun _ _ => ⟨rfl, rfl, (by decide : 7 + 0 ≤ _), (by decide : 24 + 0 ≤ _)⟩)
   dsimp only [Pt.U, Pt.locs, Pt.cells, Pt.slots] at X230 l230 y230 z230 st230 hQ230
   subst l230 y230 z230
   obtain ⟨rfl, N230q, p230_0⟩ := hQ230
   have N230 := Fr.app N227 N230q
   have R231 := fun t k => R229 t (st230.trans k)
   have R232 : own_R p e below T230 (mkF m 180 (fA4 b16 b172 b221 p0 p1 p2 p3 p4 p5 r_10 r_13 r_227 r_4 r_7) [(.int 2)]) s₁ f0 := by have q := R231; rw [((own_sh (2 : Int32)) : ((2 : Int32) >>> ((0 : Int32) &&& 31)) = (2 : Int32))] at q; exact q
   have R233 : own_R p e below T230 (mkF m 195 (fA4 b16 b172 b221 p0 p1 p2 p3 p4 p5 r_10 r_13 r_227 r_4 r_7) [(.int 0), (.ref r_227)]) s₁ f0 := fun t k => R232 t (by
    refine XS.iload X230.here hx rfl (hb hby at_180) rfl ?_
    refine XS.icmpYes X230.here hx rfl (pc0 := 182) (pc' := 187) rfl (hb hby at_182) rfl (teq (by decide : (2 : Int32) = (2 : Int32))).1 (by decide) (by decide) ?_
    refine XS.iload X230.here hx rfl (hb hby at_187) rfl ?_
    refine XS.ifNo X230.here hx rfl (hb hby at_189) rfl ((if0 _ _).trans (tlt (by decide : (0 : Int32) < (2 : Int32))).2.2.2) ?_
    refine XS.aload X230.here hx rfl (hb hby at_192) rfl rfl ?_
    refine XS.iconst X230.here hx rfl (hb hby at_194) ?_
    exact k)
   obtain ⟨cq234, kq234, q234a, q234b, q234c⟩ := isOf hZ p230_0 p227_1
   obtain ⟨_, _, ⟨T234, L234, k234, n234⟩, -, X234, ⟨Lc234, hQ234, l234, y234, z234⟩, st234⟩ := X230.virtualBack hx (y := yN1) (z := yN1) hown (mvT hZ (hU 111 _ rfl)) (mvT hZ (hU 112 _ rfl)) (notFace_of_selects (args := #[]) (mvT hZ (hU 114 _ rfl))) (mvT hZ (hU 114 _ rfl)) (mvT hZ (hU 113 _ rfl)) (by decide) (backOf (W := 0) (rmCa l Z a0 hw [] r_227 (0 : Int32) b2_227 kb2_227 (2 : Int32) [(.int (nar .byte ((nar .char r_7).toInt8.toInt32))), (.int (nar .byte ((nar .char r_10).toInt8.toInt32)))] (.int 0) (nar .byte ((nar .char r_7).toInt8.toInt32)) cs sf T227.heap n0 z227 p227_1 p227_2 p227_3 p227_4 f227_S_String_COMPACT_STRINGS hcs f227_S_Preconditions_SIOOBE_FORMATTER hsf (by decide) (by decide) rfl) hZ (hU 115 _ rfl) (hU 7 _ rfl) (by decide) (by decide)) q234a q234c (g := (mkF m 195 (fA4 b16 b172 b221 p0 p1 p2 p3 p4 p5 r_10 r_13 r_227 r_4 r_7) [(.int 0), (.ref r_227)])) rfl (by rw [hml]; rfl) (Steps.refl _) (argsL := [(.int 0)]) (rest := []) (lenOf pd_28 rfl) rfl (Nat.le_of_eq rfl) (hb hby at_195) (fun _ _ => ⟨rfl, p230_0, (by decide : 7 + 0 ≤ _), (by decide : 24 + 0 ≤ _)⟩)
   dsimp only [Pt.U, Pt.locs, Pt.cells, Pt.slots] at X234 l234 y234 z234 st234 hQ234
   subst l234 y234 z234
   obtain ⟨rfl, N234q, p234_0⟩ := hQ234
   have N234 := Fr.app N230 N234q
   have R235 := fun t k => R233 t (st234.trans k)
   have R236 : own_R p e below T234 (mkF m 198 (fA4 b16 b172 b221 p0 p1 p2 p3 p4 p5 r_10 r_13 r_227 r_4 r_7) [(.int (nar .char r_7))]) s₁ f0 := by have q := R235; rw [((own_chb p7_1) : (own_ch (nar .byte ((nar .char r_7).toInt8.toInt32))) = (nar .char r_7))] at q; exact q
   have R237 : own_R p e below T234 (mkF m 204 (fA4 b16 b172 b221 p0 p1 p2 p3 p4 p5 r_10 r_13 r_227 r_4 r_7) [(.int 1), (.ref b16), (.int (nar .char r_7))]) s₁ f0 := fun t k => R236 t (by
    refine XS.aload X234.here hx rfl (hb hby at_198) rfl rfl ?_
    refine XS.iload X234.here hx rfl (hb hby at_200) rfl ?_
    refine XS.iconst X234.here hx rfl (hb hby at_202) ?_
    refine XS.iadd X234.here hx rfl (hb hby at_203) rfl ?_
    exact k)
   obtain ⟨cl238, Ar238, q238, S238, n238_, H238, G238⟩ := id f227_A_b16
   have hin238 : ¬ ((1 : Int32) < 0 ∨ cl238.slots.size ≤ ((1 : Int32)).toNatClampNeg) := inb_of S238 ⟨by decide, by decide⟩
   have hat238 : cl238.slots[((1 : Int32)).toNatClampNeg]? = some (.int (nar .char r_7)) := Has.at H238 hin238 rfl
   have R239 : own_R p e below T234 (mkF m 205 (fA4 b16 b172 b221 p0 p1 p2 p3 p4 p5 r_10 r_13 r_227 r_4 r_7) [(.int (nar .char r_7)), (.int (nar .char r_7))]) s₁ f0 := fun t k => R237 t (X234.caload hx (j := (1 : Int32)) (v := (.int (nar .char r_7))) (by rw [p234_0]; exact Ar238.1) (State.isArrayOf_alike hZ.alike Ar238.2.1) Ar238.2.2 hin238 hat238 (g := (mkF m 204 (fA4 b16 b172 b221 p0 p1 p2 p3 p4 p5 r_10 r_13 r_227 r_4 r_7) [(.int 1), (.ref b16), (.int (nar .char r_7))])) rfl rfl (hb hby at_204) _ k)
   have R240 : own_R p e below T234 (mkF m 219 (fA4 b16 b172 b221 p0 p1 p2 p3 p4 p5 r_10 r_13 r_227 r_4 r_7) [(.int 1), (.ref r_227)]) s₁ f0 := fun t k => R239 t (by
    refine XS.icmpYes X234.here hx rfl (pc0 := 205) (pc' := 210) rfl (hb hby at_205) rfl (teq rfl).1 (by decide) (by decide) ?_
    refine XS.iload X234.here hx rfl (hb hby at_210) rfl ?_
    refine XS.iconst X234.here hx rfl (hb hby at_212) ?_
    refine XS.icmpNo X234.here hx rfl (hb hby at_213) rfl (tlt (by decide : (1 : Int32) < (2 : Int32))).2.2.2 ?_
    refine XS.aload X234.here hx rfl (hb hby at_216) rfl rfl ?_
    refine XS.iconst X234.here hx rfl (hb hby at_218) ?_
    exact k)
   obtain ⟨cq241, kq241, q241a, q241b, q241c⟩ := isOf hZ p234_0 p227_1
   obtain ⟨_, _, ⟨T241, L241, k241, n241⟩, -, X241, ⟨Lc241, hQ241, l241, y241, z241⟩, st241⟩ := X234.virtualBack hx (y := yN1) (z := yN1) hown (mvT hZ (hU 111 _ rfl)) (mvT hZ (hU 112 _ rfl)) (notFace_of_selects (args := #[]) (mvT hZ (hU 114 _ rfl))) (mvT hZ (hU 114 _ rfl)) (mvT hZ (hU 113 _ rfl)) (by decide) (backOf (W := 0) (rmCa l Z a0 hw [] r_227 (1 : Int32) b2_227 kb2_227 (2 : Int32) [(.int (nar .byte ((nar .char r_7).toInt8.toInt32))), (.int (nar .byte ((nar .char r_10).toInt8.toInt32)))] (.int 0) (nar .byte ((nar .char r_10).toInt8.toInt32)) cs sf T227.heap n0 z227 p227_1 p227_2 p227_3 p227_4 f227_S_String_COMPACT_STRINGS hcs f227_S_Preconditions_SIOOBE_FORMATTER hsf (by decide) (by decide) rfl) hZ (hU 115 _ rfl) (hU 7 _ rfl) (by decide) (by decide)) q241a q241c (g := (mkF m 219 (fA4 b16 b172 b221 p0 p1 p2 p3 p4 p5 r_10 r_13 r_227 r_4 r_7) [(.int 1), (.ref r_227)])) rfl (by rw [hml]; rfl) (Steps.refl _) (argsL := [(.int 1)]) (rest := []) (lenOf pd_28 rfl) rfl (Nat.le_of_eq rfl) (hb hby at_219) (fun _ _ => ⟨rfl, p234_0, (by decide : 7 + 0 ≤ _), (by decide : 24 + 0 ≤ _)⟩)
   dsimp only [Pt.U, Pt.locs, Pt.cells, Pt.slots] at X241 l241 y241 z241 st241 hQ241
   subst l241 y241 z241
   obtain ⟨rfl, N241q, p241_0⟩ := hQ241
   have N241 := Fr.app N234 N241q
   have R242 := fun t k => R240 t (st241.trans k)
   have R243 : own_R p e below T241 (mkF m 222 (fA4 b16 b172 b221 p0 p1 p2 p3 p4 p5 r_10 r_13 r_227 r_4 r_7) [(.int (nar .char r_10))]) s₁ f0 := by have q := R242; rw [((own_chb p10_1) : (own_ch (nar .byte ((nar .char r_10).toInt8.toInt32))) = (nar .char r_10))] at q; exact q
   have R244 : own_R p e below T241 (mkF m 228 (fA4 b16 b172 b221 p0 p1 p2 p3 p4 p5 r_10 r_13 r_227 r_4 r_7) [(.int 2), (.ref b16), (.int (nar .char r_10))]) s₁ f0 := fun t k => R243 t (by
    refine XS.aload X241.here hx rfl (hb hby at_222) rfl rfl ?_
    refine XS.iload X241.here hx rfl (hb hby at_224) rfl ?_
    refine XS.iconst X241.here hx rfl (hb hby at_226) ?_
    refine XS.iadd X241.here hx rfl (hb hby at_227) rfl ?_
    exact k)
   obtain ⟨cl245, Ar245, q245, S245, n245_, H245, G245⟩ := id f227_A_b16
   have hin245 : ¬ ((2 : Int32) < 0 ∨ cl245.slots.size ≤ ((2 : Int32)).toNatClampNeg) := inb_of S245 ⟨by decide, by decide⟩
   have hat245 : cl245.slots[((2 : Int32)).toNatClampNeg]? = some (.int (nar .char r_10)) := Has.at H245 hin245 rfl
   have R246 : own_R p e below T241 (mkF m 229 (fA4 b16 b172 b221 p0 p1 p2 p3 p4 p5 r_10 r_13 r_227 r_4 r_7) [(.int (nar .char r_10)), (.int (nar .char r_10))]) s₁ f0 := fun t k => R244 t (X241.caload hx (j := (2 : Int32)) (v := (.int (nar .char r_10))) (by rw [p241_0]; exact Ar245.1) (State.isArrayOf_alike hZ.alike Ar245.2.1) Ar245.2.2 hin245 hat245 (g := (mkF m 228 (fA4 b16 b172 b221 p0 p1 p2 p3 p4 p5 r_10 r_13 r_227 r_4 r_7) [(.int 2), (.ref b16), (.int (nar .char r_10))])) rfl rfl (hb hby at_228) _ k)
   have R247 : own_R p e below T241 (mkF m 283 (fA4 b16 b172 b221 p0 p1 p2 p3 p4 p5 r_10 r_13 r_227 r_4 r_7) [(.int 1)]) s₁ f0 := fun t k => R246 t (by
    refine XS.icmpYes X241.here hx rfl (pc0 := 229) (pc' := 234) rfl (hb hby at_229) rfl (teq rfl).1 (by decide) (by decide) ?_
    refine XS.iload X241.here hx rfl (hb hby at_234) rfl ?_
    refine XS.iconst X241.here hx rfl (hb hby at_236) ?_
    refine XS.icmpYes X241.here hx rfl (pc0 := 237) (pc' := 258) rfl (hb hby at_237) rfl (flt (by decide : ¬ ((2 : Int32) < (2 : Int32)))).2.2.2 (by decide) (by decide) ?_
    refine XS.iload X241.here hx rfl (hb hby at_258) rfl ?_
    refine XS.iconst X241.here hx rfl (hb hby at_260) ?_
    refine XS.icmpYes X241.here hx rfl (pc0 := 261) (pc' := 282) rfl (hb hby at_261) rfl (flt (by decide : ¬ ((3 : Int32) < (2 : Int32)))).2.2.2 (by decide) (by decide) ?_
    refine XS.iconst X241.here hx rfl (hb hby at_282) ?_
    exact k)
   obtain ⟨fs, hr, hrun, hended, hW, hsame⟩ := X241.leave (v := some (.int 1)) (fun h => by rw [Bd.returns] at h; cases h)
   have hend := ReturnedEndW.of_narrow (o := Outcome.returned (some (.int 1))) ⟨_, rfl⟩ hW hsame
   refine ⟨_, _, pre0 _ (R247 _ ?_), hrun, hended, _, _, rfl, ?_, hend.1, hend.2.1, hend.2.2.1, hend.2.2.2.mono (by decide) (by decide)⟩
   ·
    show own_S p e below T241 (mkF m 283 (fA4 b16 b172 b221 p0 p1 p2 p3 p4 p5 r_10 r_13 r_227 r_4 r_7) [(.int 1)]) _
    exact retN X241 hx (t := .boolean) Bd.returns (by simp) (hb hby at_283) hr
   ·
    show Q_rmLaw Z p0 p1 p2 p3 p4 p5 cs sf h0 n0 _ T241.heap _
    rw [p241_0]
    exact ⟨rfl, N241⟩
  ·
   have R248 : own_R p e below T177 (mkF m 155 (fA24 b16 b172 p0 p1 p2 p3 p4 p5 r_10 r_13 r_4 r_7) []) s₁ f0 := fun t k => R179 t (by
    refine XS.iconst X177.here hx rfl (hb hby at_80) ?_
    refine XS.istore X177.here hx rfl (hb hby at_81) rfl (l' := (fA12 b16 b172 p0 p1 p2 p3 p4 p5 r_10 r_13 r_4 r_7)) rfl ?_
    refine XS.iload X177.here hx rfl (hb hby at_83) rfl ?_
    refine XS.ifNo X177.here hx rfl (hb hby at_85) rfl ((if0 _ _).trans (tlt (by decide : (0 : Int32) < (3 : Int32))).2.2.2) ?_
    refine XS.iload X177.here hx rfl (hb hby at_88) rfl ?_
    refine XS.bipush X177.here hx rfl (hb hby at_90) ?_
    refine XS.icmpYes X177.here hx rfl (pc0 := 92) (pc' := 98) rfl (hb hby at_92) rfl (feq hK0).2 (by decide) (by decide) ?_
    refine XS.iload X177.here hx rfl (hb hby at_98) rfl ?_
    refine XS.iconst X177.here hx rfl (hb hby at_100) ?_
    refine XS.icmpNo X177.here hx rfl (hb hby at_101) rfl (tlt (by decide : (1 : Int32) < (3 : Int32))).2.2.2 ?_
    refine XS.iload X177.here hx rfl (hb hby at_104) rfl ?_
    refine XS.bipush X177.here hx rfl (hb hby at_106) ?_
    show own_S p e below T177 (mkF m 108 (fA12 b16 b172 p0 p1 p2 p3 p4 p5 r_10 r_13 r_4 r_7) [(.int 47), (.int r_7)]) _
    refine XS.icmpYes X177.here hx rfl (pc0 := 108) (pc' := 114) rfl (hb hby at_108) rfl (feq hK1).2 (by decide) (by decide) ?_
    refine XS.iload X177.here hx rfl (hb hby at_114) rfl ?_
    refine XS.iconst X177.here hx rfl (hb hby at_116) ?_
    refine XS.icmpNo X177.here hx rfl (hb hby at_117) rfl (tlt (by decide : (2 : Int32) < (3 : Int32))).2.2.2 ?_
    refine XS.iload X177.here hx rfl (hb hby at_120) rfl ?_
    refine XS.bipush X177.here hx rfl (hb hby at_122) ?_
    refine XS.icmpYes X177.here hx rfl (pc0 := 124) (pc' := 130) rfl (hb hby at_124) rfl (feq hK2).2 (by decide) (by decide) ?_
    refine XS.iload X177.here hx rfl (hb hby at_130) rfl ?_
    refine XS.iconst X177.here hx rfl (hb hby at_132) ?_
    refine XS.icmpYes X177.here hx rfl (pc0 := 133) (pc' := 146) rfl (hb hby at_133) rfl (flt (by decide : ¬ ((3 : Int32) < (3 : Int32)))).2.2.2 (by decide) (by decide) ?_
    refine XS.iload X177.here hx rfl (hb hby at_146) rfl ?_
    refine XS.iload X177.here hx rfl (hb hby at_148) rfl ?_
    show own_S p e below T177 (mkF m 150 (fA12 b16 b172 p0 p1 p2 p3 p4 p5 r_10 r_13 r_4 r_7) [(.int (-1)), (.int 3)]) _
    refine XS.isub X177.here hx rfl (hb hby at_150) rfl ?_
    refine XS.iconst X177.here hx rfl (hb hby at_151) ?_
    refine XS.isub X177.here hx rfl (hb hby at_152) rfl ?_
    refine XS.istore X177.here hx rfl (hb hby at_153) rfl (l' := (fA24 b16 b172 p0 p1 p2 p3 p4 p5 r_10 r_13 r_4 r_7)) rfl ?_
    exact k)
   obtain ⟨T249, h249, X249, e249, E249, A249, D249, -, st249⟩ := newO X177 hx hZ hown (hU 29 _ rfl) (hU 30 _ rfl) (hU 31 _ rfl) rfl (g := (mkF m 155 (fA24 b16 b172 p0 p1 p2 p3 p4 p5 r_10 r_13 r_4 r_7) [])) rfl (hb hby at_155) (by decide) (by decide)
   obtain ⟨b249, g249⟩ : ∃ z, z = T177.heap.size := ⟨_, rfl⟩
   rw [← g249] at A249 D249 st249
   have g_b249 : n0 ≤ b249 := Nat.le_trans z177 (Nat.le_of_eq g249.symm)
   have sz_b249 : h0.size ≤ b249 := Nat.le_trans K177.1 (Nat.le_of_eq g249.symm)
   have ne_b16_b249 : b16 ≠ b249 := Nat.ne_of_lt (Nat.lt_of_lt_of_le f177_A_b16.lt (Nat.le_of_eq g249.symm))
   have ne_b172_b249 : b172 ≠ b249 := Nat.ne_of_lt (Nat.lt_of_lt_of_le f177_E_b172.lt (Nat.le_of_eq g249.symm))
   have ne_b2_177_b249 : b2_177 ≠ b249 := Nat.ne_of_lt (Nat.lt_of_lt_of_le p177_3.lt (Nat.le_of_eq g249.symm))
   have f249_S_String_COMPACT_STRINGS := f177_S_String_COMPACT_STRINGS.ext E249
   have f249_S_Preconditions_SIOOBE_FORMATTER := f177_S_Preconditions_SIOOBE_FORMATTER.ext E249
   have f249_A_b16 := f177_A_b16.ext E249
   have f249_E_b172 := f177_E_b172.ext E249
   have f249_F_value_b172 := p177_1.ext E249
   have f249_F_coder_b172 := p177_2.ext E249
   have f249_A_b2_177 := p177_3.ext E249
   have z249 : n0 ≤ h249.size := Nat.le_trans z177 E249.1
   have K249 : Keep h0 h249 [] := K177.ext E249
   have d249_path : Fld Z h249 b249 sN0 "path" "Ljava/lang/String;" .null := D249 (Or.inr (hU 37 _ rfl)) (ty := (.object "java/lang/String")) (by decide)
   have d249_creationZxid : Fld Z h249 b249 sN0 "creationZxid" "J" (.long (0 : Int64)) := D249 (Or.inr (hU 39 _ rfl)) (ty := .long) (by decide)
   have R250 := fun t k => R248 t (st249 t k)
   have R251 : own_R p e below T249 (mkF m 163 (fA24 b16 b172 p0 p1 p2 p3 p4 p5 r_10 r_13 r_4 r_7) [(.long p5), (.ref b172), (.ref b249), (.ref b249)]) s₁ f0 := fun t k => R250 t (by
    refine XS.dup X249.here hx rfl (hb hby at_158) rfl rfl ?_
    refine XS.aload X249.here hx rfl (hb hby at_159) rfl rfl ?_
    refine XS.lload X249.here hx rfl (hb hby at_161) rfl ?_
    exact k)
   obtain ⟨_, _, ⟨T252, L252, k252, n252⟩, -, X252, ⟨Lc252, hQ252, l252, y252, z252⟩, st252⟩ := X249.specialBack hx (y := yN5) rfl hown (mvT hZ (hU 32 _ rfl)) (mvT hZ (hU 33 _ rfl)) (mvT hZ (hU 34 _ rfl)) (by decide) (backOf (W := 1) (rmQni l Z a0 hw [] b249 b172 p5 .null (.long (0 : Int64)) h249 n0 z249 A249 d249_path d249_creationZxid g_b249) hZ (hU 34 _ rfl) (hU 31 _ rfl) (by decide) (by decide)) (g := (mkF m 163 (fA24 b16 b172 p0 p1 p2 p3 p4 p5 r_10 r_13 r_4 r_7) [(.long p5), (.ref b172), (.ref b249), (.ref b249)])) rfl (by rw [hml]; rfl) (Steps.refl _) (a := b249) (argsL := [(.ref b172), (.long p5)]) (rest := [(.ref b249)]) (lenOf pd_31 rfl) rfl (Nat.le_of_eq rfl) (hb hby at_163) (fun _ _ => ⟨rfl, e249, (by decide : 5 + 0 ≤ _), (by decide : 17 + 0 ≤ _)⟩)
   dsimp only [Pt.U, Pt.locs, Pt.cells, Pt.slots] at X252 l252 y252 z252 st252 hQ252
   subst l252 y252 z252
   obtain ⟨rfl, N252q, p252_0, p252_1⟩ := hQ252
   have N252 := Fr.app N177 N252q
   have f252_S_String_COMPACT_STRINGS := own_sta_keep f249_S_String_COMPACT_STRINGS p252_0 (nsS A249.nostat ns0)
   have f252_S_Preconditions_SIOOBE_FORMATTER := own_sta_keep f249_S_Preconditions_SIOOBE_FORMATTER p252_0 (nsS A249.nostat ns0)
   have f252_A_b16 := f249_A_b16.keep p252_0 (ninS ne_b16_b249 nin0)
   have f252_E_b172 := f249_E_b172.keep p252_0
   have f252_F_value_b172 := f249_F_value_b172.keep p252_0 (ninS ne_b172_b249 nin0)
   have f252_F_coder_b172 := f249_F_coder_b172.keep p252_0 (ninS ne_b172_b249 nin0)
   have f252_A_b2_177 := f249_A_b2_177.keep p252_0 (ninS ne_b2_177_b249 nin0)
   have f252_E_b249 := A249.keep p252_0
   have z252 : n0 ≤ T252.heap.size := Nat.le_trans z249 p252_0.1
   have K252 : Keep h0 T252.heap [] := K249.trans p252_0 (allS (Or.inr sz_b249) all0)
   have R253 := fun t k => R251 t (st252.trans k)
   have R254 : own_R p e below T252 (mkF m 170 #[iv p0, iv p1, iv p2, iv p3, iv p4, own_l p5, .second, iv 3, iv r_4, iv r_7, iv r_10, iv r_13, rv b16, rv b172, iv (-1), iv 3, rv b249, .unset] [(.ref b249)]) s₁ f0 := fun t k => R253 t (by
    refine XS.astore X252.here hx rfl (hb hby at_166) rfl rfl (l' := #[iv p0, iv p1, iv p2, iv p3, iv p4, own_l p5, .second, iv 3, iv r_4, iv r_7, iv r_10, iv r_13, rv b16, rv b172, iv (-1), iv 3, rv b249, .unset]) rfl ?_
    refine XS.aload X252.here hx rfl (hb hby at_168) rfl rfl ?_
    exact k)
   obtain ⟨cq255, kq255, q255a, q255b, q255c⟩ := isOf hZ rfl f252_E_b249
   obtain ⟨_, _, ⟨T255, L255, k255, n255⟩, -, X255, ⟨Lc255, hQ255, l255, y255, z255⟩, st255⟩ := X252.virtualBack hx (y := yN2) (z := yN2) hown (mvT hZ (hU 40 _ rfl)) (mvT hZ (hU 41 _ rfl)) (notFace_of_selects (args := #[]) (mvT hZ (hU 43 _ rfl))) (mvT hZ (hU 43 _ rfl)) (mvT hZ (hU 42 _ rfl)) (by decide) (backOf (W := 0) (rmNm0 l Z a0 hw [] b249 b172 b2_177 kb2_177 (3 : Int32) [(.int (nar .byte ((nar .char r_4).toInt8.toInt32))), (.int (nar .byte ((nar .char r_7).toInt8.toInt32))), (.int (nar .byte ((nar .char r_10).toInt8.toInt32)))] cs sf (2 : Int32) (own_li3 (nar .byte ((nar .char r_4).toInt8.toInt32)) (nar .byte ((nar .char r_7).toInt8.toInt32)) (nar .byte ((nar .char r_10).toInt8.toInt32))) T252.heap n0 z252 f252_E_b249 p252_1 f252_E_b172 f252_F_coder_b172 f252_F_value_b172 f252_A_b2_177 f252_S_String_COMPACT_STRINGS hcs f252_S_Preconditions_SIOOBE_FORMATTER hsf (by decide) (by decide) (rmLli3 l Z a0 hw [] b2_177 kb2_177 (nar .byte ((nar .char r_4).toInt8.toInt32)) (nar .byte ((nar .char r_7).toInt8.toInt32)) (nar .byte ((nar .char r_10).toInt8.toInt32)) T252.heap n0 z252 f252_A_b2_177) (own_lk3m (own_n47 p10_1 hK2) (own_n47 p7_1 hK1) (own_n47 p4_1 hK0))) hZ (hU 44 _ rfl) (hU 31 _ rfl) (by decide) (by decide)) q255a q255c (g := (mkF m 170 #[iv p0, iv p1, iv p2, iv p3, iv p4, own_l p5, .second, iv 3, iv r_4, iv r_7, iv r_10, iv r_13, rv b16, rv b172, iv (-1), iv 3, rv b249, .unset] [(.ref b249)])) rfl (by rw [hml]; rfl) (Steps.refl _) (argsL := []) (rest := []) (lenOf pd_32 rfl) rfl (Nat.le_of_eq rfl) (hb hby at_170) (fun _ _ => ⟨rfl, rfl, (by decide : 5 + 0 ≤ _), (by decide : 17 + 0 ≤ _)⟩)
   dsimp only [Pt.U, Pt.locs, Pt.cells, Pt.slots] at X255 l255 y255 z255 st255 hQ255
   subst l255 y255 z255
   obtain ⟨rfl, N255q, p255_0⟩ := hQ255
   have N255 := Fr.app N252 N255q
   have R256 := fun t k => R254 t (st255.trans k)
   have R257 : own_R p e below T255 (mkF m 177 (fA1 b16 b172 b249 p0 p1 p2 p3 p4 p5 r_10 r_13 r_4 r_7) [(.ref b172)]) s₁ f0 := fun t k => R256 t (by
    refine XS.astore X255.here hx rfl (hb hby at_173) rfl rfl (l' := (fA1 b16 b172 b249 p0 p1 p2 p3 p4 p5 r_10 r_13 r_4 r_7)) rfl ?_
    refine XS.aload X255.here hx rfl (hb hby at_175) rfl rfl ?_
    exact k)
   obtain ⟨cq258, kq258, q258a, q258b, q258c⟩ := isOf hZ p255_0 f252_E_b172
   obtain ⟨_, _, ⟨T258, L258, k258, n258⟩, -, X258, ⟨Lc258, hQ258, l258, y258, z258⟩, st258⟩ := X255.virtualBack hx (y := yN0) (z := yN0) hown (mvT hZ (hU 100 _ rfl)) (mvT hZ (hU 51 _ rfl)) (notFace_of_selects (args := #[]) (mvT hZ (hU 53 _ rfl))) (mvT hZ (hU 53 _ rfl)) (mvT hZ (hU 52 _ rfl)) (by decide) (backOf (W := 0) (rmLen l Z a0 hw [] b172 b2_177 kb2_177 (3 : Int32) [(.int (nar .byte ((nar .char r_4).toInt8.toInt32))), (.int (nar .byte ((nar .char r_7).toInt8.toInt32))), (.int (nar .byte ((nar .char r_10).toInt8.toInt32)))] (.int 0) cs T252.heap n0 z252 f252_E_b172 f252_F_coder_b172 f252_F_value_b172 f252_A_b2_177 f252_S_String_COMPACT_STRINGS hcs) hZ (hU 54 _ rfl) (hU 7 _ rfl) (by decide) (by decide)) q258a q258c (g := (mkF m 177 (fA1 b16 b172 b249 p0 p1 p2 p3 p4 p5 r_10 r_13 r_4 r_7) [(.ref b172)])) rfl (by rw [hml]; rfl) (Steps.refl _) (argsL := []) (rest := []) (lenOf pd_20 rfl) rfl (Nat.le_of_eq rfl) (hb hby at_177) (fun _ _ => ⟨rfl, p255_0, (by decide : 5 + 0 ≤ _), (by decide : 17 + 0 ≤ _)⟩)
   dsimp only [Pt.U, Pt.locs, Pt.cells, Pt.slots] at X258 l258 y258 z258 st258 hQ258
   subst l258 y258 z258
   obtain ⟨rfl, N258q, p258_0⟩ := hQ258
   have N258 := Fr.app N255 N258q
   have R259 := fun t k => R257 t (st258.trans k)
   have R260 : own_R p e below T258 (mkF m 180 (fA1 b16 b172 b249 p0 p1 p2 p3 p4 p5 r_10 r_13 r_4 r_7) [(.int 3)]) s₁ f0 := by have q := R259; rw [((own_sh (3 : Int32)) : ((3 : Int32) >>> ((0 : Int32) &&& 31)) = (3 : Int32))] at q; exact q
   have R261 : own_R p e below T258 (mkF m 195 (fA1 b16 b172 b249 p0 p1 p2 p3 p4 p5 r_10 r_13 r_4 r_7) [(.int 0), (.ref b172)]) s₁ f0 := fun t k => R260 t (by
    refine XS.iload X258.here hx rfl (hb hby at_180) rfl ?_
    refine XS.icmpYes X258.here hx rfl (pc0 := 182) (pc' := 187) rfl (hb hby at_182) rfl (teq (by decide : (3 : Int32) = (3 : Int32))).1 (by decide) (by decide) ?_
    refine XS.iload X258.here hx rfl (hb hby at_187) rfl ?_
    refine XS.ifNo X258.here hx rfl (hb hby at_189) rfl ((if0 _ _).trans (tlt (by decide : (0 : Int32) < (3 : Int32))).2.2.2) ?_
    refine XS.aload X258.here hx rfl (hb hby at_192) rfl rfl ?_
    refine XS.iconst X258.here hx rfl (hb hby at_194) ?_
    exact k)
   obtain ⟨cq262, kq262, q262a, q262b, q262c⟩ := isOf hZ p258_0 f252_E_b172
   obtain ⟨_, _, ⟨T262, L262, k262, n262⟩, -, X262, ⟨Lc262, hQ262, l262, y262, z262⟩, st262⟩ := X258.virtualBack hx (y := yN1) (z := yN1) hown (mvT hZ (hU 111 _ rfl)) (mvT hZ (hU 112 _ rfl)) (notFace_of_selects (args := #[]) (mvT hZ (hU 114 _ rfl))) (mvT hZ (hU 114 _ rfl)) (mvT hZ (hU 113 _ rfl)) (by decide) (backOf (W := 0) (rmCa l Z a0 hw [] b172 (0 : Int32) b2_177 kb2_177 (3 : Int32) [(.int (nar .byte ((nar .char r_4).toInt8.toInt32))), (.int (nar .byte ((nar .char r_7).toInt8.toInt32))), (.int (nar .byte ((nar .char r_10).toInt8.toInt32)))] (.int 0) (nar .byte ((nar .char r_4).toInt8.toInt32)) cs sf T252.heap n0 z252 f252_E_b172 f252_F_coder_b172 f252_F_value_b172 f252_A_b2_177 f252_S_String_COMPACT_STRINGS hcs f252_S_Preconditions_SIOOBE_FORMATTER hsf (by decide) (by decide) rfl) hZ (hU 115 _ rfl) (hU 7 _ rfl) (by decide) (by decide)) q262a q262c (g := (mkF m 195 (fA1 b16 b172 b249 p0 p1 p2 p3 p4 p5 r_10 r_13 r_4 r_7) [(.int 0), (.ref b172)])) rfl (by rw [hml]; rfl) (Steps.refl _) (argsL := [(.int 0)]) (rest := []) (lenOf pd_28 rfl) rfl (Nat.le_of_eq rfl) (hb hby at_195) (fun _ _ => ⟨rfl, p258_0, (by decide : 5 + 0 ≤ _), (by decide : 17 + 0 ≤ _)⟩)
   dsimp only [Pt.U, Pt.locs, Pt.cells, Pt.slots] at X262 l262 y262 z262 st262 hQ262
   subst l262 y262 z262
   obtain ⟨rfl, N262q, p262_0⟩ := hQ262
   have N262 := Fr.app N258 N262q
   have R263 := fun t k => R261 t (st262.trans k)
   have R264 : own_R p e below T262 (mkF m 198 (fA1 b16 b172 b249 p0 p1 p2 p3 p4 p5 r_10 r_13 r_4 r_7) [(.int (nar .char r_4))]) s₁ f0 := by have q := R263; rw [((own_chb p4_1) : (own_ch (nar .byte ((nar .char r_4).toInt8.toInt32))) = (nar .char r_4))] at q; exact q
   have R265 : own_R p e below T262 (mkF m 204 (fA1 b16 b172 b249 p0 p1 p2 p3 p4 p5 r_10 r_13 r_4 r_7) [(.int 0), (.ref b16), (.int (nar .char r_4))]) s₁ f0 := fun t k => R264 t (by
    refine XS.aload X262.here hx rfl (hb hby at_198) rfl rfl ?_
    refine XS.iload X262.here hx rfl (hb hby at_200) rfl ?_
    refine XS.iconst X262.here hx rfl (hb hby at_202) ?_
    refine XS.iadd X262.here hx rfl (hb hby at_203) rfl ?_
    exact k)
   obtain ⟨cl266, Ar266, q266, S266, n266_, H266, G266⟩ := id f252_A_b16
   have hin266 : ¬ ((0 : Int32) < 0 ∨ cl266.slots.size ≤ ((0 : Int32)).toNatClampNeg) := inb_of S266 ⟨by decide, by decide⟩
   have hat266 : cl266.slots[((0 : Int32)).toNatClampNeg]? = some (.int (nar .char r_4)) := Has.at H266 hin266 rfl
   have R267 : own_R p e below T262 (mkF m 205 (fA1 b16 b172 b249 p0 p1 p2 p3 p4 p5 r_10 r_13 r_4 r_7) [(.int (nar .char r_4)), (.int (nar .char r_4))]) s₁ f0 := fun t k => R265 t (X262.caload hx (j := (0 : Int32)) (v := (.int (nar .char r_4))) (by rw [p262_0]; exact Ar266.1) (State.isArrayOf_alike hZ.alike Ar266.2.1) Ar266.2.2 hin266 hat266 (g := (mkF m 204 (fA1 b16 b172 b249 p0 p1 p2 p3 p4 p5 r_10 r_13 r_4 r_7) [(.int 0), (.ref b16), (.int (nar .char r_4))])) rfl rfl (hb hby at_204) _ k)
   have R268 : own_R p e below T262 (mkF m 219 (fA1 b16 b172 b249 p0 p1 p2 p3 p4 p5 r_10 r_13 r_4 r_7) [(.int 1), (.ref b172)]) s₁ f0 := fun t k => R267 t (by
    refine XS.icmpYes X262.here hx rfl (pc0 := 205) (pc' := 210) rfl (hb hby at_205) rfl (teq rfl).1 (by decide) (by decide) ?_
    refine XS.iload X262.here hx rfl (hb hby at_210) rfl ?_
    refine XS.iconst X262.here hx rfl (hb hby at_212) ?_
    refine XS.icmpNo X262.here hx rfl (hb hby at_213) rfl (tlt (by decide : (1 : Int32) < (3 : Int32))).2.2.2 ?_
    refine XS.aload X262.here hx rfl (hb hby at_216) rfl rfl ?_
    refine XS.iconst X262.here hx rfl (hb hby at_218) ?_
    exact k)
   obtain ⟨cq269, kq269, q269a, q269b, q269c⟩ := isOf hZ p262_0 f252_E_b172
   obtain ⟨_, _, ⟨T269, L269, k269, n269⟩, -, X269, ⟨Lc269, hQ269, l269, y269, z269⟩, st269⟩ := X262.virtualBack hx (y := yN1) (z := yN1) hown (mvT hZ (hU 111 _ rfl)) (mvT hZ (hU 112 _ rfl)) (notFace_of_selects (args := #[]) (mvT hZ (hU 114 _ rfl))) (mvT hZ (hU 114 _ rfl)) (mvT hZ (hU 113 _ rfl)) (by decide) (backOf (W := 0) (rmCa l Z a0 hw [] b172 (1 : Int32) b2_177 kb2_177 (3 : Int32) [(.int (nar .byte ((nar .char r_4).toInt8.toInt32))), (.int (nar .byte ((nar .char r_7).toInt8.toInt32))), (.int (nar .byte ((nar .char r_10).toInt8.toInt32)))] (.int 0) (nar .byte ((nar .char r_7).toInt8.toInt32)) cs sf T252.heap n0 z252 f252_E_b172 f252_F_coder_b172 f252_F_value_b172 f252_A_b2_177 f252_S_String_COMPACT_STRINGS hcs f252_S_Preconditions_SIOOBE_FORMATTER hsf (by decide) (by decide) rfl) hZ (hU 115 _ rfl) (hU 7 _ rfl) (by decide) (by decide)) q269a q269c (g := (mkF m 219 (fA1 b16 b172 b249 p0 p1 p2 p3 p4 p5 r_10 r_13 r_4 r_7) [(.int 1), (.ref b172)])) rfl (by rw [hml]; rfl) (Steps.refl _) (argsL := [(.int 1)]) (rest := []) (lenOf pd_28 rfl) rfl (Nat.le_of_eq rfl) (hb hby at_219) (fun _ _ => ⟨rfl, p262_0, (by decide : 5 + 0 ≤ _), (by decide : 17 + 0 ≤ _)⟩)
   dsimp only [Pt.U, Pt.locs, Pt.cells, Pt.slots] at X269 l269 y269 z269 st269 hQ269
   subst l269 y269 z269
   obtain ⟨rfl, N269q, p269_0⟩ := hQ269
   have N269 := Fr.app N262 N269q
   have R270 := fun t k => R268 t (st269.trans k)
   have R271 : own_R p e below T269 (mkF m 222 (fA1 b16 b172 b249 p0 p1 p2 p3 p4 p5 r_10 r_13 r_4 r_7) [(.int (nar .char r_7))]) s₁ f0 := by have q := R270; rw [((own_chb p7_1) : (own_ch (nar .byte ((nar .char r_7).toInt8.toInt32))) = (nar .char r_7))] at q; exact q
   have R272 : own_R p e below T269 (mkF m 228 (fA1 b16 b172 b249 p0 p1 p2 p3 p4 p5 r_10 r_13 r_4 r_7) [(.int 1), (.ref b16), (.int (nar .char r_7))]) s₁ f0 := fun t k => R271 t (by
    refine XS.aload X269.here hx rfl (hb hby at_222) rfl rfl ?_
    refine XS.iload X269.here hx rfl (hb hby at_224) rfl ?_
    refine XS.iconst X269.here hx rfl (hb hby at_226) ?_
    refine XS.iadd X269.here hx rfl (hb hby at_227) rfl ?_
    exact k)
   obtain ⟨cl273, Ar273, q273, S273, n273_, H273, G273⟩ := id f252_A_b16
   have hin273 : ¬ ((1 : Int32) < 0 ∨ cl273.slots.size ≤ ((1 : Int32)).toNatClampNeg) := inb_of S273 ⟨by decide, by decide⟩
   have hat273 : cl273.slots[((1 : Int32)).toNatClampNeg]? = some (.int (nar .char r_7)) := Has.at H273 hin273 rfl
   have R274 : own_R p e below T269 (mkF m 229 (fA1 b16 b172 b249 p0 p1 p2 p3 p4 p5 r_10 r_13 r_4 r_7) [(.int (nar .char r_7)), (.int (nar .char r_7))]) s₁ f0 := fun t k => R272 t (X269.caload hx (j := (1 : Int32)) (v := (.int (nar .char r_7))) (by rw [p269_0]; exact Ar273.1) (State.isArrayOf_alike hZ.alike Ar273.2.1) Ar273.2.2 hin273 hat273 (g := (mkF m 228 (fA1 b16 b172 b249 p0 p1 p2 p3 p4 p5 r_10 r_13 r_4 r_7) [(.int 1), (.ref b16), (.int (nar .char r_7))])) rfl rfl (hb hby at_228) _ k)
   have R275 : own_R p e below T269 (mkF m 243 (fA1 b16 b172 b249 p0 p1 p2 p3 p4 p5 r_10 r_13 r_4 r_7) [(.int 2), (.ref b172)]) s₁ f0 := fun t k => R274 t (by
    refine XS.icmpYes X269.here hx rfl (pc0 := 229) (pc' := 234) rfl (hb hby at_229) rfl (teq rfl).1 (by decide) (by decide) ?_
    refine XS.iload X269.here hx rfl (hb hby at_234) rfl ?_
    refine XS.iconst X269.here hx rfl (hb hby at_236) ?_
    refine XS.icmpNo X269.here hx rfl (hb hby at_237) rfl (tlt (by decide : (2 : Int32) < (3 : Int32))).2.2.2 ?_
    refine XS.aload X269.here hx rfl (hb hby at_240) rfl rfl ?_
    refine XS.iconst X269.here hx rfl (hb hby at_242) ?_
    exact k)
   obtain ⟨cq276, kq276, q276a, q276b, q276c⟩ := isOf hZ p269_0 f252_E_b172
   obtain ⟨_, _, ⟨T276, L276, k276, n276⟩, -, X276, ⟨Lc276, hQ276, l276, y276, z276⟩, st276⟩ := X269.virtualBack hx (y := yN1) (z := yN1) hown (mvT hZ (hU 111 _ rfl)) (mvT hZ (hU 112 _ rfl)) (notFace_of_selects (args := #[]) (mvT hZ (hU 114 _ rfl))) (mvT hZ (hU 114 _ rfl)) (mvT hZ (hU 113 _ rfl)) (by decide) (backOf (W := 0) (rmCa l Z a0 hw [] b172 (2 : Int32) b2_177 kb2_177 (3 : Int32) [(.int (nar .byte ((nar .char r_4).toInt8.toInt32))), (.int (nar .byte ((nar .char r_7).toInt8.toInt32))), (.int (nar .byte ((nar .char r_10).toInt8.toInt32)))] (.int 0) (nar .byte ((nar .char r_10).toInt8.toInt32)) cs sf T252.heap n0 z252 f252_E_b172 f252_F_coder_b172 f252_F_value_b172 f252_A_b2_177 f252_S_String_COMPACT_STRINGS hcs f252_S_Preconditions_SIOOBE_FORMATTER hsf (by decide) (by decide) rfl) hZ (hU 115 _ rfl) (hU 7 _ rfl) (by decide) (by decide)) q276a q276c (g := (mkF m 243 (fA1 b16 b172 b249 p0 p1 p2 p3 p4 p5 r_10 r_13 r_4 r_7) [(.int 2), (.ref b172)])) rfl (by rw [hml]; rfl) (Steps.refl _) (argsL := [(.int 2)]) (rest := []) (lenOf pd_28 rfl) rfl (Nat.le_of_eq rfl) (hb hby at_243) (fun _ _ => ⟨rfl, p269_0, (by decide : 5 + 0 ≤ _), (by decide : 17 + 0 ≤ _)⟩)
   dsimp only [Pt.U, Pt.locs, Pt.cells, Pt.slots] at X276 l276 y276 z276 st276 hQ276
   subst l276 y276 z276
   obtain ⟨rfl, N276q, p276_0⟩ := hQ276
   have N276 := Fr.app N269 N276q
   have R277 := fun t k => R275 t (st276.trans k)
   have R278 : own_R p e below T276 (mkF m 246 (fA1 b16 b172 b249 p0 p1 p2 p3 p4 p5 r_10 r_13 r_4 r_7) [(.int (nar .char r_10))]) s₁ f0 := by have q := R277; rw [((own_chb p10_1) : (own_ch (nar .byte ((nar .char r_10).toInt8.toInt32))) = (nar .char r_10))] at q; exact q
   have R279 : own_R p e below T276 (mkF m 252 (fA1 b16 b172 b249 p0 p1 p2 p3 p4 p5 r_10 r_13 r_4 r_7) [(.int 2), (.ref b16), (.int (nar .char r_10))]) s₁ f0 := fun t k => R278 t (by
    refine XS.aload X276.here hx rfl (hb hby at_246) rfl rfl ?_
    refine XS.iload X276.here hx rfl (hb hby at_248) rfl ?_
    refine XS.iconst X276.here hx rfl (hb hby at_250) ?_
    refine XS.iadd X276.here hx rfl (hb hby at_251) rfl ?_
    exact k)
   obtain ⟨cl280, Ar280, q280, S280, n280_, H280, G280⟩ := id f252_A_b16
   have hin280 : ¬ ((2 : Int32) < 0 ∨ cl280.slots.size ≤ ((2 : Int32)).toNatClampNeg) := inb_of S280 ⟨by decide, by decide⟩
   have hat280 : cl280.slots[((2 : Int32)).toNatClampNeg]? = some (.int (nar .char r_10)) := Has.at H280 hin280 rfl
   have R281 : own_R p e below T276 (mkF m 253 (fA1 b16 b172 b249 p0 p1 p2 p3 p4 p5 r_10 r_13 r_4 r_7) [(.int (nar .char r_10)), (.int (nar .char r_10))]) s₁ f0 := fun t k => R279 t (X276.caload hx (j := (2 : Int32)) (v := (.int (nar .char r_10))) (by rw [p276_0]; exact Ar280.1) (State.isArrayOf_alike hZ.alike Ar280.2.1) Ar280.2.2 hin280 hat280 (g := (mkF m 252 (fA1 b16 b172 b249 p0 p1 p2 p3 p4 p5 r_10 r_13 r_4 r_7) [(.int 2), (.ref b16), (.int (nar .char r_10))])) rfl rfl (hb hby at_252) _ k)
   have R282 : own_R p e below T276 (mkF m 283 (fA1 b16 b172 b249 p0 p1 p2 p3 p4 p5 r_10 r_13 r_4 r_7) [(.int 1)]) s₁ f0 := fun t k => R281 t (by
    refine XS.icmpYes X276.here hx rfl (pc0 := 253) (pc' := 258) rfl (hb hby at_253) rfl (teq rfl).1 (by decide) (by decide) ?_
    refine XS.iload X276.here hx rfl (hb hby at_258) rfl ?_
    refine XS.iconst X276.here hx rfl (hb hby at_260) ?_
    refine XS.icmpYes X276.here hx rfl (pc0 := 261) (pc' := 282) rfl (hb hby at_261) rfl (flt (by decide : ¬ ((3 : Int32) < (3 : Int32)))).2.2.2 (by decide) (by decide) ?_
    refine XS.iconst X276.here hx rfl (hb hby at_282) ?_
    exact k)
   obtain ⟨fs, hr, hrun, hended, hW, hsame⟩ := X276.leave (v := some (.int 1)) (fun h => by rw [Bd.returns] at h; cases h)
   have hend := ReturnedEndW.of_narrow (o := Outcome.returned (some (.int 1))) ⟨_, rfl⟩ hW hsame
   refine ⟨_, _, pre0 _ (R282 _ ?_), hrun, hended, _, _, rfl, ?_, hend.1, hend.2.1, hend.2.2.1, hend.2.2.2.mono (by decide) (by decide)⟩
   ·
    show own_S p e below T276 (mkF m 283 (fA1 b16 b172 b249 p0 p1 p2 p3 p4 p5 r_10 r_13 r_4 r_7) [(.int 1)]) _
    exact retN X276 hx (t := .boolean) Bd.returns (by simp) (hb hby at_283) hr
   ·
    show Q_rmLaw Z p0 p1 p2 p3 p4 p5 cs sf h0 n0 _ T276.heap _
    rw [p276_0]
    exact ⟨rfl, N276⟩
 ·
  have R283 : own_R p e below T28 (mkF m 58 (fA25 b16 p0 p1 p2 p3 p4 p5 r_10 r_13 r_4 r_7) []) s₁ f0 := by have q := R30; rw [(hp : nn = (4 : Int32))] at q; exact q
  obtain ⟨T284, h284, X284, e284, E284, A284, D284, -, st284⟩ := newO X28 hx hZ hown (hU 5 _ rfl) (hU 6 _ rfl) (hU 7 _ rfl) e28 (g := (mkF m 58 (fA25 b16 p0 p1 p2 p3 p4 p5 r_10 r_13 r_4 r_7) [])) rfl (hb hby at_58) (by decide) (by decide)
  obtain ⟨b284, g284⟩ : ∃ z, z = h28.size := ⟨_, rfl⟩
  rw [← g284] at A284 D284 st284
  have g_b284 : n0 ≤ b284 := Nat.le_trans z28 (Nat.le_of_eq g284.symm)
  have sz_b284 : h0.size ≤ b284 := Nat.le_trans K28.1 (Nat.le_of_eq g284.symm)
  have ne_b16_b284 : b16 ≠ b284 := Nat.ne_of_lt (Nat.lt_of_lt_of_le v28.lt (Nat.le_of_eq g284.symm))
  have f284_S_String_COMPACT_STRINGS := f28_S_String_COMPACT_STRINGS.ext E284
  have f284_S_Preconditions_SIOOBE_FORMATTER := f28_S_Preconditions_SIOOBE_FORMATTER.ext E284
  have f284_A_b16 := v28.ext E284
  have z284 : n0 ≤ h284.size := Nat.le_trans z28 E284.1
  have K284 : Keep h0 h284 [] := K28.ext E284
  have d284_value : Fld Z h284 b284 "java/lang/String" "value" "[B" .null := D284 (Or.inr (hU 23 _ rfl)) (ty := (.array .byte)) (by decide)
  have d284_coder : Fld Z h284 b284 "java/lang/String" "coder" "B" (.int 0) := D284 (Or.inr (hU 24 _ rfl)) (ty := .byte) (by decide)
  have R285 := fun t k => R283 t (st284 t k)
  have R286 : own_R p e below T284 (mkF m 72 (fA25 b16 p0 p1 p2 p3 p4 p5 r_10 r_13 r_4 r_7) [(.int r_13), (.int r_10), (.int r_7), (.int r_4), (.int 4), (.ref b284), (.ref b284)]) s₁ f0 := fun t k => R285 t (by
   refine XS.dup X284.here hx rfl (hb hby at_61) rfl rfl ?_
   refine XS.iload X284.here hx rfl (hb hby at_62) rfl ?_
   refine XS.iload X284.here hx rfl (hb hby at_64) rfl ?_
   refine XS.iload X284.here hx rfl (hb hby at_66) rfl ?_
   refine XS.iload X284.here hx rfl (hb hby at_68) rfl ?_
   refine XS.iload X284.here hx rfl (hb hby at_70) rfl ?_
   exact k)
  obtain ⟨_, _, ⟨T287, L287, k287, n287⟩, -, X287, ⟨Lc287, hQ287, l287, y287, z287⟩, st287⟩ := Jvm.LawKit.callS X284 hx (y := yN6) hown (mvT hZ (hU 8 _ rfl)) (mvT hZ (hU 9 _ rfl)) (mvT hZ (hU 2 _ rfl)) (mvT hZ (hU 10 _ rfl)) (by decide) (backOf (W := 2) (rmMk4 l Z a0 hw [] r_4 r_7 r_10 r_13 h284 n0 z284) hZ (hU 10 _ rfl) (hU 2 _ rfl) (by decide) (by decide)) (g := (mkF m 72 (fA25 b16 p0 p1 p2 p3 p4 p5 r_10 r_13 r_4 r_7) [(.int r_13), (.int r_10), (.int r_7), (.int r_4), (.int 4), (.ref b284), (.ref b284)])) rfl (by rw [hml]; rfl) (argsL := [(.int 4), (.int r_4), (.int r_7), (.int r_10), (.int r_13)]) (rest := [(.ref b284), (.ref b284)]) (lenOf pd_29 rfl) rfl (Nat.le_of_eq rfl) (hb hby at_72) (fun _ _ => ⟨rfl, e284, (by decide : 2 + 1 ≤ _), (by decide : 8 + 4 ≤ _)⟩)
  dsimp only [Pt.U, Pt.locs, Pt.cells, Pt.slots] at X287 l287 y287 z287 st287 hQ287
  subst l287 y287 z287
  obtain ⟨b_287, kb_287, rfl, N287q, p287_0, p287_1, p287_2⟩ := hQ287
  have N287 := Fr.app N28 N287q
  have f287_S_String_COMPACT_STRINGS := own_sta_keep f284_S_String_COMPACT_STRINGS p287_0 ns0
  have f287_S_Preconditions_SIOOBE_FORMATTER := own_sta_keep f284_S_Preconditions_SIOOBE_FORMATTER p287_0 ns0
  have f287_A_b16 := f284_A_b16.keep p287_0 nin0
  have f287_E_b284 := A284.keep p287_0
  have f287_F_value_b284 := d284_value.keep p287_0 nin0
  have f287_F_coder_b284 := d284_coder.keep p287_0 nin0
  have z287 : n0 ≤ T287.heap.size := Nat.le_trans z284 p287_0.1
  have K287 : Keep h0 T287.heap [] := K284.trans p287_0 all0
  have g_b_287 : n0 ≤ b_287 := Nat.le_trans z284 p287_2
  have sz_b_287 : h0.size ≤ b_287 := Nat.le_trans K284.1 p287_2
  have ne_b16_b_287 : b16 ≠ b_287 := Nat.ne_of_lt (Nat.lt_of_lt_of_le f284_A_b16.lt p287_2)
  have ne_b284_b_287 : b284 ≠ b_287 := Nat.ne_of_lt (Nat.lt_of_lt_of_le d284_value.lt p287_2)
  have R288 := fun t k => R286 t (st287 t k)
  obtain ⟨_, _, ⟨T289, L289, k289, n289⟩, -, X289, ⟨Lc289, hQ289, l289, y289, z289⟩, st289⟩ := X287.specialBack hx (y := yN13) rfl hown (mvT hZ (hU 11 _ rfl)) (mvT hZ (hU 12 _ rfl)) (mvT hZ (hU 13 _ rfl)) (by decide) (backOf (W := 1) (rmStr l Z a0 hw [] b284 b_287 .null (.int 0) kb_287 (4 : Int32) [(.int (nar .char r_4)), (.int (nar .char r_7)), (.int (nar .char r_10)), (.int (nar .char r_13))] [(.int (nar .byte ((nar .char r_4).toInt8.toInt32))), (.int (nar .byte ((nar .char r_7).toInt8.toInt32))), (.int (nar .byte ((nar .char r_10).toInt8.toInt32))), (.int (nar .byte ((nar .char r_13).toInt8.toInt32)))] cs T287.heap n0 z287 f287_E_b284 f287_F_value_b284 f287_F_coder_b284 g_b284 p287_1 ne_b284_b_287 f287_S_String_COMPACT_STRINGS hcs (by decide) (rmComp4 l Z a0 hw [] b_287 kb_287 (nar .char r_4) (nar .char r_7) (nar .char r_10) (nar .char r_13) T287.heap n0 z287 p287_1 (own_h255 p4_1) (own_h255 p7_1) (own_h255 p10_1) (own_h255 p13_1))) hZ (hU 13 _ rfl) (hU 7 _ rfl) (by decide) (by decide)) (g := (mkF m 75 (fA25 b16 p0 p1 p2 p3 p4 p5 r_10 r_13 r_4 r_7) [(.ref b_287), (.ref b284), (.ref b284)])) rfl (by rw [hml]; rfl) (Steps.refl _) (a := b284) (argsL := [(.ref b_287)]) (rest := [(.ref b284)]) (lenOf pd_30 rfl) rfl (Nat.le_of_eq rfl) (hb hby at_75) (fun _ _ => ⟨rfl, rfl, (by decide : 3 + 1 ≤ _), (by decide : 12 + 4 ≤ _)⟩)
  dsimp only [Pt.U, Pt.locs, Pt.cells, Pt.slots] at X289 l289 y289 z289 st289 hQ289
  subst l289 y289 z289
  obtain ⟨b2_289, kb2_289, rfl, N289q, p289_0, p289_1, p289_2, p289_3, p289_4⟩ := hQ289
  have N289 := Fr.app N287 N289q
  have f289_S_String_COMPACT_STRINGS := own_sta_keep f287_S_String_COMPACT_STRINGS p289_0 (nsS f287_E_b284.nostat ns0)
  have f289_S_Preconditions_SIOOBE_FORMATTER := own_sta_keep f287_S_Preconditions_SIOOBE_FORMATTER p289_0 (nsS f287_E_b284.nostat ns0)
  have f289_A_b16 := f287_A_b16.keep p289_0 (ninS ne_b16_b284 nin0)
  have f289_E_b284 := f287_E_b284.keep p289_0
  have f289_A_b_287 := p287_1.keep p289_0 (ninS (Ne.symm ne_b284_b_287) nin0)
  have z289 : n0 ≤ T289.heap.size := Nat.le_trans z287 p289_0.1
  have K289 : Keep h0 T289.heap [] := K287.trans p289_0 (allS (Or.inr sz_b284) all0)
  have g_b2_289 : n0 ≤ b2_289 := Nat.le_trans z287 p289_4
  have sz_b2_289 : h0.size ≤ b2_289 := Nat.le_trans K287.1 p289_4
  have ne_b16_b2_289 : b16 ≠ b2_289 := Nat.ne_of_lt (Nat.lt_of_lt_of_le f287_A_b16.lt p289_4)
  have ne_b284_b2_289 : b284 ≠ b2_289 := Nat.ne_of_lt (Nat.lt_of_lt_of_le f287_F_value_b284.lt p289_4)
  have ne_b_287_b2_289 : b_287 ≠ b2_289 := Nat.ne_of_lt (Nat.lt_of_lt_of_le p287_1.lt p289_4)
  have R290 := fun t k => R288 t (st289.trans k)
  have R291 : own_R p e below T289 (mkF m 80 #[iv p0, iv p1, iv p2, iv p3, iv p4, own_l p5, .second, iv 4, iv r_4, iv r_7, iv r_10, iv r_13, rv b16, rv b284, .unset, .unset, .unset, .unset] []) s₁ f0 := fun t k => R290 t (by
   refine XS.astore X289.here hx rfl (hb hby at_78) rfl rfl (l' := #[iv p0, iv p1, iv p2, iv p3, iv p4, own_l p5, .second, iv 4, iv r_4, iv r_7, iv r_10, iv r_13, rv b16, rv b284, .unset, .unset, .unset, .unset]) rfl ?_
   exact k)
  rcases own_K4 (r_13 = (47 : Int32)) (r_10 = (47 : Int32)) (r_7 = (47 : Int32)) (r_4 = (47 : Int32)) with hK3 | ⟨hK3, hK2⟩ | ⟨hK3, hK2, hK1⟩ | ⟨hK3, hK2, hK1, hK0⟩ | ⟨hK3, hK2, hK1, hK0⟩
  ·
   have R292 : own_R p e below T289 (mkF m 83 (fA11 b16 b284 p0 p1 p2 p3 p4 p5 r_10 r_13 r_4 r_7) []) s₁ f0 := fun t k => R291 t (by
    refine XS.iconst X289.here hx rfl (hb hby at_80) ?_
    refine XS.istore X289.here hx rfl (hb hby at_81) rfl (l' := (fA11 b16 b284 p0 p1 p2 p3 p4 p5 r_10 r_13 r_4 r_7)) rfl ?_
    exact k)
   have R293 : own_R p e below T289 (mkF m 98 #[iv p0, iv p1, iv p2, iv p3, iv p4, own_l p5, .second, iv 4, iv r_4, iv r_7, iv r_10, iv r_13, rv b16, rv b284, iv (if r_4 = (47 : Int32) then (0 : Int32) else (-1 : Int32)), .unset, .unset, .unset] []) s₁ f0 := by
    intro t k
    refine R292 t ?_
    refine XS.iload X289.here hx rfl (hb hby at_83) rfl ?_
    refine XS.ifNo X289.here hx rfl (hb hby at_85) rfl ((if0 _ _).trans (tlt (by decide : (0 : Int32) < (4 : Int32))).2.2.2) ?_
    refine XS.iload X289.here hx rfl (hb hby at_88) rfl ?_
    refine XS.bipush X289.here hx rfl (hb hby at_90) ?_
    by_cases hm1 : r_4 = (47 : Int32)
    ·
     refine XS.icmpNo X289.here hx rfl (hb hby at_92) rfl (teq hm1).2 ?_
     refine XS.iconst X289.here hx rfl (hb hby at_95) ?_
     refine XS.istore X289.here hx rfl (hb hby at_96) rfl (l' := (fA19 b16 b284 p0 p1 p2 p3 p4 p5 r_10 r_13 r_4 r_7)) rfl ?_
     have hv : (if r_4 = (47 : Int32) then (0 : Int32) else (-1 : Int32)) = (0 : Int32) := by simp [hm1]
     rw [hv] at k
     exact k
    ·
     refine XS.icmpYes X289.here hx rfl (pc0 := 92) (pc' := 98) rfl (hb hby at_92) rfl (feq hm1).2 (by decide) (by decide) ?_
     have hv : (if r_4 = (47 : Int32) then (0 : Int32) else (-1 : Int32)) = (-1 : Int32) := by simp [hm1]
     rw [hv] at k
     exact k
   have R294 : own_R p e below T289 (mkF m 114 #[iv p0, iv p1, iv p2, iv p3, iv p4, own_l p5, .second, iv 4, iv r_4, iv r_7, iv r_10, iv r_13, rv b16, rv b284, iv (if r_7 = (47 : Int32) then (1 : Int32) else (if r_4 = (47 : Int32) then (0 : Int32) else (-1 : Int32))), .unset, .unset, .unset] []) s₁ f0 := by
    intro t k
    refine R293 t ?_
    refine XS.iload X289.here hx rfl (hb hby at_98) rfl ?_
    refine XS.iconst X289.here hx rfl (hb hby at_100) ?_
    refine XS.icmpNo X289.here hx rfl (hb hby at_101) rfl (tlt (by decide : (1 : Int32) < (4 : Int32))).2.2.2 ?_
    refine XS.iload X289.here hx rfl (hb hby at_104) rfl ?_
    refine XS.bipush X289.here hx rfl (hb hby at_106) ?_
    by_cases hm1 : r_7 = (47 : Int32)
    ·
     refine XS.icmpNo X289.here hx rfl (hb hby at_108) rfl (teq hm1).2 ?_
     refine XS.iconst X289.here hx rfl (hb hby at_111) ?_
     refine XS.istore X289.here hx rfl (hb hby at_112) rfl (l' := (fA31 b16 b284 p0 p1 p2 p3 p4 p5 r_10 r_13 r_4 r_7)) rfl ?_
     have hv : (if r_7 = (47 : Int32) then (1 : Int32) else (if r_4 = (47 : Int32) then (0 : Int32) else (-1 : Int32))) = (1 : Int32) := by simp [hm1]
     rw [hv] at k
     exact k
    ·
     refine XS.icmpYes X289.here hx rfl (pc0 := 108) (pc' := 114) rfl (hb hby at_108) rfl (feq hm1).2 (by decide) (by decide) ?_
     have hv : (if r_7 = (47 : Int32) then (1 : Int32) else (if r_4 = (47 : Int32) then (0 : Int32) else (-1 : Int32))) = (if r_4 = (47 : Int32) then (0 : Int32) else (-1 : Int32)) := by simp [hm1]
     rw [hv] at k
     exact k
   have R295 : own_R p e below T289 (mkF m 130 #[iv p0, iv p1, iv p2, iv p3, iv p4, own_l p5, .second, iv 4, iv r_4, iv r_7, iv r_10, iv r_13, rv b16, rv b284, iv (if r_10 = (47 : Int32) then (2 : Int32) else (if r_7 = (47 : Int32) then (1 : Int32) else (if r_4 = (47 : Int32) then (0 : Int32) else (-1 : Int32)))), .unset, .unset, .unset] []) s₁ f0 := by
    intro t k
    refine R294 t ?_
    refine XS.iload X289.here hx rfl (hb hby at_114) rfl ?_
    refine XS.iconst X289.here hx rfl (hb hby at_116) ?_
    refine XS.icmpNo X289.here hx rfl (hb hby at_117) rfl (tlt (by decide : (2 : Int32) < (4 : Int32))).2.2.2 ?_
    refine XS.iload X289.here hx rfl (hb hby at_120) rfl ?_
    refine XS.bipush X289.here hx rfl (hb hby at_122) ?_
    by_cases hm1 : r_10 = (47 : Int32)
    ·
     refine XS.icmpNo X289.here hx rfl (hb hby at_124) rfl (teq hm1).2 ?_
     refine XS.iconst X289.here hx rfl (hb hby at_127) ?_
     refine XS.istore X289.here hx rfl (hb hby at_128) rfl (l' := #[iv p0, iv p1, iv p2, iv p3, iv p4, own_l p5, .second, iv 4, iv r_4, iv r_7, iv r_10, iv r_13, rv b16, rv b284, iv 2, .unset, .unset, .unset]) rfl ?_
     have hv : (if r_10 = (47 : Int32) then (2 : Int32) else (if r_7 = (47 : Int32) then (1 : Int32) else (if r_4 = (47 : Int32) then (0 : Int32) else (-1 : Int32)))) = (2 : Int32) := by simp [hm1]
     rw [hv] at k
     exact k
    ·
     refine XS.icmpYes X289.here hx rfl (pc0 := 124) (pc' := 130) rfl (hb hby at_124) rfl (feq hm1).2 (by decide) (by decide) ?_
     have hv : (if r_10 = (47 : Int32) then (2 : Int32) else (if r_7 = (47 : Int32) then (1 : Int32) else (if r_4 = (47 : Int32) then (0 : Int32) else (-1 : Int32)))) = (if r_7 = (47 : Int32) then (1 : Int32) else (if r_4 = (47 : Int32) then (0 : Int32) else (-1 : Int32))) := by simp [hm1]
     rw [hv] at k
     exact k
   have R296 : own_R p e below T289 (mkF m 155 (fA35 b16 b284 p0 p1 p2 p3 p4 p5 r_10 r_13 r_4 r_7) []) s₁ f0 := fun t k => R295 t (by
    refine XS.iload X289.here hx rfl (hb hby at_130) rfl ?_
    refine XS.iconst X289.here hx rfl (hb hby at_132) ?_
    refine XS.icmpNo X289.here hx rfl (hb hby at_133) rfl (tlt (by decide : (3 : Int32) < (4 : Int32))).2.2.2 ?_
    refine XS.iload X289.here hx rfl (hb hby at_136) rfl ?_
    refine XS.bipush X289.here hx rfl (hb hby at_138) ?_
    refine XS.icmpNo X289.here hx rfl (hb hby at_140) rfl (teq hK3).2 ?_
    refine XS.iconst X289.here hx rfl (hb hby at_143) ?_
    refine XS.istore X289.here hx rfl (hb hby at_144) rfl (l' := #[iv p0, iv p1, iv p2, iv p3, iv p4, own_l p5, .second, iv 4, iv r_4, iv r_7, iv r_10, iv r_13, rv b16, rv b284, iv 3, .unset, .unset, .unset]) rfl ?_
    refine XS.iload X289.here hx rfl (hb hby at_146) rfl ?_
    refine XS.iload X289.here hx rfl (hb hby at_148) rfl ?_
    refine XS.isub X289.here hx rfl (hb hby at_150) rfl ?_
    refine XS.iconst X289.here hx rfl (hb hby at_151) ?_
    show own_S p e below T289 (mkF m 152 #[iv p0, iv p1, iv p2, iv p3, iv p4, own_l p5, .second, iv 4, iv r_4, iv r_7, iv r_10, iv r_13, rv b16, rv b284, iv 3, .unset, .unset, .unset] [(.int 1), (.int 1)]) _
    refine XS.isub X289.here hx rfl (hb hby at_152) rfl ?_
    refine XS.istore X289.here hx rfl (hb hby at_153) rfl (l' := (fA35 b16 b284 p0 p1 p2 p3 p4 p5 r_10 r_13 r_4 r_7)) rfl ?_
    exact k)
   obtain ⟨T297, h297, X297, e297, E297, A297, D297, -, st297⟩ := newO X289 hx hZ hown (hU 29 _ rfl) (hU 30 _ rfl) (hU 31 _ rfl) rfl (g := (mkF m 155 (fA35 b16 b284 p0 p1 p2 p3 p4 p5 r_10 r_13 r_4 r_7) [])) rfl (hb hby at_155) (by decide) (by decide)
   obtain ⟨b297, g297⟩ : ∃ z, z = T289.heap.size := ⟨_, rfl⟩
   rw [← g297] at A297 D297 st297
   have g_b297 : n0 ≤ b297 := Nat.le_trans z289 (Nat.le_of_eq g297.symm)
   have sz_b297 : h0.size ≤ b297 := Nat.le_trans K289.1 (Nat.le_of_eq g297.symm)
   have ne_b16_b297 : b16 ≠ b297 := Nat.ne_of_lt (Nat.lt_of_lt_of_le f289_A_b16.lt (Nat.le_of_eq g297.symm))
   have ne_b284_b297 : b284 ≠ b297 := Nat.ne_of_lt (Nat.lt_of_lt_of_le f289_E_b284.lt (Nat.le_of_eq g297.symm))
   have ne_b2_289_b297 : b2_289 ≠ b297 := Nat.ne_of_lt (Nat.lt_of_lt_of_le p289_3.lt (Nat.le_of_eq g297.symm))
   have f297_S_String_COMPACT_STRINGS := f289_S_String_COMPACT_STRINGS.ext E297
   have f297_S_Preconditions_SIOOBE_FORMATTER := f289_S_Preconditions_SIOOBE_FORMATTER.ext E297
   have f297_A_b16 := f289_A_b16.ext E297
   have f297_E_b284 := f289_E_b284.ext E297
   have f297_F_value_b284 := p289_1.ext E297
   have f297_F_coder_b284 := p289_2.ext E297
   have f297_A_b2_289 := p289_3.ext E297
   have z297 : n0 ≤ h297.size := Nat.le_trans z289 E297.1
   have K297 : Keep h0 h297 [] := K289.ext E297
   have d297_path : Fld Z h297 b297 sN0 "path" "Ljava/lang/String;" .null := D297 (Or.inr (hU 37 _ rfl)) (ty := (.object "java/lang/String")) (by decide)
   have d297_creationZxid : Fld Z h297 b297 sN0 "creationZxid" "J" (.long (0 : Int64)) := D297 (Or.inr (hU 39 _ rfl)) (ty := .long) (by decide)
   have R298 := fun t k => R296 t (st297 t k)
   have R299 : own_R p e below T297 (mkF m 163 (fA35 b16 b284 p0 p1 p2 p3 p4 p5 r_10 r_13 r_4 r_7) [(.long p5), (.ref b284), (.ref b297), (.ref b297)]) s₁ f0 := fun t k => R298 t (by
    refine XS.dup X297.here hx rfl (hb hby at_158) rfl rfl ?_
    refine XS.aload X297.here hx rfl (hb hby at_159) rfl rfl ?_
    refine XS.lload X297.here hx rfl (hb hby at_161) rfl ?_
    exact k)
   obtain ⟨_, _, ⟨T300, L300, k300, n300⟩, -, X300, ⟨Lc300, hQ300, l300, y300, z300⟩, st300⟩ := X297.specialBack hx (y := yN5) rfl hown (mvT hZ (hU 32 _ rfl)) (mvT hZ (hU 33 _ rfl)) (mvT hZ (hU 34 _ rfl)) (by decide) (backOf (W := 1) (rmQni l Z a0 hw [] b297 b284 p5 .null (.long (0 : Int64)) h297 n0 z297 A297 d297_path d297_creationZxid g_b297) hZ (hU 34 _ rfl) (hU 31 _ rfl) (by decide) (by decide)) (g := (mkF m 163 (fA35 b16 b284 p0 p1 p2 p3 p4 p5 r_10 r_13 r_4 r_7) [(.long p5), (.ref b284), (.ref b297), (.ref b297)])) rfl (by rw [hml]; rfl) (Steps.refl _) (a := b297) (argsL := [(.ref b284), (.long p5)]) (rest := [(.ref b297)]) (lenOf pd_31 rfl) rfl (Nat.le_of_eq rfl) (hb hby at_163) (fun _ _ => ⟨rfl, e297, (by decide : 5 + 0 ≤ _), (by decide : 18 + 0 ≤ _)⟩)
   dsimp only [Pt.U, Pt.locs, Pt.cells, Pt.slots] at X300 l300 y300 z300 st300 hQ300
   subst l300 y300 z300
   obtain ⟨rfl, N300q, p300_0, p300_1⟩ := hQ300
   have N300 := Fr.app N289 N300q
   have f300_S_String_COMPACT_STRINGS := own_sta_keep f297_S_String_COMPACT_STRINGS p300_0 (nsS A297.nostat ns0)
   have f300_S_Preconditions_SIOOBE_FORMATTER := own_sta_keep f297_S_Preconditions_SIOOBE_FORMATTER p300_0 (nsS A297.nostat ns0)
   have f300_A_b16 := f297_A_b16.keep p300_0 (ninS ne_b16_b297 nin0)
   have f300_E_b284 := f297_E_b284.keep p300_0
   have f300_F_value_b284 := f297_F_value_b284.keep p300_0 (ninS ne_b284_b297 nin0)
   have f300_F_coder_b284 := f297_F_coder_b284.keep p300_0 (ninS ne_b284_b297 nin0)
   have f300_A_b2_289 := f297_A_b2_289.keep p300_0 (ninS ne_b2_289_b297 nin0)
   have f300_E_b297 := A297.keep p300_0
   have z300 : n0 ≤ T300.heap.size := Nat.le_trans z297 p300_0.1
   have K300 : Keep h0 T300.heap [] := K297.trans p300_0 (allS (Or.inr sz_b297) all0)
   have R301 := fun t k => R299 t (st300.trans k)
   have R302 : own_R p e below T300 (mkF m 170 #[iv p0, iv p1, iv p2, iv p3, iv p4, own_l p5, .second, iv 4, iv r_4, iv r_7, iv r_10, iv r_13, rv b16, rv b284, iv 3, iv 0, rv b297, .unset] [(.ref b297)]) s₁ f0 := fun t k => R301 t (by
    refine XS.astore X300.here hx rfl (hb hby at_166) rfl rfl (l' := #[iv p0, iv p1, iv p2, iv p3, iv p4, own_l p5, .second, iv 4, iv r_4, iv r_7, iv r_10, iv r_13, rv b16, rv b284, iv 3, iv 0, rv b297, .unset]) rfl ?_
    refine XS.aload X300.here hx rfl (hb hby at_168) rfl rfl ?_
    exact k)
   obtain ⟨cq303, kq303, q303a, q303b, q303c⟩ := isOf hZ rfl f300_E_b297
   obtain ⟨_, _, ⟨T303, L303, k303, n303⟩, -, X303, S303, gq303, ⟨Lc303, hQ303, l303, y303, z303⟩, st303⟩ := X300.virtualBackS hx (y := yN2) (z := yN2) hown (mvT hZ (hU 40 _ rfl)) (mvT hZ (hU 41 _ rfl)) (notFace_of_selects (args := #[]) (mvT hZ (hU 43 _ rfl))) (mvT hZ (hU 43 _ rfl)) (mvT hZ (hU 42 _ rfl)) (by decide) (own_backS (s := s) (vm0 := s.vm) (W := 0) (rmNmE l Z a0 hw [] b297 b284 b2_289 kb2_289 (4 : Int32) [(.int (nar .byte ((nar .char r_4).toInt8.toInt32))), (.int (nar .byte ((nar .char r_7).toInt8.toInt32))), (.int (nar .byte ((nar .char r_10).toInt8.toInt32))), (.int (nar .byte ((nar .char r_13).toInt8.toInt32)))] cs sf (3 : Int32) (own_li4 (nar .byte ((nar .char r_4).toInt8.toInt32)) (nar .byte ((nar .char r_7).toInt8.toInt32)) (nar .byte ((nar .char r_10).toInt8.toInt32)) (nar .byte ((nar .char r_13).toInt8.toInt32))) T300.heap n0 z300 f300_E_b297 p300_1 f300_E_b284 f300_F_coder_b284 f300_F_value_b284 f300_A_b2_289 f300_S_String_COMPACT_STRINGS hcs f300_S_Preconditions_SIOOBE_FORMATTER hsf (by decide) (by decide) (by decide) (rmLli4 l Z a0 hw [] b2_289 kb2_289 (nar .byte ((nar .char r_4).toInt8.toInt32)) (nar .byte ((nar .char r_7).toInt8.toInt32)) (nar .byte ((nar .char r_10).toInt8.toInt32)) (nar .byte ((nar .char r_13).toInt8.toInt32)) T300.heap n0 z300 f300_A_b2_289) (own_lk43 (own_b47 hK3))) hZ (hU 44 _ rfl) (hU 31 _ rfl) (by decide) (by decide) hEL (CHv.keep K300 (fun _ h => nomatch h) hCH)) q303a q303c (g := (mkF m 170 #[iv p0, iv p1, iv p2, iv p3, iv p4, own_l p5, .second, iv 4, iv r_4, iv r_7, iv r_10, iv r_13, rv b16, rv b284, iv 3, iv 0, rv b297, .unset] [(.ref b297)])) rfl (by rw [hml]; rfl) (Steps.refl _) (argsL := []) (rest := []) (lenOf pd_32 rfl) rfl (Nat.le_of_eq rfl) (hb hby at_170) (fun _ _ => ⟨rfl, rfl, (by decide : 5 + 2 ≤ _), (by decide : 18 + 4 ≤ _)⟩)
   dsimp only [Pt.U, Pt.locs, Pt.cells, Pt.slots] at X303 l303 y303 z303 st303 hQ303 S303 gq303
   subst l303 y303 z303
   have hZ : Z.Warmed39 (s.setVm T303.vm).vm := State.Warmed39.trans (t := s) hZ S303.1
   have hown : (s.setVm T303.vm).vm.findClass sN1 = some m.cls := by rw [show (s.setVm T303.vm).vm = T303.vm from rfl, S303.1.alike.findClass]; exact hown
   obtain ⟨r_303, b2_303, kb2_303, rfl, N303q, p303_0, p303_1, p303_2, p303_3, p303_4⟩ := hQ303
   have N303 := Fr.app N300 N303q
   have f303_S_String_COMPACT_STRINGS := own_sta_keep f300_S_String_COMPACT_STRINGS p303_0 ns0
   have f303_S_Preconditions_SIOOBE_FORMATTER := own_sta_keep f300_S_Preconditions_SIOOBE_FORMATTER p303_0 ns0
   have f303_A_b16 := f300_A_b16.keep p303_0 nin0
   have f303_E_b284 := f300_E_b284.keep p303_0
   have f303_F_value_b284 := f300_F_value_b284.keep p303_0 nin0
   have f303_F_coder_b284 := f300_F_coder_b284.keep p303_0 nin0
   have f303_A_b2_289 := f300_A_b2_289.keep p303_0 nin0
   have f303_E_b297 := f300_E_b297.keep p303_0
   have f303_F_path_b297 := p300_1.keep p303_0 nin0
   have z303 : n0 ≤ T303.heap.size := Nat.le_trans z300 p303_0.1
   have K303 : Keep h0 T303.heap [] := K300.trans p303_0 all0
   have R304 := fun t k => R302 t (st303.trans k)
   have R305 : own_R p e below T303 (mkF m 177 (fA14 b16 b284 b297 p0 p1 p2 p3 p4 p5 r_10 r_13 r_303 r_4 r_7) [(.ref r_303)]) s₁ f0 := fun t k => R304 t (by
    refine XS.astore X303.here hx rfl (hb hby at_173) rfl rfl (l' := (fA14 b16 b284 b297 p0 p1 p2 p3 p4 p5 r_10 r_13 r_303 r_4 r_7)) rfl ?_
    refine XS.aload X303.here hx rfl (hb hby at_175) rfl rfl ?_
    exact k)
   obtain ⟨cq306, kq306, q306a, q306b, q306c⟩ := isOf hZ rfl p303_1
   obtain ⟨_, _, ⟨T306, L306, k306, n306⟩, -, X306, ⟨Lc306, hQ306, l306, y306, z306⟩, st306⟩ := X303.virtualBack hx (y := yN0) (z := yN0) hown (mvT hZ (hU 100 _ rfl)) (mvT hZ (hU 51 _ rfl)) (notFace_of_selects (args := #[]) (mvT hZ (hU 53 _ rfl))) (mvT hZ (hU 53 _ rfl)) (mvT hZ (hU 52 _ rfl)) (by decide) (backOf (W := 0) (rmLen l Z a0 hw [] r_303 b2_303 kb2_303 (0 : Int32) [] (.int 0) cs T303.heap n0 z303 p303_1 p303_2 p303_3 p303_4 f303_S_String_COMPACT_STRINGS hcs) hZ (hU 54 _ rfl) (hU 7 _ rfl) (by decide) (by decide)) q306a q306c (g := (mkF m 177 (fA14 b16 b284 b297 p0 p1 p2 p3 p4 p5 r_10 r_13 r_303 r_4 r_7) [(.ref r_303)])) rfl (by rw [hml]; rfl) (Steps.refl _) (argsL := []) (rest := []) (lenOf pd_20 rfl) rfl (Nat.le_of_eq rfl) (hb hby at_177) (fun _ _ => ⟨rfl, rfl, (by decide : 7 + 0 ≤ _), (by decide : 22 + 0 ≤ _)⟩)
   dsimp only [Pt.U, Pt.locs, Pt.cells, Pt.slots] at X306 l306 y306 z306 st306 hQ306
   subst l306 y306 z306
   obtain ⟨rfl, N306q, p306_0⟩ := hQ306
   have N306 := Fr.app N303 N306q
   have R307 := fun t k => R305 t (st306.trans k)
   have R308 : own_R p e below T306 (mkF m 180 (fA14 b16 b284 b297 p0 p1 p2 p3 p4 p5 r_10 r_13 r_303 r_4 r_7) [(.int 0)]) s₁ f0 := by have q := R307; rw [((own_sh (0 : Int32)) : ((0 : Int32) >>> ((0 : Int32) &&& 31)) = (0 : Int32))] at q; exact q
   have R309 : own_R p e below T306 (mkF m 283 (fA14 b16 b284 b297 p0 p1 p2 p3 p4 p5 r_10 r_13 r_303 r_4 r_7) [(.int 1)]) s₁ f0 := fun t k => R308 t (by
    refine XS.iload X306.here hx rfl (hb hby at_180) rfl ?_
    refine XS.icmpYes X306.here hx rfl (pc0 := 182) (pc' := 187) rfl (hb hby at_182) rfl (teq (by decide : (0 : Int32) = (0 : Int32))).1 (by decide) (by decide) ?_
    refine XS.iload X306.here hx rfl (hb hby at_187) rfl ?_
    refine XS.ifYes X306.here hx rfl (pc0 := 189) (pc' := 210) rfl (hb hby at_189) rfl ((if0 _ _).trans (flt (by decide : ¬ ((0 : Int32) < (0 : Int32)))).2.2.2) (by decide) (by decide) ?_
    refine XS.iload X306.here hx rfl (hb hby at_210) rfl ?_
    refine XS.iconst X306.here hx rfl (hb hby at_212) ?_
    refine XS.icmpYes X306.here hx rfl (pc0 := 213) (pc' := 234) rfl (hb hby at_213) rfl (flt (by decide : ¬ ((1 : Int32) < (0 : Int32)))).2.2.2 (by decide) (by decide) ?_
    refine XS.iload X306.here hx rfl (hb hby at_234) rfl ?_
    refine XS.iconst X306.here hx rfl (hb hby at_236) ?_
    refine XS.icmpYes X306.here hx rfl (pc0 := 237) (pc' := 258) rfl (hb hby at_237) rfl (flt (by decide : ¬ ((2 : Int32) < (0 : Int32)))).2.2.2 (by decide) (by decide) ?_
    refine XS.iload X306.here hx rfl (hb hby at_258) rfl ?_
    refine XS.iconst X306.here hx rfl (hb hby at_260) ?_
    show own_S p e below T306 (mkF m 261 (fA14 b16 b284 b297 p0 p1 p2 p3 p4 p5 r_10 r_13 r_303 r_4 r_7) [(.int 3), (.int 0)]) _
    refine XS.icmpYes X306.here hx rfl (pc0 := 261) (pc' := 282) rfl (hb hby at_261) rfl (flt (by decide : ¬ ((3 : Int32) < (0 : Int32)))).2.2.2 (by decide) (by decide) ?_
    refine XS.iconst X306.here hx rfl (hb hby at_282) ?_
    exact k)
   obtain ⟨fs, hr, hrun, hended, hend⟩ := X306.leaveW S303 (by rw [p306_0]; exact (Nat.le_refl _)) (v := some (.int 1)) (fun h => by rw [Bd.returns] at h; cases h)
   refine ⟨_, _, pre0 _ (R309 _ ?_), hrun, hended, _, _, rfl, ?_, hend.1, hend.2.1, hend.2.2.1, hend.2.2.2.mono (by decide) (by decide)⟩
   ·
    show own_S p e below T306 (mkF m 283 (fA14 b16 b284 b297 p0 p1 p2 p3 p4 p5 r_10 r_13 r_303 r_4 r_7) [(.int 1)]) _
    exact retN X306 hx (t := .boolean) Bd.returns (by simp) (hb hby at_283) hr
   ·
    show Q_rmLaw Z p0 p1 p2 p3 p4 p5 cs sf h0 n0 _ T306.heap _
    rw [p306_0]
    exact ⟨rfl, N306⟩
  ·
   have R310 : own_R p e below T289 (mkF m 83 (fA11 b16 b284 p0 p1 p2 p3 p4 p5 r_10 r_13 r_4 r_7) []) s₁ f0 := fun t k => R291 t (by
    refine XS.iconst X289.here hx rfl (hb hby at_80) ?_
    refine XS.istore X289.here hx rfl (hb hby at_81) rfl (l' := (fA11 b16 b284 p0 p1 p2 p3 p4 p5 r_10 r_13 r_4 r_7)) rfl ?_
    exact k)
   have R311 : own_R p e below T289 (mkF m 98 #[iv p0, iv p1, iv p2, iv p3, iv p4, own_l p5, .second, iv 4, iv r_4, iv r_7, iv r_10, iv r_13, rv b16, rv b284, iv (if r_4 = (47 : Int32) then (0 : Int32) else (-1 : Int32)), .unset, .unset, .unset] []) s₁ f0 := by
    intro t k
    refine R310 t ?_
    refine XS.iload X289.here hx rfl (hb hby at_83) rfl ?_
    refine XS.ifNo X289.here hx rfl (hb hby at_85) rfl ((if0 _ _).trans (tlt (by decide : (0 : Int32) < (4 : Int32))).2.2.2) ?_
    refine XS.iload X289.here hx rfl (hb hby at_88) rfl ?_
    refine XS.bipush X289.here hx rfl (hb hby at_90) ?_
    by_cases hm1 : r_4 = (47 : Int32)
    ·
     refine XS.icmpNo X289.here hx rfl (hb hby at_92) rfl (teq hm1).2 ?_
     refine XS.iconst X289.here hx rfl (hb hby at_95) ?_
     refine XS.istore X289.here hx rfl (hb hby at_96) rfl (l' := (fA19 b16 b284 p0 p1 p2 p3 p4 p5 r_10 r_13 r_4 r_7)) rfl ?_
     have hv : (if r_4 = (47 : Int32) then (0 : Int32) else (-1 : Int32)) = (0 : Int32) := by simp [hm1]
     rw [hv] at k
     exact k
    ·
     refine XS.icmpYes X289.here hx rfl (pc0 := 92) (pc' := 98) rfl (hb hby at_92) rfl (feq hm1).2 (by decide) (by decide) ?_
     have hv : (if r_4 = (47 : Int32) then (0 : Int32) else (-1 : Int32)) = (-1 : Int32) := by simp [hm1]
     rw [hv] at k
     exact k
   have R312 : own_R p e below T289 (mkF m 114 #[iv p0, iv p1, iv p2, iv p3, iv p4, own_l p5, .second, iv 4, iv r_4, iv r_7, iv r_10, iv r_13, rv b16, rv b284, iv (if r_7 = (47 : Int32) then (1 : Int32) else (if r_4 = (47 : Int32) then (0 : Int32) else (-1 : Int32))), .unset, .unset, .unset] []) s₁ f0 := by
    intro t k
    refine R311 t ?_
    refine XS.iload X289.here hx rfl (hb hby at_98) rfl ?_
    refine XS.iconst X289.here hx rfl (hb hby at_100) ?_
    refine XS.icmpNo X289.here hx rfl (hb hby at_101) rfl (tlt (by decide : (1 : Int32) < (4 : Int32))).2.2.2 ?_
    refine XS.iload X289.here hx rfl (hb hby at_104) rfl ?_
    refine XS.bipush X289.here hx rfl (hb hby at_106) ?_
    by_cases hm1 : r_7 = (47 : Int32)
    ·
     refine XS.icmpNo X289.here hx rfl (hb hby at_108) rfl (teq hm1).2 ?_
     refine XS.iconst X289.here hx rfl (hb hby at_111) ?_
     refine XS.istore X289.here hx rfl (hb hby at_112) rfl (l' := (fA31 b16 b284 p0 p1 p2 p3 p4 p5 r_10 r_13 r_4 r_7)) rfl ?_
     have hv : (if r_7 = (47 : Int32) then (1 : Int32) else (if r_4 = (47 : Int32) then (0 : Int32) else (-1 : Int32))) = (1 : Int32) := by simp [hm1]
     rw [hv] at k
     exact k
    ·
     refine XS.icmpYes X289.here hx rfl (pc0 := 108) (pc' := 114) rfl (hb hby at_108) rfl (feq hm1).2 (by decide) (by decide) ?_
     have hv : (if r_7 = (47 : Int32) then (1 : Int32) else (if r_4 = (47 : Int32) then (0 : Int32) else (-1 : Int32))) = (if r_4 = (47 : Int32) then (0 : Int32) else (-1 : Int32)) := by simp [hm1]
     rw [hv] at k
     exact k
   have R313 : own_R p e below T289 (mkF m 155 (fA36 b16 b284 p0 p1 p2 p3 p4 p5 r_10 r_13 r_4 r_7) []) s₁ f0 := fun t k => R312 t (by
    refine XS.iload X289.here hx rfl (hb hby at_114) rfl ?_
    refine XS.iconst X289.here hx rfl (hb hby at_116) ?_
    refine XS.icmpNo X289.here hx rfl (hb hby at_117) rfl (tlt (by decide : (2 : Int32) < (4 : Int32))).2.2.2 ?_
    refine XS.iload X289.here hx rfl (hb hby at_120) rfl ?_
    refine XS.bipush X289.here hx rfl (hb hby at_122) ?_
    refine XS.icmpNo X289.here hx rfl (hb hby at_124) rfl (teq hK2).2 ?_
    refine XS.iconst X289.here hx rfl (hb hby at_127) ?_
    refine XS.istore X289.here hx rfl (hb hby at_128) rfl (l' := #[iv p0, iv p1, iv p2, iv p3, iv p4, own_l p5, .second, iv 4, iv r_4, iv r_7, iv r_10, iv r_13, rv b16, rv b284, iv 2, .unset, .unset, .unset]) rfl ?_
    refine XS.iload X289.here hx rfl (hb hby at_130) rfl ?_
    refine XS.iconst X289.here hx rfl (hb hby at_132) ?_
    refine XS.icmpNo X289.here hx rfl (hb hby at_133) rfl (tlt (by decide : (3 : Int32) < (4 : Int32))).2.2.2 ?_
    refine XS.iload X289.here hx rfl (hb hby at_136) rfl ?_
    show own_S p e below T289 (mkF m 138 #[iv p0, iv p1, iv p2, iv p3, iv p4, own_l p5, .second, iv 4, iv r_4, iv r_7, iv r_10, iv r_13, rv b16, rv b284, iv 2, .unset, .unset, .unset] [(.int r_13)]) _
    refine XS.bipush X289.here hx rfl (hb hby at_138) ?_
    refine XS.icmpYes X289.here hx rfl (pc0 := 140) (pc' := 146) rfl (hb hby at_140) rfl (feq hK3).2 (by decide) (by decide) ?_
    refine XS.iload X289.here hx rfl (hb hby at_146) rfl ?_
    refine XS.iload X289.here hx rfl (hb hby at_148) rfl ?_
    refine XS.isub X289.here hx rfl (hb hby at_150) rfl ?_
    refine XS.iconst X289.here hx rfl (hb hby at_151) ?_
    refine XS.isub X289.here hx rfl (hb hby at_152) rfl ?_
    refine XS.istore X289.here hx rfl (hb hby at_153) rfl (l' := (fA36 b16 b284 p0 p1 p2 p3 p4 p5 r_10 r_13 r_4 r_7)) rfl ?_
    exact k)
   obtain ⟨T314, h314, X314, e314, E314, A314, D314, -, st314⟩ := newO X289 hx hZ hown (hU 29 _ rfl) (hU 30 _ rfl) (hU 31 _ rfl) rfl (g := (mkF m 155 (fA36 b16 b284 p0 p1 p2 p3 p4 p5 r_10 r_13 r_4 r_7) [])) rfl (hb hby at_155) (by decide) (by decide)
   obtain ⟨b314, g314⟩ : ∃ z, z = T289.heap.size := ⟨_, rfl⟩
   rw [← g314] at A314 D314 st314
   have g_b314 : n0 ≤ b314 := Nat.le_trans z289 (Nat.le_of_eq g314.symm)
   have sz_b314 : h0.size ≤ b314 := Nat.le_trans K289.1 (Nat.le_of_eq g314.symm)
   have ne_b16_b314 : b16 ≠ b314 := Nat.ne_of_lt (Nat.lt_of_lt_of_le f289_A_b16.lt (Nat.le_of_eq g314.symm))
   have ne_b284_b314 : b284 ≠ b314 := Nat.ne_of_lt (Nat.lt_of_lt_of_le f289_E_b284.lt (Nat.le_of_eq g314.symm))
   have ne_b2_289_b314 : b2_289 ≠ b314 := Nat.ne_of_lt (Nat.lt_of_lt_of_le p289_3.lt (Nat.le_of_eq g314.symm))
   have f314_S_String_COMPACT_STRINGS := f289_S_String_COMPACT_STRINGS.ext E314
   have f314_S_Preconditions_SIOOBE_FORMATTER := f289_S_Preconditions_SIOOBE_FORMATTER.ext E314
   have f314_A_b16 := f289_A_b16.ext E314
   have f314_E_b284 := f289_E_b284.ext E314
   have f314_F_value_b284 := p289_1.ext E314
   have f314_F_coder_b284 := p289_2.ext E314
   have f314_A_b2_289 := p289_3.ext E314
   have z314 : n0 ≤ h314.size := Nat.le_trans z289 E314.1
   have K314 : Keep h0 h314 [] := K289.ext E314
   have d314_path : Fld Z h314 b314 sN0 "path" "Ljava/lang/String;" .null := D314 (Or.inr (hU 37 _ rfl)) (ty := (.object "java/lang/String")) (by decide)
   have d314_creationZxid : Fld Z h314 b314 sN0 "creationZxid" "J" (.long (0 : Int64)) := D314 (Or.inr (hU 39 _ rfl)) (ty := .long) (by decide)
   have R315 := fun t k => R313 t (st314 t k)
   have R316 : own_R p e below T314 (mkF m 163 (fA36 b16 b284 p0 p1 p2 p3 p4 p5 r_10 r_13 r_4 r_7) [(.long p5), (.ref b284), (.ref b314), (.ref b314)]) s₁ f0 := fun t k => R315 t (by
    refine XS.dup X314.here hx rfl (hb hby at_158) rfl rfl ?_
    refine XS.aload X314.here hx rfl (hb hby at_159) rfl rfl ?_
    refine XS.lload X314.here hx rfl (hb hby at_161) rfl ?_
    exact k)
   obtain ⟨_, _, ⟨T317, L317, k317, n317⟩, -, X317, ⟨Lc317, hQ317, l317, y317, z317⟩, st317⟩ := X314.specialBack hx (y := yN5) rfl hown (mvT hZ (hU 32 _ rfl)) (mvT hZ (hU 33 _ rfl)) (mvT hZ (hU 34 _ rfl)) (by decide) (backOf (W := 1) (rmQni l Z a0 hw [] b314 b284 p5 .null (.long (0 : Int64)) h314 n0 z314 A314 d314_path d314_creationZxid g_b314) hZ (hU 34 _ rfl) (hU 31 _ rfl) (by decide) (by decide)) (g := (mkF m 163 (fA36 b16 b284 p0 p1 p2 p3 p4 p5 r_10 r_13 r_4 r_7) [(.long p5), (.ref b284), (.ref b314), (.ref b314)])) rfl (by rw [hml]; rfl) (Steps.refl _) (a := b314) (argsL := [(.ref b284), (.long p5)]) (rest := [(.ref b314)]) (lenOf pd_31 rfl) rfl (Nat.le_of_eq rfl) (hb hby at_163) (fun _ _ => ⟨rfl, e314, (by decide : 5 + 0 ≤ _), (by decide : 18 + 0 ≤ _)⟩)
   dsimp only [Pt.U, Pt.locs, Pt.cells, Pt.slots] at X317 l317 y317 z317 st317 hQ317
   subst l317 y317 z317
   obtain ⟨rfl, N317q, p317_0, p317_1⟩ := hQ317
   have N317 := Fr.app N289 N317q
   have f317_S_String_COMPACT_STRINGS := own_sta_keep f314_S_String_COMPACT_STRINGS p317_0 (nsS A314.nostat ns0)
   have f317_S_Preconditions_SIOOBE_FORMATTER := own_sta_keep f314_S_Preconditions_SIOOBE_FORMATTER p317_0 (nsS A314.nostat ns0)
   have f317_A_b16 := f314_A_b16.keep p317_0 (ninS ne_b16_b314 nin0)
   have f317_E_b284 := f314_E_b284.keep p317_0
   have f317_F_value_b284 := f314_F_value_b284.keep p317_0 (ninS ne_b284_b314 nin0)
   have f317_F_coder_b284 := f314_F_coder_b284.keep p317_0 (ninS ne_b284_b314 nin0)
   have f317_A_b2_289 := f314_A_b2_289.keep p317_0 (ninS ne_b2_289_b314 nin0)
   have f317_E_b314 := A314.keep p317_0
   have z317 : n0 ≤ T317.heap.size := Nat.le_trans z314 p317_0.1
   have K317 : Keep h0 T317.heap [] := K314.trans p317_0 (allS (Or.inr sz_b314) all0)
   have R318 := fun t k => R316 t (st317.trans k)
   have R319 : own_R p e below T317 (mkF m 170 #[iv p0, iv p1, iv p2, iv p3, iv p4, own_l p5, .second, iv 4, iv r_4, iv r_7, iv r_10, iv r_13, rv b16, rv b284, iv 2, iv 1, rv b314, .unset] [(.ref b314)]) s₁ f0 := fun t k => R318 t (by
    refine XS.astore X317.here hx rfl (hb hby at_166) rfl rfl (l' := #[iv p0, iv p1, iv p2, iv p3, iv p4, own_l p5, .second, iv 4, iv r_4, iv r_7, iv r_10, iv r_13, rv b16, rv b284, iv 2, iv 1, rv b314, .unset]) rfl ?_
    refine XS.aload X317.here hx rfl (hb hby at_168) rfl rfl ?_
    exact k)
   obtain ⟨cq320, kq320, q320a, q320b, q320c⟩ := isOf hZ rfl f317_E_b314
   obtain ⟨_, _, ⟨T320, L320, k320, n320⟩, -, X320, ⟨Lc320, hQ320, l320, y320, z320⟩, st320⟩ := X317.virtualBack hx (y := yN2) (z := yN2) hown (mvT hZ (hU 40 _ rfl)) (mvT hZ (hU 41 _ rfl)) (notFace_of_selects (args := #[]) (mvT hZ (hU 43 _ rfl))) (mvT hZ (hU 43 _ rfl)) (mvT hZ (hU 42 _ rfl)) (by decide) (backOf (W := 0) (rmNmM l Z a0 hw [] b314 b284 b2_289 kb2_289 (4 : Int32) [(.int (nar .byte ((nar .char r_4).toInt8.toInt32))), (.int (nar .byte ((nar .char r_7).toInt8.toInt32))), (.int (nar .byte ((nar .char r_10).toInt8.toInt32))), (.int (nar .byte ((nar .char r_13).toInt8.toInt32)))] cs sf (3 : Int32) (1 : Int32) [(.int (nar .byte ((nar .char r_13).toInt8.toInt32)))] (3 : Int32) (own_li4 (nar .byte ((nar .char r_4).toInt8.toInt32)) (nar .byte ((nar .char r_7).toInt8.toInt32)) (nar .byte ((nar .char r_10).toInt8.toInt32)) (nar .byte ((nar .char r_13).toInt8.toInt32))) T317.heap n0 z317 f317_E_b314 p317_1 f317_E_b284 f317_F_coder_b284 f317_F_value_b284 f317_A_b2_289 f317_S_String_COMPACT_STRINGS hcs f317_S_Preconditions_SIOOBE_FORMATTER hsf (by decide) (by decide) (by decide) (by decide) (by decide) (by decide) (fun h1 z1 A1 => rmCrb43 l Z a0 hw [] b2_289 kb2_289 (nar .byte ((nar .char r_4).toInt8.toInt32)) (nar .byte ((nar .char r_7).toInt8.toInt32)) (nar .byte ((nar .char r_10).toInt8.toInt32)) (nar .byte ((nar .char r_13).toInt8.toInt32)) h1 n0 z1 A1) (by decide) (rmLli4 l Z a0 hw [] b2_289 kb2_289 (nar .byte ((nar .char r_4).toInt8.toInt32)) (nar .byte ((nar .char r_7).toInt8.toInt32)) (nar .byte ((nar .char r_10).toInt8.toInt32)) (nar .byte ((nar .char r_13).toInt8.toInt32)) T317.heap n0 z317 f317_A_b2_289) (own_lk42 (own_n47 p13_1 hK3) (own_b47 hK2))) hZ (hU 44 _ rfl) (hU 31 _ rfl) (by decide) (by decide)) q320a q320c (g := (mkF m 170 #[iv p0, iv p1, iv p2, iv p3, iv p4, own_l p5, .second, iv 4, iv r_4, iv r_7, iv r_10, iv r_13, rv b16, rv b284, iv 2, iv 1, rv b314, .unset] [(.ref b314)])) rfl (by rw [hml]; rfl) (Steps.refl _) (argsL := []) (rest := []) (lenOf pd_32 rfl) rfl (Nat.le_of_eq rfl) (hb hby at_170) (fun _ _ => ⟨rfl, rfl, (by decide : 5 + 2 ≤ _), (by decide : 18 + 7 ≤ _)⟩)
   dsimp only [Pt.U, Pt.locs, Pt.cells, Pt.slots] at X320 l320 y320 z320 st320 hQ320
   subst l320 y320 z320
   obtain ⟨r_320, b2_320, kb2_320, rfl, N320q, p320_0, p320_1, p320_2, p320_3, p320_4, p320_5, p320_6⟩ := hQ320
   have N320 := Fr.app N317 N320q
   have f320_S_String_COMPACT_STRINGS := own_sta_keep f317_S_String_COMPACT_STRINGS p320_0 ns0
   have f320_S_Preconditions_SIOOBE_FORMATTER := own_sta_keep f317_S_Preconditions_SIOOBE_FORMATTER p320_0 ns0
   have f320_A_b16 := f317_A_b16.keep p320_0 nin0
   have f320_E_b284 := f317_E_b284.keep p320_0
   have f320_F_value_b284 := f317_F_value_b284.keep p320_0 nin0
   have f320_F_coder_b284 := f317_F_coder_b284.keep p320_0 nin0
   have f320_A_b2_289 := f317_A_b2_289.keep p320_0 nin0
   have f320_E_b314 := f317_E_b314.keep p320_0
   have f320_F_path_b314 := p317_1.keep p320_0 nin0
   have z320 : n0 ≤ T320.heap.size := Nat.le_trans z317 p320_0.1
   have K320 : Keep h0 T320.heap [] := K317.trans p320_0 all0
   have g_r_320 : n0 ≤ r_320 := Nat.le_trans z317 p320_5
   have sz_r_320 : h0.size ≤ r_320 := Nat.le_trans K317.1 p320_5
   have ne_b16_r_320 : b16 ≠ r_320 := Nat.ne_of_lt (Nat.lt_of_lt_of_le f317_A_b16.lt p320_5)
   have ne_b284_r_320 : b284 ≠ r_320 := Nat.ne_of_lt (Nat.lt_of_lt_of_le f317_F_value_b284.lt p320_5)
   have ne_b2_289_r_320 : b2_289 ≠ r_320 := Nat.ne_of_lt (Nat.lt_of_lt_of_le f317_A_b2_289.lt p320_5)
   have ne_b314_r_320 : b314 ≠ r_320 := Nat.ne_of_lt (Nat.lt_of_lt_of_le p317_1.lt p320_5)
   have g_b2_320 : n0 ≤ b2_320 := Nat.le_trans z317 p320_6
   have sz_b2_320 : h0.size ≤ b2_320 := Nat.le_trans K317.1 p320_6
   have ne_b16_b2_320 : b16 ≠ b2_320 := Nat.ne_of_lt (Nat.lt_of_lt_of_le f317_A_b16.lt p320_6)
   have ne_b284_b2_320 : b284 ≠ b2_320 := Nat.ne_of_lt (Nat.lt_of_lt_of_le f317_F_value_b284.lt p320_6)
   have ne_b2_289_b2_320 : b2_289 ≠ b2_320 := Nat.ne_of_lt (Nat.lt_of_lt_of_le f317_A_b2_289.lt p320_6)
   have ne_b314_b2_320 : b314 ≠ b2_320 := Nat.ne_of_lt (Nat.lt_of_lt_of_le p317_1.lt p320_6)
   have R321 := fun t k => R319 t (st320.trans k)
   have R322 : own_R p e below T320 (mkF m 177 (fA7 b16 b284 b314 p0 p1 p2 p3 p4 p5 r_10 r_13 r_320 r_4 r_7) [(.ref r_320)]) s₁ f0 := fun t k => R321 t (by
    refine XS.astore X320.here hx rfl (hb hby at_173) rfl rfl (l' := (fA7 b16 b284 b314 p0 p1 p2 p3 p4 p5 r_10 r_13 r_320 r_4 r_7)) rfl ?_
    refine XS.aload X320.here hx rfl (hb hby at_175) rfl rfl ?_
    exact k)
   obtain ⟨cq323, kq323, q323a, q323b, q323c⟩ := isOf hZ rfl p320_1
   obtain ⟨_, _, ⟨T323, L323, k323, n323⟩, -, X323, ⟨Lc323, hQ323, l323, y323, z323⟩, st323⟩ := X320.virtualBack hx (y := yN0) (z := yN0) hown (mvT hZ (hU 100 _ rfl)) (mvT hZ (hU 51 _ rfl)) (notFace_of_selects (args := #[]) (mvT hZ (hU 53 _ rfl))) (mvT hZ (hU 53 _ rfl)) (mvT hZ (hU 52 _ rfl)) (by decide) (backOf (W := 0) (rmLen l Z a0 hw [] r_320 b2_320 kb2_320 (1 : Int32) [(.int (nar .byte ((nar .char r_13).toInt8.toInt32)))] (.int 0) cs T320.heap n0 z320 p320_1 p320_2 p320_3 p320_4 f320_S_String_COMPACT_STRINGS hcs) hZ (hU 54 _ rfl) (hU 7 _ rfl) (by decide) (by decide)) q323a q323c (g := (mkF m 177 (fA7 b16 b284 b314 p0 p1 p2 p3 p4 p5 r_10 r_13 r_320 r_4 r_7) [(.ref r_320)])) rfl (by rw [hml]; rfl) (Steps.refl _) (argsL := []) (rest := []) (lenOf pd_20 rfl) rfl (Nat.le_of_eq rfl) (hb hby at_177) (fun _ _ => ⟨rfl, rfl, (by decide : 7 + 0 ≤ _), (by decide : 25 + 0 ≤ _)⟩)
   dsimp only [Pt.U, Pt.locs, Pt.cells, Pt.slots] at X323 l323 y323 z323 st323 hQ323
   subst l323 y323 z323
   obtain ⟨rfl, N323q, p323_0⟩ := hQ323
   have N323 := Fr.app N320 N323q
   have R324 := fun t k => R322 t (st323.trans k)
   have R325 : own_R p e below T323 (mkF m 180 (fA7 b16 b284 b314 p0 p1 p2 p3 p4 p5 r_10 r_13 r_320 r_4 r_7) [(.int 1)]) s₁ f0 := by have q := R324; rw [((own_sh (1 : Int32)) : ((1 : Int32) >>> ((0 : Int32) &&& 31)) = (1 : Int32))] at q; exact q
   have R326 : own_R p e below T323 (mkF m 195 (fA7 b16 b284 b314 p0 p1 p2 p3 p4 p5 r_10 r_13 r_320 r_4 r_7) [(.int 0), (.ref r_320)]) s₁ f0 := fun t k => R325 t (by
    refine XS.iload X323.here hx rfl (hb hby at_180) rfl ?_
    refine XS.icmpYes X323.here hx rfl (pc0 := 182) (pc' := 187) rfl (hb hby at_182) rfl (teq (by decide : (1 : Int32) = (1 : Int32))).1 (by decide) (by decide) ?_
    refine XS.iload X323.here hx rfl (hb hby at_187) rfl ?_
    refine XS.ifNo X323.here hx rfl (hb hby at_189) rfl ((if0 _ _).trans (tlt (by decide : (0 : Int32) < (1 : Int32))).2.2.2) ?_
    refine XS.aload X323.here hx rfl (hb hby at_192) rfl rfl ?_
    refine XS.iconst X323.here hx rfl (hb hby at_194) ?_
    exact k)
   obtain ⟨cq327, kq327, q327a, q327b, q327c⟩ := isOf hZ p323_0 p320_1
   obtain ⟨_, _, ⟨T327, L327, k327, n327⟩, -, X327, ⟨Lc327, hQ327, l327, y327, z327⟩, st327⟩ := X323.virtualBack hx (y := yN1) (z := yN1) hown (mvT hZ (hU 111 _ rfl)) (mvT hZ (hU 112 _ rfl)) (notFace_of_selects (args := #[]) (mvT hZ (hU 114 _ rfl))) (mvT hZ (hU 114 _ rfl)) (mvT hZ (hU 113 _ rfl)) (by decide) (backOf (W := 0) (rmCa l Z a0 hw [] r_320 (0 : Int32) b2_320 kb2_320 (1 : Int32) [(.int (nar .byte ((nar .char r_13).toInt8.toInt32)))] (.int 0) (nar .byte ((nar .char r_13).toInt8.toInt32)) cs sf T320.heap n0 z320 p320_1 p320_2 p320_3 p320_4 f320_S_String_COMPACT_STRINGS hcs f320_S_Preconditions_SIOOBE_FORMATTER hsf (by decide) (by decide) rfl) hZ (hU 115 _ rfl) (hU 7 _ rfl) (by decide) (by decide)) q327a q327c (g := (mkF m 195 (fA7 b16 b284 b314 p0 p1 p2 p3 p4 p5 r_10 r_13 r_320 r_4 r_7) [(.int 0), (.ref r_320)])) rfl (by rw [hml]; rfl) (Steps.refl _) (argsL := [(.int 0)]) (rest := []) (lenOf pd_28 rfl) rfl (Nat.le_of_eq rfl) (hb hby at_195) (fun _ _ => ⟨rfl, p323_0, (by decide : 7 + 0 ≤ _), (by decide : 25 + 0 ≤ _)⟩)
   dsimp only [Pt.U, Pt.locs, Pt.cells, Pt.slots] at X327 l327 y327 z327 st327 hQ327
   subst l327 y327 z327
   obtain ⟨rfl, N327q, p327_0⟩ := hQ327
   have N327 := Fr.app N323 N327q
   have R328 := fun t k => R326 t (st327.trans k)
   have R329 : own_R p e below T327 (mkF m 198 (fA7 b16 b284 b314 p0 p1 p2 p3 p4 p5 r_10 r_13 r_320 r_4 r_7) [(.int (nar .char r_13))]) s₁ f0 := by have q := R328; rw [((own_chb p13_1) : (own_ch (nar .byte ((nar .char r_13).toInt8.toInt32))) = (nar .char r_13))] at q; exact q
   have R330 : own_R p e below T327 (mkF m 204 (fA7 b16 b284 b314 p0 p1 p2 p3 p4 p5 r_10 r_13 r_320 r_4 r_7) [(.int 3), (.ref b16), (.int (nar .char r_13))]) s₁ f0 := fun t k => R329 t (by
    refine XS.aload X327.here hx rfl (hb hby at_198) rfl rfl ?_
    refine XS.iload X327.here hx rfl (hb hby at_200) rfl ?_
    refine XS.iconst X327.here hx rfl (hb hby at_202) ?_
    refine XS.iadd X327.here hx rfl (hb hby at_203) rfl ?_
    exact k)
   obtain ⟨cl331, Ar331, q331, S331, n331_, H331, G331⟩ := id f320_A_b16
   have hin331 : ¬ ((3 : Int32) < 0 ∨ cl331.slots.size ≤ ((3 : Int32)).toNatClampNeg) := inb_of S331 ⟨by decide, by decide⟩
   have hat331 : cl331.slots[((3 : Int32)).toNatClampNeg]? = some (.int (nar .char r_13)) := Has.at H331 hin331 rfl
   have R332 : own_R p e below T327 (mkF m 205 (fA7 b16 b284 b314 p0 p1 p2 p3 p4 p5 r_10 r_13 r_320 r_4 r_7) [(.int (nar .char r_13)), (.int (nar .char r_13))]) s₁ f0 := fun t k => R330 t (X327.caload hx (j := (3 : Int32)) (v := (.int (nar .char r_13))) (by rw [p327_0]; exact Ar331.1) (State.isArrayOf_alike hZ.alike Ar331.2.1) Ar331.2.2 hin331 hat331 (g := (mkF m 204 (fA7 b16 b284 b314 p0 p1 p2 p3 p4 p5 r_10 r_13 r_320 r_4 r_7) [(.int 3), (.ref b16), (.int (nar .char r_13))])) rfl rfl (hb hby at_204) _ k)
   have R333 : own_R p e below T327 (mkF m 283 (fA7 b16 b284 b314 p0 p1 p2 p3 p4 p5 r_10 r_13 r_320 r_4 r_7) [(.int 1)]) s₁ f0 := fun t k => R332 t (by
    refine XS.icmpYes X327.here hx rfl (pc0 := 205) (pc' := 210) rfl (hb hby at_205) rfl (teq rfl).1 (by decide) (by decide) ?_
    refine XS.iload X327.here hx rfl (hb hby at_210) rfl ?_
    refine XS.iconst X327.here hx rfl (hb hby at_212) ?_
    refine XS.icmpYes X327.here hx rfl (pc0 := 213) (pc' := 234) rfl (hb hby at_213) rfl (flt (by decide : ¬ ((1 : Int32) < (1 : Int32)))).2.2.2 (by decide) (by decide) ?_
    refine XS.iload X327.here hx rfl (hb hby at_234) rfl ?_
    refine XS.iconst X327.here hx rfl (hb hby at_236) ?_
    refine XS.icmpYes X327.here hx rfl (pc0 := 237) (pc' := 258) rfl (hb hby at_237) rfl (flt (by decide : ¬ ((2 : Int32) < (1 : Int32)))).2.2.2 (by decide) (by decide) ?_
    refine XS.iload X327.here hx rfl (hb hby at_258) rfl ?_
    refine XS.iconst X327.here hx rfl (hb hby at_260) ?_
    refine XS.icmpYes X327.here hx rfl (pc0 := 261) (pc' := 282) rfl (hb hby at_261) rfl (flt (by decide : ¬ ((3 : Int32) < (1 : Int32)))).2.2.2 (by decide) (by decide) ?_
    refine XS.iconst X327.here hx rfl (hb hby at_282) ?_
    exact k)
   obtain ⟨fs, hr, hrun, hended, hW, hsame⟩ := X327.leave (v := some (.int 1)) (fun h => by rw [Bd.returns] at h; cases h)
   have hend := ReturnedEndW.of_narrow (o := Outcome.returned (some (.int 1))) ⟨_, rfl⟩ hW hsame
   refine ⟨_, _, pre0 _ (R333 _ ?_), hrun, hended, _, _, rfl, ?_, hend.1, hend.2.1, hend.2.2.1, hend.2.2.2.mono (by decide) (by decide)⟩
   ·
    show own_S p e below T327 (mkF m 283 (fA7 b16 b284 b314 p0 p1 p2 p3 p4 p5 r_10 r_13 r_320 r_4 r_7) [(.int 1)]) _
    exact retN X327 hx (t := .boolean) Bd.returns (by simp) (hb hby at_283) hr
   ·
    show Q_rmLaw Z p0 p1 p2 p3 p4 p5 cs sf h0 n0 _ T327.heap _
    rw [p327_0]
    exact ⟨rfl, N327⟩
  ·
   have R334 : own_R p e below T289 (mkF m 83 (fA11 b16 b284 p0 p1 p2 p3 p4 p5 r_10 r_13 r_4 r_7) []) s₁ f0 := fun t k => R291 t (by
    refine XS.iconst X289.here hx rfl (hb hby at_80) ?_
    refine XS.istore X289.here hx rfl (hb hby at_81) rfl (l' := (fA11 b16 b284 p0 p1 p2 p3 p4 p5 r_10 r_13 r_4 r_7)) rfl ?_
    exact k)
   have R335 : own_R p e below T289 (mkF m 98 #[iv p0, iv p1, iv p2, iv p3, iv p4, own_l p5, .second, iv 4, iv r_4, iv r_7, iv r_10, iv r_13, rv b16, rv b284, iv (if r_4 = (47 : Int32) then (0 : Int32) else (-1 : Int32)), .unset, .unset, .unset] []) s₁ f0 := by
    intro t k
    refine R334 t ?_
    refine XS.iload X289.here hx rfl (hb hby at_83) rfl ?_
    refine XS.ifNo X289.here hx rfl (hb hby at_85) rfl ((if0 _ _).trans (tlt (by decide : (0 : Int32) < (4 : Int32))).2.2.2) ?_
    refine XS.iload X289.here hx rfl (hb hby at_88) rfl ?_
    refine XS.bipush X289.here hx rfl (hb hby at_90) ?_
    by_cases hm1 : r_4 = (47 : Int32)
    ·
     refine XS.icmpNo X289.here hx rfl (hb hby at_92) rfl (teq hm1).2 ?_
     refine XS.iconst X289.here hx rfl (hb hby at_95) ?_
     refine XS.istore X289.here hx rfl (hb hby at_96) rfl (l' := (fA19 b16 b284 p0 p1 p2 p3 p4 p5 r_10 r_13 r_4 r_7)) rfl ?_
     have hv : (if r_4 = (47 : Int32) then (0 : Int32) else (-1 : Int32)) = (0 : Int32) := by simp [hm1]
     rw [hv] at k
     exact k
    ·
     refine XS.icmpYes X289.here hx rfl (pc0 := 92) (pc' := 98) rfl (hb hby at_92) rfl (feq hm1).2 (by decide) (by decide) ?_
     have hv : (if r_4 = (47 : Int32) then (0 : Int32) else (-1 : Int32)) = (-1 : Int32) := by simp [hm1]
     rw [hv] at k
     exact k
   have R336 : own_R p e below T289 (mkF m 155 (fA37 b16 b284 p0 p1 p2 p3 p4 p5 r_10 r_13 r_4 r_7) []) s₁ f0 := fun t k => R335 t (by
    refine XS.iload X289.here hx rfl (hb hby at_98) rfl ?_
    refine XS.iconst X289.here hx rfl (hb hby at_100) ?_
    refine XS.icmpNo X289.here hx rfl (hb hby at_101) rfl (tlt (by decide : (1 : Int32) < (4 : Int32))).2.2.2 ?_
    refine XS.iload X289.here hx rfl (hb hby at_104) rfl ?_
    refine XS.bipush X289.here hx rfl (hb hby at_106) ?_
    refine XS.icmpNo X289.here hx rfl (hb hby at_108) rfl (teq hK1).2 ?_
    refine XS.iconst X289.here hx rfl (hb hby at_111) ?_
    refine XS.istore X289.here hx rfl (hb hby at_112) rfl (l' := (fA31 b16 b284 p0 p1 p2 p3 p4 p5 r_10 r_13 r_4 r_7)) rfl ?_
    refine XS.iload X289.here hx rfl (hb hby at_114) rfl ?_
    refine XS.iconst X289.here hx rfl (hb hby at_116) ?_
    refine XS.icmpNo X289.here hx rfl (hb hby at_117) rfl (tlt (by decide : (2 : Int32) < (4 : Int32))).2.2.2 ?_
    refine XS.iload X289.here hx rfl (hb hby at_120) rfl ?_
    show own_S p e below T289 (mkF m 122 (fA31 b16 b284 p0 p1 p2 p3 p4 p5 r_10 r_13 r_4 r_7) [(.int r_10)]) _
    refine XS.bipush X289.here hx rfl (hb hby at_122) ?_
    refine XS.icmpYes X289.here hx rfl (pc0 := 124) (pc' := 130) rfl (hb hby at_124) rfl (feq hK2).2 (by decide) (by decide) ?_
    refine XS.iload X289.here hx rfl (hb hby at_130) rfl ?_
    refine XS.iconst X289.here hx rfl (hb hby at_132) ?_
    refine XS.icmpNo X289.here hx rfl (hb hby at_133) rfl (tlt (by decide : (3 : Int32) < (4 : Int32))).2.2.2 ?_
    refine XS.iload X289.here hx rfl (hb hby at_136) rfl ?_
    refine XS.bipush X289.here hx rfl (hb hby at_138) ?_
    refine XS.icmpYes X289.here hx rfl (pc0 := 140) (pc' := 146) rfl (hb hby at_140) rfl (feq hK3).2 (by decide) (by decide) ?_
    refine XS.iload X289.here hx rfl (hb hby at_146) rfl ?_
    refine XS.iload X289.here hx rfl (hb hby at_148) rfl ?_
    refine XS.isub X289.here hx rfl (hb hby at_150) rfl ?_
    refine XS.iconst X289.here hx rfl (hb hby at_151) ?_
    show own_S p e below T289 (mkF m 152 (fA31 b16 b284 p0 p1 p2 p3 p4 p5 r_10 r_13 r_4 r_7) [(.int 1), (.int 3)]) _
    refine XS.isub X289.here hx rfl (hb hby at_152) rfl ?_
    refine XS.istore X289.here hx rfl (hb hby at_153) rfl (l' := (fA37 b16 b284 p0 p1 p2 p3 p4 p5 r_10 r_13 r_4 r_7)) rfl ?_
    exact k)
   obtain ⟨T337, h337, X337, e337, E337, A337, D337, -, st337⟩ := newO X289 hx hZ hown (hU 29 _ rfl) (hU 30 _ rfl) (hU 31 _ rfl) rfl (g := (mkF m 155 (fA37 b16 b284 p0 p1 p2 p3 p4 p5 r_10 r_13 r_4 r_7) [])) rfl (hb hby at_155) (by decide) (by decide)
   obtain ⟨b337, g337⟩ : ∃ z, z = T289.heap.size := ⟨_, rfl⟩
   rw [← g337] at A337 D337 st337
   have g_b337 : n0 ≤ b337 := Nat.le_trans z289 (Nat.le_of_eq g337.symm)
   have sz_b337 : h0.size ≤ b337 := Nat.le_trans K289.1 (Nat.le_of_eq g337.symm)
   have ne_b16_b337 : b16 ≠ b337 := Nat.ne_of_lt (Nat.lt_of_lt_of_le f289_A_b16.lt (Nat.le_of_eq g337.symm))
   have ne_b284_b337 : b284 ≠ b337 := Nat.ne_of_lt (Nat.lt_of_lt_of_le f289_E_b284.lt (Nat.le_of_eq g337.symm))
   have ne_b2_289_b337 : b2_289 ≠ b337 := Nat.ne_of_lt (Nat.lt_of_lt_of_le p289_3.lt (Nat.le_of_eq g337.symm))
   have f337_S_String_COMPACT_STRINGS := f289_S_String_COMPACT_STRINGS.ext E337
   have f337_S_Preconditions_SIOOBE_FORMATTER := f289_S_Preconditions_SIOOBE_FORMATTER.ext E337
   have f337_A_b16 := f289_A_b16.ext E337
   have f337_E_b284 := f289_E_b284.ext E337
   have f337_F_value_b284 := p289_1.ext E337
   have f337_F_coder_b284 := p289_2.ext E337
   have f337_A_b2_289 := p289_3.ext E337
   have z337 : n0 ≤ h337.size := Nat.le_trans z289 E337.1
   have K337 : Keep h0 h337 [] := K289.ext E337
   have d337_path : Fld Z h337 b337 sN0 "path" "Ljava/lang/String;" .null := D337 (Or.inr (hU 37 _ rfl)) (ty := (.object "java/lang/String")) (by decide)
   have d337_creationZxid : Fld Z h337 b337 sN0 "creationZxid" "J" (.long (0 : Int64)) := D337 (Or.inr (hU 39 _ rfl)) (ty := .long) (by decide)
   have R338 := fun t k => R336 t (st337 t k)
   have R339 : own_R p e below T337 (mkF m 163 (fA37 b16 b284 p0 p1 p2 p3 p4 p5 r_10 r_13 r_4 r_7) [(.long p5), (.ref b284), (.ref b337), (.ref b337)]) s₁ f0 := fun t k => R338 t (by
    refine XS.dup X337.here hx rfl (hb hby at_158) rfl rfl ?_
    refine XS.aload X337.here hx rfl (hb hby at_159) rfl rfl ?_
    refine XS.lload X337.here hx rfl (hb hby at_161) rfl ?_
    exact k)
   obtain ⟨_, _, ⟨T340, L340, k340, n340⟩, -, X340, ⟨Lc340, hQ340, l340, y340, z340⟩, st340⟩ := X337.specialBack hx (y := yN5) rfl hown (mvT hZ (hU 32 _ rfl)) (mvT hZ (hU 33 _ rfl)) (mvT hZ (hU 34 _ rfl)) (by decide) (backOf (W := 1) (rmQni l Z a0 hw [] b337 b284 p5 .null (.long (0 : Int64)) h337 n0 z337 A337 d337_path d337_creationZxid g_b337) hZ (hU 34 _ rfl) (hU 31 _ rfl) (by decide) (by decide)) (g := (mkF m 163 (fA37 b16 b284 p0 p1 p2 p3 p4 p5 r_10 r_13 r_4 r_7) [(.long p5), (.ref b284), (.ref b337), (.ref b337)])) rfl (by rw [hml]; rfl) (Steps.refl _) (a := b337) (argsL := [(.ref b284), (.long p5)]) (rest := [(.ref b337)]) (lenOf pd_31 rfl) rfl (Nat.le_of_eq rfl) (hb hby at_163) (fun _ _ => ⟨rfl, e337, (by decide : 5 + 0 ≤ _), (by decide : 18 + 0 ≤ _)⟩)
   dsimp only [Pt.U, Pt.locs, Pt.cells, Pt.slots] at X340 l340 y340 z340 st340 hQ340
   subst l340 y340 z340
   obtain ⟨rfl, N340q, p340_0, p340_1⟩ := hQ340
   have N340 := Fr.app N289 N340q
   have f340_S_String_COMPACT_STRINGS := own_sta_keep f337_S_String_COMPACT_STRINGS p340_0 (nsS A337.nostat ns0)
   have f340_S_Preconditions_SIOOBE_FORMATTER := own_sta_keep f337_S_Preconditions_SIOOBE_FORMATTER p340_0 (nsS A337.nostat ns0)
   have f340_A_b16 := f337_A_b16.keep p340_0 (ninS ne_b16_b337 nin0)
   have f340_E_b284 := f337_E_b284.keep p340_0
   have f340_F_value_b284 := f337_F_value_b284.keep p340_0 (ninS ne_b284_b337 nin0)
   have f340_F_coder_b284 := f337_F_coder_b284.keep p340_0 (ninS ne_b284_b337 nin0)
   have f340_A_b2_289 := f337_A_b2_289.keep p340_0 (ninS ne_b2_289_b337 nin0)
   have f340_E_b337 := A337.keep p340_0
   have z340 : n0 ≤ T340.heap.size := Nat.le_trans z337 p340_0.1
   have K340 : Keep h0 T340.heap [] := K337.trans p340_0 (allS (Or.inr sz_b337) all0)
   have R341 := fun t k => R339 t (st340.trans k)
   have R342 : own_R p e below T340 (mkF m 170 #[iv p0, iv p1, iv p2, iv p3, iv p4, own_l p5, .second, iv 4, iv r_4, iv r_7, iv r_10, iv r_13, rv b16, rv b284, iv 1, iv 2, rv b337, .unset] [(.ref b337)]) s₁ f0 := fun t k => R341 t (by
    refine XS.astore X340.here hx rfl (hb hby at_166) rfl rfl (l' := #[iv p0, iv p1, iv p2, iv p3, iv p4, own_l p5, .second, iv 4, iv r_4, iv r_7, iv r_10, iv r_13, rv b16, rv b284, iv 1, iv 2, rv b337, .unset]) rfl ?_
    refine XS.aload X340.here hx rfl (hb hby at_168) rfl rfl ?_
    exact k)
   obtain ⟨cq343, kq343, q343a, q343b, q343c⟩ := isOf hZ rfl f340_E_b337
   obtain ⟨_, _, ⟨T343, L343, k343, n343⟩, -, X343, ⟨Lc343, hQ343, l343, y343, z343⟩, st343⟩ := X340.virtualBack hx (y := yN2) (z := yN2) hown (mvT hZ (hU 40 _ rfl)) (mvT hZ (hU 41 _ rfl)) (notFace_of_selects (args := #[]) (mvT hZ (hU 43 _ rfl))) (mvT hZ (hU 43 _ rfl)) (mvT hZ (hU 42 _ rfl)) (by decide) (backOf (W := 0) (rmNmM l Z a0 hw [] b337 b284 b2_289 kb2_289 (4 : Int32) [(.int (nar .byte ((nar .char r_4).toInt8.toInt32))), (.int (nar .byte ((nar .char r_7).toInt8.toInt32))), (.int (nar .byte ((nar .char r_10).toInt8.toInt32))), (.int (nar .byte ((nar .char r_13).toInt8.toInt32)))] cs sf (2 : Int32) (2 : Int32) [(.int (nar .byte ((nar .char r_10).toInt8.toInt32))), (.int (nar .byte ((nar .char r_13).toInt8.toInt32)))] (3 : Int32) (own_li4 (nar .byte ((nar .char r_4).toInt8.toInt32)) (nar .byte ((nar .char r_7).toInt8.toInt32)) (nar .byte ((nar .char r_10).toInt8.toInt32)) (nar .byte ((nar .char r_13).toInt8.toInt32))) T340.heap n0 z340 f340_E_b337 p340_1 f340_E_b284 f340_F_coder_b284 f340_F_value_b284 f340_A_b2_289 f340_S_String_COMPACT_STRINGS hcs f340_S_Preconditions_SIOOBE_FORMATTER hsf (by decide) (by decide) (by decide) (by decide) (by decide) (by decide) (fun h1 z1 A1 => rmCrb42 l Z a0 hw [] b2_289 kb2_289 (nar .byte ((nar .char r_4).toInt8.toInt32)) (nar .byte ((nar .char r_7).toInt8.toInt32)) (nar .byte ((nar .char r_10).toInt8.toInt32)) (nar .byte ((nar .char r_13).toInt8.toInt32)) h1 n0 z1 A1) (by decide) (rmLli4 l Z a0 hw [] b2_289 kb2_289 (nar .byte ((nar .char r_4).toInt8.toInt32)) (nar .byte ((nar .char r_7).toInt8.toInt32)) (nar .byte ((nar .char r_10).toInt8.toInt32)) (nar .byte ((nar .char r_13).toInt8.toInt32)) T340.heap n0 z340 f340_A_b2_289) (own_lk41 (own_n47 p13_1 hK3) (own_n47 p10_1 hK2) (own_b47 hK1))) hZ (hU 44 _ rfl) (hU 31 _ rfl) (by decide) (by decide)) q343a q343c (g := (mkF m 170 #[iv p0, iv p1, iv p2, iv p3, iv p4, own_l p5, .second, iv 4, iv r_4, iv r_7, iv r_10, iv r_13, rv b16, rv b284, iv 1, iv 2, rv b337, .unset] [(.ref b337)])) rfl (by rw [hml]; rfl) (Steps.refl _) (argsL := []) (rest := []) (lenOf pd_32 rfl) rfl (Nat.le_of_eq rfl) (hb hby at_170) (fun _ _ => ⟨rfl, rfl, (by decide : 5 + 2 ≤ _), (by decide : 18 + 7 ≤ _)⟩)
   dsimp only [Pt.U, Pt.locs, Pt.cells, Pt.slots] at X343 l343 y343 z343 st343 hQ343
   subst l343 y343 z343
   obtain ⟨r_343, b2_343, kb2_343, rfl, N343q, p343_0, p343_1, p343_2, p343_3, p343_4, p343_5, p343_6⟩ := hQ343
   have N343 := Fr.app N340 N343q
   have f343_S_String_COMPACT_STRINGS := own_sta_keep f340_S_String_COMPACT_STRINGS p343_0 ns0
   have f343_S_Preconditions_SIOOBE_FORMATTER := own_sta_keep f340_S_Preconditions_SIOOBE_FORMATTER p343_0 ns0
   have f343_A_b16 := f340_A_b16.keep p343_0 nin0
   have f343_E_b284 := f340_E_b284.keep p343_0
   have f343_F_value_b284 := f340_F_value_b284.keep p343_0 nin0
   have f343_F_coder_b284 := f340_F_coder_b284.keep p343_0 nin0
   have f343_A_b2_289 := f340_A_b2_289.keep p343_0 nin0
   have f343_E_b337 := f340_E_b337.keep p343_0
   have f343_F_path_b337 := p340_1.keep p343_0 nin0
   have z343 : n0 ≤ T343.heap.size := Nat.le_trans z340 p343_0.1
   have K343 : Keep h0 T343.heap [] := K340.trans p343_0 all0
   have g_r_343 : n0 ≤ r_343 := Nat.le_trans z340 p343_5
   have sz_r_343 : h0.size ≤ r_343 := Nat.le_trans K340.1 p343_5
   have ne_b16_r_343 : b16 ≠ r_343 := Nat.ne_of_lt (Nat.lt_of_lt_of_le f340_A_b16.lt p343_5)
   have ne_b284_r_343 : b284 ≠ r_343 := Nat.ne_of_lt (Nat.lt_of_lt_of_le f340_F_value_b284.lt p343_5)
   have ne_b2_289_r_343 : b2_289 ≠ r_343 := Nat.ne_of_lt (Nat.lt_of_lt_of_le f340_A_b2_289.lt p343_5)
   have ne_b337_r_343 : b337 ≠ r_343 := Nat.ne_of_lt (Nat.lt_of_lt_of_le p340_1.lt p343_5)
   have g_b2_343 : n0 ≤ b2_343 := Nat.le_trans z340 p343_6
   have sz_b2_343 : h0.size ≤ b2_343 := Nat.le_trans K340.1 p343_6
   have ne_b16_b2_343 : b16 ≠ b2_343 := Nat.ne_of_lt (Nat.lt_of_lt_of_le f340_A_b16.lt p343_6)
   have ne_b284_b2_343 : b284 ≠ b2_343 := Nat.ne_of_lt (Nat.lt_of_lt_of_le f340_F_value_b284.lt p343_6)
   have ne_b2_289_b2_343 : b2_289 ≠ b2_343 := Nat.ne_of_lt (Nat.lt_of_lt_of_le f340_A_b2_289.lt p343_6)
   have ne_b337_b2_343 : b337 ≠ b2_343 := Nat.ne_of_lt (Nat.lt_of_lt_of_le p340_1.lt p343_6)
   have R344 := fun t k => R342 t (st343.trans k)
   have R345 : own_R p e below T343 (mkF m 177 (fA5 b16 b284 b337 p0 p1 p2 p3 p4 p5 r_10 r_13 r_343 r_4 r_7) [(.ref r_343)]) s₁ f0 := fun t k => R344 t (by
    refine XS.astore X343.here hx rfl (hb hby at_173) rfl rfl (l' := (fA5 b16 b284 b337 p0 p1 p2 p3 p4 p5 r_10 r_13 r_343 r_4 r_7)) rfl ?_
    refine XS.aload X343.here hx rfl (hb hby at_175) rfl rfl ?_
    exact k)
   obtain ⟨cq346, kq346, q346a, q346b, q346c⟩ := isOf hZ rfl p343_1
   obtain ⟨_, _, ⟨T346, L346, k346, n346⟩, -, X346, ⟨Lc346, hQ346, l346, y346, z346⟩, st346⟩ := X343.virtualBack hx (y := yN0) (z := yN0) hown (mvT hZ (hU 100 _ rfl)) (mvT hZ (hU 51 _ rfl)) (notFace_of_selects (args := #[]) (mvT hZ (hU 53 _ rfl))) (mvT hZ (hU 53 _ rfl)) (mvT hZ (hU 52 _ rfl)) (by decide) (backOf (W := 0) (rmLen l Z a0 hw [] r_343 b2_343 kb2_343 (2 : Int32) [(.int (nar .byte ((nar .char r_10).toInt8.toInt32))), (.int (nar .byte ((nar .char r_13).toInt8.toInt32)))] (.int 0) cs T343.heap n0 z343 p343_1 p343_2 p343_3 p343_4 f343_S_String_COMPACT_STRINGS hcs) hZ (hU 54 _ rfl) (hU 7 _ rfl) (by decide) (by decide)) q346a q346c (g := (mkF m 177 (fA5 b16 b284 b337 p0 p1 p2 p3 p4 p5 r_10 r_13 r_343 r_4 r_7) [(.ref r_343)])) rfl (by rw [hml]; rfl) (Steps.refl _) (argsL := []) (rest := []) (lenOf pd_20 rfl) rfl (Nat.le_of_eq rfl) (hb hby at_177) (fun _ _ => ⟨rfl, rfl, (by decide : 7 + 0 ≤ _), (by decide : 25 + 0 ≤ _)⟩)
   dsimp only [Pt.U, Pt.locs, Pt.cells, Pt.slots] at X346 l346 y346 z346 st346 hQ346
   subst l346 y346 z346
   obtain ⟨rfl, N346q, p346_0⟩ := hQ346
   have N346 := Fr.app N343 N346q
   have R347 := fun t k => R345 t (st346.trans k)
   have R348 : own_R p e below T346 (mkF m 180 (fA5 b16 b284 b337 p0 p1 p2 p3 p4 p5 r_10 r_13 r_343 r_4 r_7) [(.int 2)]) s₁ f0 := by have q := R347; rw [((own_sh (2 : Int32)) : ((2 : Int32) >>> ((0 : Int32) &&& 31)) = (2 : Int32))] at q; exact q
   have R349 : own_R p e below T346 (mkF m 195 (fA5 b16 b284 b337 p0 p1 p2 p3 p4 p5 r_10 r_13 r_343 r_4 r_7) [(.int 0), (.ref r_343)]) s₁ f0 := fun t k => R348 t (by
    refine XS.iload X346.here hx rfl (hb hby at_180) rfl ?_
    refine XS.icmpYes X346.here hx rfl (pc0 := 182) (pc' := 187) rfl (hb hby at_182) rfl (teq (by decide : (2 : Int32) = (2 : Int32))).1 (by decide) (by decide) ?_
    refine XS.iload X346.here hx rfl (hb hby at_187) rfl ?_
    refine XS.ifNo X346.here hx rfl (hb hby at_189) rfl ((if0 _ _).trans (tlt (by decide : (0 : Int32) < (2 : Int32))).2.2.2) ?_
    refine XS.aload X346.here hx rfl (hb hby at_192) rfl rfl ?_
    refine XS.iconst X346.here hx rfl (hb hby at_194) ?_
    exact k)
   obtain ⟨cq350, kq350, q350a, q350b, q350c⟩ := isOf hZ p346_0 p343_1
   obtain ⟨_, _, ⟨T350, L350, k350, n350⟩, -, X350, ⟨Lc350, hQ350, l350, y350, z350⟩, st350⟩ := X346.virtualBack hx (y := yN1) (z := yN1) hown (mvT hZ (hU 111 _ rfl)) (mvT hZ (hU 112 _ rfl)) (notFace_of_selects (args := #[]) (mvT hZ (hU 114 _ rfl))) (mvT hZ (hU 114 _ rfl)) (mvT hZ (hU 113 _ rfl)) (by decide) (backOf (W := 0) (rmCa l Z a0 hw [] r_343 (0 : Int32) b2_343 kb2_343 (2 : Int32) [(.int (nar .byte ((nar .char r_10).toInt8.toInt32))), (.int (nar .byte ((nar .char r_13).toInt8.toInt32)))] (.int 0) (nar .byte ((nar .char r_10).toInt8.toInt32)) cs sf T343.heap n0 z343 p343_1 p343_2 p343_3 p343_4 f343_S_String_COMPACT_STRINGS hcs f343_S_Preconditions_SIOOBE_FORMATTER hsf (by decide) (by decide) rfl) hZ (hU 115 _ rfl) (hU 7 _ rfl) (by decide) (by decide)) q350a q350c (g := (mkF m 195 (fA5 b16 b284 b337 p0 p1 p2 p3 p4 p5 r_10 r_13 r_343 r_4 r_7) [(.int 0), (.ref r_343)])) rfl (by rw [hml]; rfl) (Steps.refl _) (argsL := [(.int 0)]) (rest := []) (lenOf pd_28 rfl) rfl (Nat.le_of_eq rfl) (hb hby at_195) (fun _ _ => ⟨rfl, p346_0, (by decide : 7 + 0 ≤ _), (by decide : 25 + 0 ≤ _)⟩)
   dsimp only [Pt.U, Pt.locs, Pt.cells, Pt.slots] at X350 l350 y350 z350 st350 hQ350
   subst l350 y350 z350
   obtain ⟨rfl, N350q, p350_0⟩ := hQ350
   have N350 := Fr.app N346 N350q
   have R351 := fun t k => R349 t (st350.trans k)
   have R352 : own_R p e below T350 (mkF m 198 (fA5 b16 b284 b337 p0 p1 p2 p3 p4 p5 r_10 r_13 r_343 r_4 r_7) [(.int (nar .char r_10))]) s₁ f0 := by have q := R351; rw [((own_chb p10_1) : (own_ch (nar .byte ((nar .char r_10).toInt8.toInt32))) = (nar .char r_10))] at q; exact q
   have R353 : own_R p e below T350 (mkF m 204 (fA5 b16 b284 b337 p0 p1 p2 p3 p4 p5 r_10 r_13 r_343 r_4 r_7) [(.int 2), (.ref b16), (.int (nar .char r_10))]) s₁ f0 := fun t k => R352 t (by
    refine XS.aload X350.here hx rfl (hb hby at_198) rfl rfl ?_
    refine XS.iload X350.here hx rfl (hb hby at_200) rfl ?_
    refine XS.iconst X350.here hx rfl (hb hby at_202) ?_
    refine XS.iadd X350.here hx rfl (hb hby at_203) rfl ?_
    exact k)
   obtain ⟨cl354, Ar354, q354, S354, n354_, H354, G354⟩ := id f343_A_b16
   have hin354 : ¬ ((2 : Int32) < 0 ∨ cl354.slots.size ≤ ((2 : Int32)).toNatClampNeg) := inb_of S354 ⟨by decide, by decide⟩
   have hat354 : cl354.slots[((2 : Int32)).toNatClampNeg]? = some (.int (nar .char r_10)) := Has.at H354 hin354 rfl
   have R355 : own_R p e below T350 (mkF m 205 (fA5 b16 b284 b337 p0 p1 p2 p3 p4 p5 r_10 r_13 r_343 r_4 r_7) [(.int (nar .char r_10)), (.int (nar .char r_10))]) s₁ f0 := fun t k => R353 t (X350.caload hx (j := (2 : Int32)) (v := (.int (nar .char r_10))) (by rw [p350_0]; exact Ar354.1) (State.isArrayOf_alike hZ.alike Ar354.2.1) Ar354.2.2 hin354 hat354 (g := (mkF m 204 (fA5 b16 b284 b337 p0 p1 p2 p3 p4 p5 r_10 r_13 r_343 r_4 r_7) [(.int 2), (.ref b16), (.int (nar .char r_10))])) rfl rfl (hb hby at_204) _ k)
   have R356 : own_R p e below T350 (mkF m 219 (fA5 b16 b284 b337 p0 p1 p2 p3 p4 p5 r_10 r_13 r_343 r_4 r_7) [(.int 1), (.ref r_343)]) s₁ f0 := fun t k => R355 t (by
    refine XS.icmpYes X350.here hx rfl (pc0 := 205) (pc' := 210) rfl (hb hby at_205) rfl (teq rfl).1 (by decide) (by decide) ?_
    refine XS.iload X350.here hx rfl (hb hby at_210) rfl ?_
    refine XS.iconst X350.here hx rfl (hb hby at_212) ?_
    refine XS.icmpNo X350.here hx rfl (hb hby at_213) rfl (tlt (by decide : (1 : Int32) < (2 : Int32))).2.2.2 ?_
    refine XS.aload X350.here hx rfl (hb hby at_216) rfl rfl ?_
    refine XS.iconst X350.here hx rfl (hb hby at_218) ?_
    exact k)
   obtain ⟨cq357, kq357, q357a, q357b, q357c⟩ := isOf hZ p350_0 p343_1
   obtain ⟨_, _, ⟨T357, L357, k357, n357⟩, -, X357, ⟨Lc357, hQ357, l357, y357, z357⟩, st357⟩ := X350.virtualBack hx (y := yN1) (z := yN1) hown (mvT hZ (hU 111 _ rfl)) (mvT hZ (hU 112 _ rfl)) (notFace_of_selects (args := #[]) (mvT hZ (hU 114 _ rfl))) (mvT hZ (hU 114 _ rfl)) (mvT hZ (hU 113 _ rfl)) (by decide) (backOf (W := 0) (rmCa l Z a0 hw [] r_343 (1 : Int32) b2_343 kb2_343 (2 : Int32) [(.int (nar .byte ((nar .char r_10).toInt8.toInt32))), (.int (nar .byte ((nar .char r_13).toInt8.toInt32)))] (.int 0) (nar .byte ((nar .char r_13).toInt8.toInt32)) cs sf T343.heap n0 z343 p343_1 p343_2 p343_3 p343_4 f343_S_String_COMPACT_STRINGS hcs f343_S_Preconditions_SIOOBE_FORMATTER hsf (by decide) (by decide) rfl) hZ (hU 115 _ rfl) (hU 7 _ rfl) (by decide) (by decide)) q357a q357c (g := (mkF m 219 (fA5 b16 b284 b337 p0 p1 p2 p3 p4 p5 r_10 r_13 r_343 r_4 r_7) [(.int 1), (.ref r_343)])) rfl (by rw [hml]; rfl) (Steps.refl _) (argsL := [(.int 1)]) (rest := []) (lenOf pd_28 rfl) rfl (Nat.le_of_eq rfl) (hb hby at_219) (fun _ _ => ⟨rfl, p350_0, (by decide : 7 + 0 ≤ _), (by decide : 25 + 0 ≤ _)⟩)
   dsimp only [Pt.U, Pt.locs, Pt.cells, Pt.slots] at X357 l357 y357 z357 st357 hQ357
   subst l357 y357 z357
   obtain ⟨rfl, N357q, p357_0⟩ := hQ357
   have N357 := Fr.app N350 N357q
   have R358 := fun t k => R356 t (st357.trans k)
   have R359 : own_R p e below T357 (mkF m 222 (fA5 b16 b284 b337 p0 p1 p2 p3 p4 p5 r_10 r_13 r_343 r_4 r_7) [(.int (nar .char r_13))]) s₁ f0 := by have q := R358; rw [((own_chb p13_1) : (own_ch (nar .byte ((nar .char r_13).toInt8.toInt32))) = (nar .char r_13))] at q; exact q
   have R360 : own_R p e below T357 (mkF m 228 (fA5 b16 b284 b337 p0 p1 p2 p3 p4 p5 r_10 r_13 r_343 r_4 r_7) [(.int 3), (.ref b16), (.int (nar .char r_13))]) s₁ f0 := fun t k => R359 t (by
    refine XS.aload X357.here hx rfl (hb hby at_222) rfl rfl ?_
    refine XS.iload X357.here hx rfl (hb hby at_224) rfl ?_
    refine XS.iconst X357.here hx rfl (hb hby at_226) ?_
    refine XS.iadd X357.here hx rfl (hb hby at_227) rfl ?_
    exact k)
   obtain ⟨cl361, Ar361, q361, S361, n361_, H361, G361⟩ := id f343_A_b16
   have hin361 : ¬ ((3 : Int32) < 0 ∨ cl361.slots.size ≤ ((3 : Int32)).toNatClampNeg) := inb_of S361 ⟨by decide, by decide⟩
   have hat361 : cl361.slots[((3 : Int32)).toNatClampNeg]? = some (.int (nar .char r_13)) := Has.at H361 hin361 rfl
   have R362 : own_R p e below T357 (mkF m 229 (fA5 b16 b284 b337 p0 p1 p2 p3 p4 p5 r_10 r_13 r_343 r_4 r_7) [(.int (nar .char r_13)), (.int (nar .char r_13))]) s₁ f0 := fun t k => R360 t (X357.caload hx (j := (3 : Int32)) (v := (.int (nar .char r_13))) (by rw [p357_0]; exact Ar361.1) (State.isArrayOf_alike hZ.alike Ar361.2.1) Ar361.2.2 hin361 hat361 (g := (mkF m 228 (fA5 b16 b284 b337 p0 p1 p2 p3 p4 p5 r_10 r_13 r_343 r_4 r_7) [(.int 3), (.ref b16), (.int (nar .char r_13))])) rfl rfl (hb hby at_228) _ k)
   have R363 : own_R p e below T357 (mkF m 283 (fA5 b16 b284 b337 p0 p1 p2 p3 p4 p5 r_10 r_13 r_343 r_4 r_7) [(.int 1)]) s₁ f0 := fun t k => R362 t (by
    refine XS.icmpYes X357.here hx rfl (pc0 := 229) (pc' := 234) rfl (hb hby at_229) rfl (teq rfl).1 (by decide) (by decide) ?_
    refine XS.iload X357.here hx rfl (hb hby at_234) rfl ?_
    refine XS.iconst X357.here hx rfl (hb hby at_236) ?_
    refine XS.icmpYes X357.here hx rfl (pc0 := 237) (pc' := 258) rfl (hb hby at_237) rfl (flt (by decide : ¬ ((2 : Int32) < (2 : Int32)))).2.2.2 (by decide) (by decide) ?_
    refine XS.iload X357.here hx rfl (hb hby at_258) rfl ?_
    refine XS.iconst X357.here hx rfl (hb hby at_260) ?_
    refine XS.icmpYes X357.here hx rfl (pc0 := 261) (pc' := 282) rfl (hb hby at_261) rfl (flt (by decide : ¬ ((3 : Int32) < (2 : Int32)))).2.2.2 (by decide) (by decide) ?_
    refine XS.iconst X357.here hx rfl (hb hby at_282) ?_
    exact k)
   obtain ⟨fs, hr, hrun, hended, hW, hsame⟩ := X357.leave (v := some (.int 1)) (fun h => by rw [Bd.returns] at h; cases h)
   have hend := ReturnedEndW.of_narrow (o := Outcome.returned (some (.int 1))) ⟨_, rfl⟩ hW hsame
   refine ⟨_, _, pre0 _ (R363 _ ?_), hrun, hended, _, _, rfl, ?_, hend.1, hend.2.1, hend.2.2.1, hend.2.2.2.mono (by decide) (by decide)⟩
   ·
    show own_S p e below T357 (mkF m 283 (fA5 b16 b284 b337 p0 p1 p2 p3 p4 p5 r_10 r_13 r_343 r_4 r_7) [(.int 1)]) _
    exact retN X357 hx (t := .boolean) Bd.returns (by simp) (hb hby at_283) hr
   ·
    show Q_rmLaw Z p0 p1 p2 p3 p4 p5 cs sf h0 n0 _ T357.heap _
    rw [p357_0]
    exact ⟨rfl, N357⟩
  ·
   have R364 : own_R p e below T289 (mkF m 155 (fA38 b16 b284 p0 p1 p2 p3 p4 p5 r_10 r_13 r_4 r_7) []) s₁ f0 := fun t k => R291 t (by
    refine XS.iconst X289.here hx rfl (hb hby at_80) ?_
    refine XS.istore X289.here hx rfl (hb hby at_81) rfl (l' := (fA11 b16 b284 p0 p1 p2 p3 p4 p5 r_10 r_13 r_4 r_7)) rfl ?_
    refine XS.iload X289.here hx rfl (hb hby at_83) rfl ?_
    refine XS.ifNo X289.here hx rfl (hb hby at_85) rfl ((if0 _ _).trans (tlt (by decide : (0 : Int32) < (4 : Int32))).2.2.2) ?_
    refine XS.iload X289.here hx rfl (hb hby at_88) rfl ?_
    refine XS.bipush X289.here hx rfl (hb hby at_90) ?_
    refine XS.icmpNo X289.here hx rfl (hb hby at_92) rfl (teq hK0).2 ?_
    refine XS.iconst X289.here hx rfl (hb hby at_95) ?_
    refine XS.istore X289.here hx rfl (hb hby at_96) rfl (l' := (fA19 b16 b284 p0 p1 p2 p3 p4 p5 r_10 r_13 r_4 r_7)) rfl ?_
    refine XS.iload X289.here hx rfl (hb hby at_98) rfl ?_
    refine XS.iconst X289.here hx rfl (hb hby at_100) ?_
    refine XS.icmpNo X289.here hx rfl (hb hby at_101) rfl (tlt (by decide : (1 : Int32) < (4 : Int32))).2.2.2 ?_
    show own_S p e below T289 (mkF m 104 (fA19 b16 b284 p0 p1 p2 p3 p4 p5 r_10 r_13 r_4 r_7) []) _
    refine XS.iload X289.here hx rfl (hb hby at_104) rfl ?_
    refine XS.bipush X289.here hx rfl (hb hby at_106) ?_
    refine XS.icmpYes X289.here hx rfl (pc0 := 108) (pc' := 114) rfl (hb hby at_108) rfl (feq hK1).2 (by decide) (by decide) ?_
    refine XS.iload X289.here hx rfl (hb hby at_114) rfl ?_
    refine XS.iconst X289.here hx rfl (hb hby at_116) ?_
    refine XS.icmpNo X289.here hx rfl (hb hby at_117) rfl (tlt (by decide : (2 : Int32) < (4 : Int32))).2.2.2 ?_
    refine XS.iload X289.here hx rfl (hb hby at_120) rfl ?_
    refine XS.bipush X289.here hx rfl (hb hby at_122) ?_
    refine XS.icmpYes X289.here hx rfl (pc0 := 124) (pc' := 130) rfl (hb hby at_124) rfl (feq hK2).2 (by decide) (by decide) ?_
    refine XS.iload X289.here hx rfl (hb hby at_130) rfl ?_
    refine XS.iconst X289.here hx rfl (hb hby at_132) ?_
    refine XS.icmpNo X289.here hx rfl (hb hby at_133) rfl (tlt (by decide : (3 : Int32) < (4 : Int32))).2.2.2 ?_
    show own_S p e below T289 (mkF m 136 (fA19 b16 b284 p0 p1 p2 p3 p4 p5 r_10 r_13 r_4 r_7) []) _
    refine XS.iload X289.here hx rfl (hb hby at_136) rfl ?_
    refine XS.bipush X289.here hx rfl (hb hby at_138) ?_
    refine XS.icmpYes X289.here hx rfl (pc0 := 140) (pc' := 146) rfl (hb hby at_140) rfl (feq hK3).2 (by decide) (by decide) ?_
    refine XS.iload X289.here hx rfl (hb hby at_146) rfl ?_
    refine XS.iload X289.here hx rfl (hb hby at_148) rfl ?_
    refine XS.isub X289.here hx rfl (hb hby at_150) rfl ?_
    refine XS.iconst X289.here hx rfl (hb hby at_151) ?_
    refine XS.isub X289.here hx rfl (hb hby at_152) rfl ?_
    refine XS.istore X289.here hx rfl (hb hby at_153) rfl (l' := (fA38 b16 b284 p0 p1 p2 p3 p4 p5 r_10 r_13 r_4 r_7)) rfl ?_
    exact k)
   obtain ⟨T365, h365, X365, e365, E365, A365, D365, -, st365⟩ := newO X289 hx hZ hown (hU 29 _ rfl) (hU 30 _ rfl) (hU 31 _ rfl) rfl (g := (mkF m 155 (fA38 b16 b284 p0 p1 p2 p3 p4 p5 r_10 r_13 r_4 r_7) [])) rfl (hb hby at_155) (by decide) (by decide)
   obtain ⟨b365, g365⟩ : ∃ z, z = T289.heap.size := ⟨_, rfl⟩
   rw [← g365] at A365 D365 st365
   have g_b365 : n0 ≤ b365 := Nat.le_trans z289 (Nat.le_of_eq g365.symm)
   have sz_b365 : h0.size ≤ b365 := Nat.le_trans K289.1 (Nat.le_of_eq g365.symm)
   have ne_b16_b365 : b16 ≠ b365 := Nat.ne_of_lt (Nat.lt_of_lt_of_le f289_A_b16.lt (Nat.le_of_eq g365.symm))
   have ne_b284_b365 : b284 ≠ b365 := Nat.ne_of_lt (Nat.lt_of_lt_of_le f289_E_b284.lt (Nat.le_of_eq g365.symm))
   have ne_b2_289_b365 : b2_289 ≠ b365 := Nat.ne_of_lt (Nat.lt_of_lt_of_le p289_3.lt (Nat.le_of_eq g365.symm))
   have f365_S_String_COMPACT_STRINGS := f289_S_String_COMPACT_STRINGS.ext E365
   have f365_S_Preconditions_SIOOBE_FORMATTER := f289_S_Preconditions_SIOOBE_FORMATTER.ext E365
   have f365_A_b16 := f289_A_b16.ext E365
   have f365_E_b284 := f289_E_b284.ext E365
   have f365_F_value_b284 := p289_1.ext E365
   have f365_F_coder_b284 := p289_2.ext E365
   have f365_A_b2_289 := p289_3.ext E365
   have z365 : n0 ≤ h365.size := Nat.le_trans z289 E365.1
   have K365 : Keep h0 h365 [] := K289.ext E365
   have d365_path : Fld Z h365 b365 sN0 "path" "Ljava/lang/String;" .null := D365 (Or.inr (hU 37 _ rfl)) (ty := (.object "java/lang/String")) (by decide)
   have d365_creationZxid : Fld Z h365 b365 sN0 "creationZxid" "J" (.long (0 : Int64)) := D365 (Or.inr (hU 39 _ rfl)) (ty := .long) (by decide)
   have R366 := fun t k => R364 t (st365 t k)
   have R367 : own_R p e below T365 (mkF m 163 (fA38 b16 b284 p0 p1 p2 p3 p4 p5 r_10 r_13 r_4 r_7) [(.long p5), (.ref b284), (.ref b365), (.ref b365)]) s₁ f0 := fun t k => R366 t (by
    refine XS.dup X365.here hx rfl (hb hby at_158) rfl rfl ?_
    refine XS.aload X365.here hx rfl (hb hby at_159) rfl rfl ?_
    refine XS.lload X365.here hx rfl (hb hby at_161) rfl ?_
    exact k)
   obtain ⟨_, _, ⟨T368, L368, k368, n368⟩, -, X368, ⟨Lc368, hQ368, l368, y368, z368⟩, st368⟩ := X365.specialBack hx (y := yN5) rfl hown (mvT hZ (hU 32 _ rfl)) (mvT hZ (hU 33 _ rfl)) (mvT hZ (hU 34 _ rfl)) (by decide) (backOf (W := 1) (rmQni l Z a0 hw [] b365 b284 p5 .null (.long (0 : Int64)) h365 n0 z365 A365 d365_path d365_creationZxid g_b365) hZ (hU 34 _ rfl) (hU 31 _ rfl) (by decide) (by decide)) (g := (mkF m 163 (fA38 b16 b284 p0 p1 p2 p3 p4 p5 r_10 r_13 r_4 r_7) [(.long p5), (.ref b284), (.ref b365), (.ref b365)])) rfl (by rw [hml]; rfl) (Steps.refl _) (a := b365) (argsL := [(.ref b284), (.long p5)]) (rest := [(.ref b365)]) (lenOf pd_31 rfl) rfl (Nat.le_of_eq rfl) (hb hby at_163) (fun _ _ => ⟨rfl, e365, (by decide : 5 + 0 ≤ _), (by decide : 18 + 0 ≤ _)⟩)
   dsimp only [Pt.U, Pt.locs, Pt.cells, Pt.slots] at X368 l368 y368 z368 st368 hQ368
   subst l368 y368 z368
   obtain ⟨rfl, N368q, p368_0, p368_1⟩ := hQ368
   have N368 := Fr.app N289 N368q
   have f368_S_String_COMPACT_STRINGS := own_sta_keep f365_S_String_COMPACT_STRINGS p368_0 (nsS A365.nostat ns0)
   have f368_S_Preconditions_SIOOBE_FORMATTER := own_sta_keep f365_S_Preconditions_SIOOBE_FORMATTER p368_0 (nsS A365.nostat ns0)
   have f368_A_b16 := f365_A_b16.keep p368_0 (ninS ne_b16_b365 nin0)
   have f368_E_b284 := f365_E_b284.keep p368_0
   have f368_F_value_b284 := f365_F_value_b284.keep p368_0 (ninS ne_b284_b365 nin0)
   have f368_F_coder_b284 := f365_F_coder_b284.keep p368_0 (ninS ne_b284_b365 nin0)
   have f368_A_b2_289 := f365_A_b2_289.keep p368_0 (ninS ne_b2_289_b365 nin0)
   have f368_E_b365 := A365.keep p368_0
   have z368 : n0 ≤ T368.heap.size := Nat.le_trans z365 p368_0.1
   have K368 : Keep h0 T368.heap [] := K365.trans p368_0 (allS (Or.inr sz_b365) all0)
   have R369 := fun t k => R367 t (st368.trans k)
   have R370 : own_R p e below T368 (mkF m 170 #[iv p0, iv p1, iv p2, iv p3, iv p4, own_l p5, .second, iv 4, iv r_4, iv r_7, iv r_10, iv r_13, rv b16, rv b284, iv 0, iv 3, rv b365, .unset] [(.ref b365)]) s₁ f0 := fun t k => R369 t (by
    refine XS.astore X368.here hx rfl (hb hby at_166) rfl rfl (l' := #[iv p0, iv p1, iv p2, iv p3, iv p4, own_l p5, .second, iv 4, iv r_4, iv r_7, iv r_10, iv r_13, rv b16, rv b284, iv 0, iv 3, rv b365, .unset]) rfl ?_
    refine XS.aload X368.here hx rfl (hb hby at_168) rfl rfl ?_
    exact k)
   obtain ⟨cq371, kq371, q371a, q371b, q371c⟩ := isOf hZ rfl f368_E_b365
   obtain ⟨_, _, ⟨T371, L371, k371, n371⟩, -, X371, ⟨Lc371, hQ371, l371, y371, z371⟩, st371⟩ := X368.virtualBack hx (y := yN2) (z := yN2) hown (mvT hZ (hU 40 _ rfl)) (mvT hZ (hU 41 _ rfl)) (notFace_of_selects (args := #[]) (mvT hZ (hU 43 _ rfl))) (mvT hZ (hU 43 _ rfl)) (mvT hZ (hU 42 _ rfl)) (by decide) (backOf (W := 0) (rmNmM l Z a0 hw [] b365 b284 b2_289 kb2_289 (4 : Int32) [(.int (nar .byte ((nar .char r_4).toInt8.toInt32))), (.int (nar .byte ((nar .char r_7).toInt8.toInt32))), (.int (nar .byte ((nar .char r_10).toInt8.toInt32))), (.int (nar .byte ((nar .char r_13).toInt8.toInt32)))] cs sf (1 : Int32) (3 : Int32) [(.int (nar .byte ((nar .char r_7).toInt8.toInt32))), (.int (nar .byte ((nar .char r_10).toInt8.toInt32))), (.int (nar .byte ((nar .char r_13).toInt8.toInt32)))] (3 : Int32) (own_li4 (nar .byte ((nar .char r_4).toInt8.toInt32)) (nar .byte ((nar .char r_7).toInt8.toInt32)) (nar .byte ((nar .char r_10).toInt8.toInt32)) (nar .byte ((nar .char r_13).toInt8.toInt32))) T368.heap n0 z368 f368_E_b365 p368_1 f368_E_b284 f368_F_coder_b284 f368_F_value_b284 f368_A_b2_289 f368_S_String_COMPACT_STRINGS hcs f368_S_Preconditions_SIOOBE_FORMATTER hsf (by decide) (by decide) (by decide) (by decide) (by decide) (by decide) (fun h1 z1 A1 => rmCrb41 l Z a0 hw [] b2_289 kb2_289 (nar .byte ((nar .char r_4).toInt8.toInt32)) (nar .byte ((nar .char r_7).toInt8.toInt32)) (nar .byte ((nar .char r_10).toInt8.toInt32)) (nar .byte ((nar .char r_13).toInt8.toInt32)) h1 n0 z1 A1) (by decide) (rmLli4 l Z a0 hw [] b2_289 kb2_289 (nar .byte ((nar .char r_4).toInt8.toInt32)) (nar .byte ((nar .char r_7).toInt8.toInt32)) (nar .byte ((nar .char r_10).toInt8.toInt32)) (nar .byte ((nar .char r_13).toInt8.toInt32)) T368.heap n0 z368 f368_A_b2_289) (own_lk40 (own_n47 p13_1 hK3) (own_n47 p10_1 hK2) (own_n47 p7_1 hK1) (own_b47 hK0))) hZ (hU 44 _ rfl) (hU 31 _ rfl) (by decide) (by decide)) q371a q371c (g := (mkF m 170 #[iv p0, iv p1, iv p2, iv p3, iv p4, own_l p5, .second, iv 4, iv r_4, iv r_7, iv r_10, iv r_13, rv b16, rv b284, iv 0, iv 3, rv b365, .unset] [(.ref b365)])) rfl (by rw [hml]; rfl) (Steps.refl _) (argsL := []) (rest := []) (lenOf pd_32 rfl) rfl (Nat.le_of_eq rfl) (hb hby at_170) (fun _ _ => ⟨rfl, rfl, (by decide : 5 + 2 ≤ _), (by decide : 18 + 7 ≤ _)⟩)
   dsimp only [Pt.U, Pt.locs, Pt.cells, Pt.slots] at X371 l371 y371 z371 st371 hQ371
   subst l371 y371 z371
   obtain ⟨r_371, b2_371, kb2_371, rfl, N371q, p371_0, p371_1, p371_2, p371_3, p371_4, p371_5, p371_6⟩ := hQ371
   have N371 := Fr.app N368 N371q
   have f371_S_String_COMPACT_STRINGS := own_sta_keep f368_S_String_COMPACT_STRINGS p371_0 ns0
   have f371_S_Preconditions_SIOOBE_FORMATTER := own_sta_keep f368_S_Preconditions_SIOOBE_FORMATTER p371_0 ns0
   have f371_A_b16 := f368_A_b16.keep p371_0 nin0
   have f371_E_b284 := f368_E_b284.keep p371_0
   have f371_F_value_b284 := f368_F_value_b284.keep p371_0 nin0
   have f371_F_coder_b284 := f368_F_coder_b284.keep p371_0 nin0
   have f371_A_b2_289 := f368_A_b2_289.keep p371_0 nin0
   have f371_E_b365 := f368_E_b365.keep p371_0
   have f371_F_path_b365 := p368_1.keep p371_0 nin0
   have z371 : n0 ≤ T371.heap.size := Nat.le_trans z368 p371_0.1
   have K371 : Keep h0 T371.heap [] := K368.trans p371_0 all0
   have g_r_371 : n0 ≤ r_371 := Nat.le_trans z368 p371_5
   have sz_r_371 : h0.size ≤ r_371 := Nat.le_trans K368.1 p371_5
   have ne_b16_r_371 : b16 ≠ r_371 := Nat.ne_of_lt (Nat.lt_of_lt_of_le f368_A_b16.lt p371_5)
   have ne_b284_r_371 : b284 ≠ r_371 := Nat.ne_of_lt (Nat.lt_of_lt_of_le f368_F_value_b284.lt p371_5)
   have ne_b2_289_r_371 : b2_289 ≠ r_371 := Nat.ne_of_lt (Nat.lt_of_lt_of_le f368_A_b2_289.lt p371_5)
   have ne_b365_r_371 : b365 ≠ r_371 := Nat.ne_of_lt (Nat.lt_of_lt_of_le p368_1.lt p371_5)
   have g_b2_371 : n0 ≤ b2_371 := Nat.le_trans z368 p371_6
   have sz_b2_371 : h0.size ≤ b2_371 := Nat.le_trans K368.1 p371_6
   have ne_b16_b2_371 : b16 ≠ b2_371 := Nat.ne_of_lt (Nat.lt_of_lt_of_le f368_A_b16.lt p371_6)
   have ne_b284_b2_371 : b284 ≠ b2_371 := Nat.ne_of_lt (Nat.lt_of_lt_of_le f368_F_value_b284.lt p371_6)
   have ne_b2_289_b2_371 : b2_289 ≠ b2_371 := Nat.ne_of_lt (Nat.lt_of_lt_of_le f368_A_b2_289.lt p371_6)
   have ne_b365_b2_371 : b365 ≠ b2_371 := Nat.ne_of_lt (Nat.lt_of_lt_of_le p368_1.lt p371_6)
   have R372 := fun t k => R370 t (st371.trans k)
   have R373 : own_R p e below T371 (mkF m 177 (fA2 b16 b284 b365 p0 p1 p2 p3 p4 p5 r_10 r_13 r_371 r_4 r_7) [(.ref r_371)]) s₁ f0 := fun t k => R372 t (by
    refine XS.astore X371.here hx rfl (hb hby at_173) rfl rfl (l' := (fA2 b16 b284 b365 p0 p1 p2 p3 p4 p5 r_10 r_13 r_371 r_4 r_7)) rfl ?_
    refine XS.aload X371.here hx rfl (hb hby at_175) rfl rfl ?_
    exact k)
   obtain ⟨cq374, kq374, q374a, q374b, q374c⟩ := isOf hZ rfl p371_1
   obtain ⟨_, _, ⟨T374, L374, k374, n374⟩, -, X374, ⟨Lc374, hQ374, l374, y374, z374⟩, st374⟩ := X371.virtualBack hx (y := yN0) (z := yN0) hown (mvT hZ (hU 100 _ rfl)) (mvT hZ (hU 51 _ rfl)) (notFace_of_selects (args := #[]) (mvT hZ (hU 53 _ rfl))) (mvT hZ (hU 53 _ rfl)) (mvT hZ (hU 52 _ rfl)) (by decide) (backOf (W := 0) (rmLen l Z a0 hw [] r_371 b2_371 kb2_371 (3 : Int32) [(.int (nar .byte ((nar .char r_7).toInt8.toInt32))), (.int (nar .byte ((nar .char r_10).toInt8.toInt32))), (.int (nar .byte ((nar .char r_13).toInt8.toInt32)))] (.int 0) cs T371.heap n0 z371 p371_1 p371_2 p371_3 p371_4 f371_S_String_COMPACT_STRINGS hcs) hZ (hU 54 _ rfl) (hU 7 _ rfl) (by decide) (by decide)) q374a q374c (g := (mkF m 177 (fA2 b16 b284 b365 p0 p1 p2 p3 p4 p5 r_10 r_13 r_371 r_4 r_7) [(.ref r_371)])) rfl (by rw [hml]; rfl) (Steps.refl _) (argsL := []) (rest := []) (lenOf pd_20 rfl) rfl (Nat.le_of_eq rfl) (hb hby at_177) (fun _ _ => ⟨rfl, rfl, (by decide : 7 + 0 ≤ _), (by decide : 25 + 0 ≤ _)⟩)
   dsimp only [Pt.U, Pt.locs, Pt.cells, Pt.slots] at X374 l374 y374 z374 st374 hQ374
   subst l374 y374 z374
   obtain ⟨rfl, N374q, p374_0⟩ := hQ374
   have N374 := Fr.app N371 N374q
   have R375 := fun t k => R373 t (st374.trans k)
   have R376 : own_R p e below T374 (mkF m 180 (fA2 b16 b284 b365 p0 p1 p2 p3 p4 p5 r_10 r_13 r_371 r_4 r_7) [(.int 3)]) s₁ f0 := by have q := R375; rw [((own_sh (3 : Int32)) : ((3 : Int32) >>> ((0 : Int32) &&& 31)) = (3 : Int32))] at q; exact q
   have R377 : own_R p e below T374 (mkF m 195 (fA2 b16 b284 b365 p0 p1 p2 p3 p4 p5 r_10 r_13 r_371 r_4 r_7) [(.int 0), (.ref r_371)]) s₁ f0 := fun t k => R376 t (by
    refine XS.iload X374.here hx rfl (hb hby at_180) rfl ?_
    refine XS.icmpYes X374.here hx rfl (pc0 := 182) (pc' := 187) rfl (hb hby at_182) rfl (teq (by decide : (3 : Int32) = (3 : Int32))).1 (by decide) (by decide) ?_
    refine XS.iload X374.here hx rfl (hb hby at_187) rfl ?_
    refine XS.ifNo X374.here hx rfl (hb hby at_189) rfl ((if0 _ _).trans (tlt (by decide : (0 : Int32) < (3 : Int32))).2.2.2) ?_
    refine XS.aload X374.here hx rfl (hb hby at_192) rfl rfl ?_
    refine XS.iconst X374.here hx rfl (hb hby at_194) ?_
    exact k)
   obtain ⟨cq378, kq378, q378a, q378b, q378c⟩ := isOf hZ p374_0 p371_1
   obtain ⟨_, _, ⟨T378, L378, k378, n378⟩, -, X378, ⟨Lc378, hQ378, l378, y378, z378⟩, st378⟩ := X374.virtualBack hx (y := yN1) (z := yN1) hown (mvT hZ (hU 111 _ rfl)) (mvT hZ (hU 112 _ rfl)) (notFace_of_selects (args := #[]) (mvT hZ (hU 114 _ rfl))) (mvT hZ (hU 114 _ rfl)) (mvT hZ (hU 113 _ rfl)) (by decide) (backOf (W := 0) (rmCa l Z a0 hw [] r_371 (0 : Int32) b2_371 kb2_371 (3 : Int32) [(.int (nar .byte ((nar .char r_7).toInt8.toInt32))), (.int (nar .byte ((nar .char r_10).toInt8.toInt32))), (.int (nar .byte ((nar .char r_13).toInt8.toInt32)))] (.int 0) (nar .byte ((nar .char r_7).toInt8.toInt32)) cs sf T371.heap n0 z371 p371_1 p371_2 p371_3 p371_4 f371_S_String_COMPACT_STRINGS hcs f371_S_Preconditions_SIOOBE_FORMATTER hsf (by decide) (by decide) rfl) hZ (hU 115 _ rfl) (hU 7 _ rfl) (by decide) (by decide)) q378a q378c (g := (mkF m 195 (fA2 b16 b284 b365 p0 p1 p2 p3 p4 p5 r_10 r_13 r_371 r_4 r_7) [(.int 0), (.ref r_371)])) rfl (by rw [hml]; rfl) (Steps.refl _) (argsL := [(.int 0)]) (rest := []) (lenOf pd_28 rfl) rfl (Nat.le_of_eq rfl) (hb hby at_195) (fun _ _ => ⟨rfl, p374_0, (by decide : 7 + 0 ≤ _), (by decide : 25 + 0 ≤ _)⟩)
   dsimp only [Pt.U, Pt.locs, Pt.cells, Pt.slots] at X378 l378 y378 z378 st378 hQ378
   subst l378 y378 z378
   obtain ⟨rfl, N378q, p378_0⟩ := hQ378
   have N378 := Fr.app N374 N378q
   have R379 := fun t k => R377 t (st378.trans k)
   have R380 : own_R p e below T378 (mkF m 198 (fA2 b16 b284 b365 p0 p1 p2 p3 p4 p5 r_10 r_13 r_371 r_4 r_7) [(.int (nar .char r_7))]) s₁ f0 := by have q := R379; rw [((own_chb p7_1) : (own_ch (nar .byte ((nar .char r_7).toInt8.toInt32))) = (nar .char r_7))] at q; exact q
   have R381 : own_R p e below T378 (mkF m 204 (fA2 b16 b284 b365 p0 p1 p2 p3 p4 p5 r_10 r_13 r_371 r_4 r_7) [(.int 1), (.ref b16), (.int (nar .char r_7))]) s₁ f0 := fun t k => R380 t (by
    refine XS.aload X378.here hx rfl (hb hby at_198) rfl rfl ?_
    refine XS.iload X378.here hx rfl (hb hby at_200) rfl ?_
    refine XS.iconst X378.here hx rfl (hb hby at_202) ?_
    refine XS.iadd X378.here hx rfl (hb hby at_203) rfl ?_
    exact k)
   obtain ⟨cl382, Ar382, q382, S382, n382_, H382, G382⟩ := id f371_A_b16
   have hin382 : ¬ ((1 : Int32) < 0 ∨ cl382.slots.size ≤ ((1 : Int32)).toNatClampNeg) := inb_of S382 ⟨by decide, by decide⟩
   have hat382 : cl382.slots[((1 : Int32)).toNatClampNeg]? = some (.int (nar .char r_7)) := Has.at H382 hin382 rfl
   have R383 : own_R p e below T378 (mkF m 205 (fA2 b16 b284 b365 p0 p1 p2 p3 p4 p5 r_10 r_13 r_371 r_4 r_7) [(.int (nar .char r_7)), (.int (nar .char r_7))]) s₁ f0 := fun t k => R381 t (X378.caload hx (j := (1 : Int32)) (v := (.int (nar .char r_7))) (by rw [p378_0]; exact Ar382.1) (State.isArrayOf_alike hZ.alike Ar382.2.1) Ar382.2.2 hin382 hat382 (g := (mkF m 204 (fA2 b16 b284 b365 p0 p1 p2 p3 p4 p5 r_10 r_13 r_371 r_4 r_7) [(.int 1), (.ref b16), (.int (nar .char r_7))])) rfl rfl (hb hby at_204) _ k)
   have R384 : own_R p e below T378 (mkF m 219 (fA2 b16 b284 b365 p0 p1 p2 p3 p4 p5 r_10 r_13 r_371 r_4 r_7) [(.int 1), (.ref r_371)]) s₁ f0 := fun t k => R383 t (by
    refine XS.icmpYes X378.here hx rfl (pc0 := 205) (pc' := 210) rfl (hb hby at_205) rfl (teq rfl).1 (by decide) (by decide) ?_
    refine XS.iload X378.here hx rfl (hb hby at_210) rfl ?_
    refine XS.iconst X378.here hx rfl (hb hby at_212) ?_
    refine XS.icmpNo X378.here hx rfl (hb hby at_213) rfl (tlt (by decide : (1 : Int32) < (3 : Int32))).2.2.2 ?_
    refine XS.aload X378.here hx rfl (hb hby at_216) rfl rfl ?_
    refine XS.iconst X378.here hx rfl (hb hby at_218) ?_
    exact k)
   obtain ⟨cq385, kq385, q385a, q385b, q385c⟩ := isOf hZ p378_0 p371_1
   obtain ⟨_, _, ⟨T385, L385, k385, n385⟩, -, X385, ⟨Lc385, hQ385, l385, y385, z385⟩, st385⟩ := X378.virtualBack hx (y := yN1) (z := yN1) hown (mvT hZ (hU 111 _ rfl)) (mvT hZ (hU 112 _ rfl)) (notFace_of_selects (args := #[]) (mvT hZ (hU 114 _ rfl))) (mvT hZ (hU 114 _ rfl)) (mvT hZ (hU 113 _ rfl)) (by decide) (backOf (W := 0) (rmCa l Z a0 hw [] r_371 (1 : Int32) b2_371 kb2_371 (3 : Int32) [(.int (nar .byte ((nar .char r_7).toInt8.toInt32))), (.int (nar .byte ((nar .char r_10).toInt8.toInt32))), (.int (nar .byte ((nar .char r_13).toInt8.toInt32)))] (.int 0) (nar .byte ((nar .char r_10).toInt8.toInt32)) cs sf T371.heap n0 z371 p371_1 p371_2 p371_3 p371_4 f371_S_String_COMPACT_STRINGS hcs f371_S_Preconditions_SIOOBE_FORMATTER hsf (by decide) (by decide) rfl) hZ (hU 115 _ rfl) (hU 7 _ rfl) (by decide) (by decide)) q385a q385c (g := (mkF m 219 (fA2 b16 b284 b365 p0 p1 p2 p3 p4 p5 r_10 r_13 r_371 r_4 r_7) [(.int 1), (.ref r_371)])) rfl (by rw [hml]; rfl) (Steps.refl _) (argsL := [(.int 1)]) (rest := []) (lenOf pd_28 rfl) rfl (Nat.le_of_eq rfl) (hb hby at_219) (fun _ _ => ⟨rfl, p378_0, (by decide : 7 + 0 ≤ _), (by decide : 25 + 0 ≤ _)⟩)
   dsimp only [Pt.U, Pt.locs, Pt.cells, Pt.slots] at X385 l385 y385 z385 st385 hQ385
   subst l385 y385 z385
   obtain ⟨rfl, N385q, p385_0⟩ := hQ385
   have N385 := Fr.app N378 N385q
   have R386 := fun t k => R384 t (st385.trans k)
   have R387 : own_R p e below T385 (mkF m 222 (fA2 b16 b284 b365 p0 p1 p2 p3 p4 p5 r_10 r_13 r_371 r_4 r_7) [(.int (nar .char r_10))]) s₁ f0 := by have q := R386; rw [((own_chb p10_1) : (own_ch (nar .byte ((nar .char r_10).toInt8.toInt32))) = (nar .char r_10))] at q; exact q
   have R388 : own_R p e below T385 (mkF m 228 (fA2 b16 b284 b365 p0 p1 p2 p3 p4 p5 r_10 r_13 r_371 r_4 r_7) [(.int 2), (.ref b16), (.int (nar .char r_10))]) s₁ f0 := fun t k => R387 t (by
    refine XS.aload X385.here hx rfl (hb hby at_222) rfl rfl ?_
    refine XS.iload X385.here hx rfl (hb hby at_224) rfl ?_
    refine XS.iconst X385.here hx rfl (hb hby at_226) ?_
    refine XS.iadd X385.here hx rfl (hb hby at_227) rfl ?_
    exact k)
   obtain ⟨cl389, Ar389, q389, S389, n389_, H389, G389⟩ := id f371_A_b16
   have hin389 : ¬ ((2 : Int32) < 0 ∨ cl389.slots.size ≤ ((2 : Int32)).toNatClampNeg) := inb_of S389 ⟨by decide, by decide⟩
   have hat389 : cl389.slots[((2 : Int32)).toNatClampNeg]? = some (.int (nar .char r_10)) := Has.at H389 hin389 rfl
   have R390 : own_R p e below T385 (mkF m 229 (fA2 b16 b284 b365 p0 p1 p2 p3 p4 p5 r_10 r_13 r_371 r_4 r_7) [(.int (nar .char r_10)), (.int (nar .char r_10))]) s₁ f0 := fun t k => R388 t (X385.caload hx (j := (2 : Int32)) (v := (.int (nar .char r_10))) (by rw [p385_0]; exact Ar389.1) (State.isArrayOf_alike hZ.alike Ar389.2.1) Ar389.2.2 hin389 hat389 (g := (mkF m 228 (fA2 b16 b284 b365 p0 p1 p2 p3 p4 p5 r_10 r_13 r_371 r_4 r_7) [(.int 2), (.ref b16), (.int (nar .char r_10))])) rfl rfl (hb hby at_228) _ k)
   have R391 : own_R p e below T385 (mkF m 243 (fA2 b16 b284 b365 p0 p1 p2 p3 p4 p5 r_10 r_13 r_371 r_4 r_7) [(.int 2), (.ref r_371)]) s₁ f0 := fun t k => R390 t (by
    refine XS.icmpYes X385.here hx rfl (pc0 := 229) (pc' := 234) rfl (hb hby at_229) rfl (teq rfl).1 (by decide) (by decide) ?_
    refine XS.iload X385.here hx rfl (hb hby at_234) rfl ?_
    refine XS.iconst X385.here hx rfl (hb hby at_236) ?_
    refine XS.icmpNo X385.here hx rfl (hb hby at_237) rfl (tlt (by decide : (2 : Int32) < (3 : Int32))).2.2.2 ?_
    refine XS.aload X385.here hx rfl (hb hby at_240) rfl rfl ?_
    refine XS.iconst X385.here hx rfl (hb hby at_242) ?_
    exact k)
   obtain ⟨cq392, kq392, q392a, q392b, q392c⟩ := isOf hZ p385_0 p371_1
   obtain ⟨_, _, ⟨T392, L392, k392, n392⟩, -, X392, ⟨Lc392, hQ392, l392, y392, z392⟩, st392⟩ := X385.virtualBack hx (y := yN1) (z := yN1) hown (mvT hZ (hU 111 _ rfl)) (mvT hZ (hU 112 _ rfl)) (notFace_of_selects (args := #[]) (mvT hZ (hU 114 _ rfl))) (mvT hZ (hU 114 _ rfl)) (mvT hZ (hU 113 _ rfl)) (by decide) (backOf (W := 0) (rmCa l Z a0 hw [] r_371 (2 : Int32) b2_371 kb2_371 (3 : Int32) [(.int (nar .byte ((nar .char r_7).toInt8.toInt32))), (.int (nar .byte ((nar .char r_10).toInt8.toInt32))), (.int (nar .byte ((nar .char r_13).toInt8.toInt32)))] (.int 0) (nar .byte ((nar .char r_13).toInt8.toInt32)) cs sf T371.heap n0 z371 p371_1 p371_2 p371_3 p371_4 f371_S_String_COMPACT_STRINGS hcs f371_S_Preconditions_SIOOBE_FORMATTER hsf (by decide) (by decide) rfl) hZ (hU 115 _ rfl) (hU 7 _ rfl) (by decide) (by decide)) q392a q392c (g := (mkF m 243 (fA2 b16 b284 b365 p0 p1 p2 p3 p4 p5 r_10 r_13 r_371 r_4 r_7) [(.int 2), (.ref r_371)])) rfl (by rw [hml]; rfl) (Steps.refl _) (argsL := [(.int 2)]) (rest := []) (lenOf pd_28 rfl) rfl (Nat.le_of_eq rfl) (hb hby at_243) (fun _ _ => ⟨rfl, p385_0, (by decide : 7 + 0 ≤ _), (by decide : 25 + 0 ≤ _)⟩)
   dsimp only [Pt.U, Pt.locs, Pt.cells, Pt.slots] at X392 l392 y392 z392 st392 hQ392
   subst l392 y392 z392
   obtain ⟨rfl, N392q, p392_0⟩ := hQ392
   have N392 := Fr.app N385 N392q
   have R393 := fun t k => R391 t (st392.trans k)
   have R394 : own_R p e below T392 (mkF m 246 (fA2 b16 b284 b365 p0 p1 p2 p3 p4 p5 r_10 r_13 r_371 r_4 r_7) [(.int (nar .char r_13))]) s₁ f0 := by have q := R393; rw [((own_chb p13_1) : (own_ch (nar .byte ((nar .char r_13).toInt8.toInt32))) = (nar .char r_13))] at q; exact q
   have R395 : own_R p e below T392 (mkF m 252 (fA2 b16 b284 b365 p0 p1 p2 p3 p4 p5 r_10 r_13 r_371 r_4 r_7) [(.int 3), (.ref b16), (.int (nar .char r_13))]) s₁ f0 := fun t k => R394 t (by
    refine XS.aload X392.here hx rfl (hb hby at_246) rfl rfl ?_
    refine XS.iload X392.here hx rfl (hb hby at_248) rfl ?_
    refine XS.iconst X392.here hx rfl (hb hby at_250) ?_
    refine XS.iadd X392.here hx rfl (hb hby at_251) rfl ?_
    exact k)
   obtain ⟨cl396, Ar396, q396, S396, n396_, H396, G396⟩ := id f371_A_b16
   have hin396 : ¬ ((3 : Int32) < 0 ∨ cl396.slots.size ≤ ((3 : Int32)).toNatClampNeg) := inb_of S396 ⟨by decide, by decide⟩
   have hat396 : cl396.slots[((3 : Int32)).toNatClampNeg]? = some (.int (nar .char r_13)) := Has.at H396 hin396 rfl
   have R397 : own_R p e below T392 (mkF m 253 (fA2 b16 b284 b365 p0 p1 p2 p3 p4 p5 r_10 r_13 r_371 r_4 r_7) [(.int (nar .char r_13)), (.int (nar .char r_13))]) s₁ f0 := fun t k => R395 t (X392.caload hx (j := (3 : Int32)) (v := (.int (nar .char r_13))) (by rw [p392_0]; exact Ar396.1) (State.isArrayOf_alike hZ.alike Ar396.2.1) Ar396.2.2 hin396 hat396 (g := (mkF m 252 (fA2 b16 b284 b365 p0 p1 p2 p3 p4 p5 r_10 r_13 r_371 r_4 r_7) [(.int 3), (.ref b16), (.int (nar .char r_13))])) rfl rfl (hb hby at_252) _ k)
   have R398 : own_R p e below T392 (mkF m 283 (fA2 b16 b284 b365 p0 p1 p2 p3 p4 p5 r_10 r_13 r_371 r_4 r_7) [(.int 1)]) s₁ f0 := fun t k => R397 t (by
    refine XS.icmpYes X392.here hx rfl (pc0 := 253) (pc' := 258) rfl (hb hby at_253) rfl (teq rfl).1 (by decide) (by decide) ?_
    refine XS.iload X392.here hx rfl (hb hby at_258) rfl ?_
    refine XS.iconst X392.here hx rfl (hb hby at_260) ?_
    refine XS.icmpYes X392.here hx rfl (pc0 := 261) (pc' := 282) rfl (hb hby at_261) rfl (flt (by decide : ¬ ((3 : Int32) < (3 : Int32)))).2.2.2 (by decide) (by decide) ?_
    refine XS.iconst X392.here hx rfl (hb hby at_282) ?_
    exact k)
   obtain ⟨fs, hr, hrun, hended, hW, hsame⟩ := X392.leave (v := some (.int 1)) (fun h => by rw [Bd.returns] at h; cases h)
   have hend := ReturnedEndW.of_narrow (o := Outcome.returned (some (.int 1))) ⟨_, rfl⟩ hW hsame
   refine ⟨_, _, pre0 _ (R398 _ ?_), hrun, hended, _, _, rfl, ?_, hend.1, hend.2.1, hend.2.2.1, hend.2.2.2.mono (by decide) (by decide)⟩
   ·
    show own_S p e below T392 (mkF m 283 (fA2 b16 b284 b365 p0 p1 p2 p3 p4 p5 r_10 r_13 r_371 r_4 r_7) [(.int 1)]) _
    exact retN X392 hx (t := .boolean) Bd.returns (by simp) (hb hby at_283) hr
   ·
    show Q_rmLaw Z p0 p1 p2 p3 p4 p5 cs sf h0 n0 _ T392.heap _
    rw [p392_0]
    exact ⟨rfl, N392⟩
  ·
   have R399 : own_R p e below T289 (mkF m 155 (fA26 b16 b284 p0 p1 p2 p3 p4 p5 r_10 r_13 r_4 r_7) []) s₁ f0 := fun t k => R291 t (by
    refine XS.iconst X289.here hx rfl (hb hby at_80) ?_
    refine XS.istore X289.here hx rfl (hb hby at_81) rfl (l' := (fA11 b16 b284 p0 p1 p2 p3 p4 p5 r_10 r_13 r_4 r_7)) rfl ?_
    refine XS.iload X289.here hx rfl (hb hby at_83) rfl ?_
    refine XS.ifNo X289.here hx rfl (hb hby at_85) rfl ((if0 _ _).trans (tlt (by decide : (0 : Int32) < (4 : Int32))).2.2.2) ?_
    refine XS.iload X289.here hx rfl (hb hby at_88) rfl ?_
    refine XS.bipush X289.here hx rfl (hb hby at_90) ?_
    refine XS.icmpYes X289.here hx rfl (pc0 := 92) (pc' := 98) rfl (hb hby at_92) rfl (feq hK0).2 (by decide) (by decide) ?_
    refine XS.iload X289.here hx rfl (hb hby at_98) rfl ?_
    refine XS.iconst X289.here hx rfl (hb hby at_100) ?_
    refine XS.icmpNo X289.here hx rfl (hb hby at_101) rfl (tlt (by decide : (1 : Int32) < (4 : Int32))).2.2.2 ?_
    refine XS.iload X289.here hx rfl (hb hby at_104) rfl ?_
    refine XS.bipush X289.here hx rfl (hb hby at_106) ?_
    show own_S p e below T289 (mkF m 108 (fA11 b16 b284 p0 p1 p2 p3 p4 p5 r_10 r_13 r_4 r_7) [(.int 47), (.int r_7)]) _
    refine XS.icmpYes X289.here hx rfl (pc0 := 108) (pc' := 114) rfl (hb hby at_108) rfl (feq hK1).2 (by decide) (by decide) ?_
    refine XS.iload X289.here hx rfl (hb hby at_114) rfl ?_
    refine XS.iconst X289.here hx rfl (hb hby at_116) ?_
    refine XS.icmpNo X289.here hx rfl (hb hby at_117) rfl (tlt (by decide : (2 : Int32) < (4 : Int32))).2.2.2 ?_
    refine XS.iload X289.here hx rfl (hb hby at_120) rfl ?_
    refine XS.bipush X289.here hx rfl (hb hby at_122) ?_
    refine XS.icmpYes X289.here hx rfl (pc0 := 124) (pc' := 130) rfl (hb hby at_124) rfl (feq hK2).2 (by decide) (by decide) ?_
    refine XS.iload X289.here hx rfl (hb hby at_130) rfl ?_
    refine XS.iconst X289.here hx rfl (hb hby at_132) ?_
    refine XS.icmpNo X289.here hx rfl (hb hby at_133) rfl (tlt (by decide : (3 : Int32) < (4 : Int32))).2.2.2 ?_
    refine XS.iload X289.here hx rfl (hb hby at_136) rfl ?_
    refine XS.bipush X289.here hx rfl (hb hby at_138) ?_
    show own_S p e below T289 (mkF m 140 (fA11 b16 b284 p0 p1 p2 p3 p4 p5 r_10 r_13 r_4 r_7) [(.int 47), (.int r_13)]) _
    refine XS.icmpYes X289.here hx rfl (pc0 := 140) (pc' := 146) rfl (hb hby at_140) rfl (feq hK3).2 (by decide) (by decide) ?_
    refine XS.iload X289.here hx rfl (hb hby at_146) rfl ?_
    refine XS.iload X289.here hx rfl (hb hby at_148) rfl ?_
    refine XS.isub X289.here hx rfl (hb hby at_150) rfl ?_
    refine XS.iconst X289.here hx rfl (hb hby at_151) ?_
    refine XS.isub X289.here hx rfl (hb hby at_152) rfl ?_
    refine XS.istore X289.here hx rfl (hb hby at_153) rfl (l' := (fA26 b16 b284 p0 p1 p2 p3 p4 p5 r_10 r_13 r_4 r_7)) rfl ?_
    exact k)
   obtain ⟨T400, h400, X400, e400, E400, A400, D400, -, st400⟩ := newO X289 hx hZ hown (hU 29 _ rfl) (hU 30 _ rfl) (hU 31 _ rfl) rfl (g := (mkF m 155 (fA26 b16 b284 p0 p1 p2 p3 p4 p5 r_10 r_13 r_4 r_7) [])) rfl (hb hby at_155) (by decide) (by decide)
   obtain ⟨b400, g400⟩ : ∃ z, z = T289.heap.size := ⟨_, rfl⟩
   rw [← g400] at A400 D400 st400
   have g_b400 : n0 ≤ b400 := Nat.le_trans z289 (Nat.le_of_eq g400.symm)
   have sz_b400 : h0.size ≤ b400 := Nat.le_trans K289.1 (Nat.le_of_eq g400.symm)
   have ne_b16_b400 : b16 ≠ b400 := Nat.ne_of_lt (Nat.lt_of_lt_of_le f289_A_b16.lt (Nat.le_of_eq g400.symm))
   have ne_b284_b400 : b284 ≠ b400 := Nat.ne_of_lt (Nat.lt_of_lt_of_le f289_E_b284.lt (Nat.le_of_eq g400.symm))
   have ne_b2_289_b400 : b2_289 ≠ b400 := Nat.ne_of_lt (Nat.lt_of_lt_of_le p289_3.lt (Nat.le_of_eq g400.symm))
   have f400_S_String_COMPACT_STRINGS := f289_S_String_COMPACT_STRINGS.ext E400
   have f400_S_Preconditions_SIOOBE_FORMATTER := f289_S_Preconditions_SIOOBE_FORMATTER.ext E400
   have f400_A_b16 := f289_A_b16.ext E400
   have f400_E_b284 := f289_E_b284.ext E400
   have f400_F_value_b284 := p289_1.ext E400
   have f400_F_coder_b284 := p289_2.ext E400
   have f400_A_b2_289 := p289_3.ext E400
   have z400 : n0 ≤ h400.size := Nat.le_trans z289 E400.1
   have K400 : Keep h0 h400 [] := K289.ext E400
   have d400_path : Fld Z h400 b400 sN0 "path" "Ljava/lang/String;" .null := D400 (Or.inr (hU 37 _ rfl)) (ty := (.object "java/lang/String")) (by decide)
   have d400_creationZxid : Fld Z h400 b400 sN0 "creationZxid" "J" (.long (0 : Int64)) := D400 (Or.inr (hU 39 _ rfl)) (ty := .long) (by decide)
   have R401 := fun t k => R399 t (st400 t k)
   have R402 : own_R p e below T400 (mkF m 163 (fA26 b16 b284 p0 p1 p2 p3 p4 p5 r_10 r_13 r_4 r_7) [(.long p5), (.ref b284), (.ref b400), (.ref b400)]) s₁ f0 := fun t k => R401 t (by
    refine XS.dup X400.here hx rfl (hb hby at_158) rfl rfl ?_
    refine XS.aload X400.here hx rfl (hb hby at_159) rfl rfl ?_
    refine XS.lload X400.here hx rfl (hb hby at_161) rfl ?_
    exact k)
   obtain ⟨_, _, ⟨T403, L403, k403, n403⟩, -, X403, ⟨Lc403, hQ403, l403, y403, z403⟩, st403⟩ := X400.specialBack hx (y := yN5) rfl hown (mvT hZ (hU 32 _ rfl)) (mvT hZ (hU 33 _ rfl)) (mvT hZ (hU 34 _ rfl)) (by decide) (backOf (W := 1) (rmQni l Z a0 hw [] b400 b284 p5 .null (.long (0 : Int64)) h400 n0 z400 A400 d400_path d400_creationZxid g_b400) hZ (hU 34 _ rfl) (hU 31 _ rfl) (by decide) (by decide)) (g := (mkF m 163 (fA26 b16 b284 p0 p1 p2 p3 p4 p5 r_10 r_13 r_4 r_7) [(.long p5), (.ref b284), (.ref b400), (.ref b400)])) rfl (by rw [hml]; rfl) (Steps.refl _) (a := b400) (argsL := [(.ref b284), (.long p5)]) (rest := [(.ref b400)]) (lenOf pd_31 rfl) rfl (Nat.le_of_eq rfl) (hb hby at_163) (fun _ _ => ⟨rfl, e400, (by decide : 5 + 0 ≤ _), (by decide : 18 + 0 ≤ _)⟩)
   dsimp only [Pt.U, Pt.locs, Pt.cells, Pt.slots] at X403 l403 y403 z403 st403 hQ403
   subst l403 y403 z403
   obtain ⟨rfl, N403q, p403_0, p403_1⟩ := hQ403
   have N403 := Fr.app N289 N403q
   have f403_S_String_COMPACT_STRINGS := own_sta_keep f400_S_String_COMPACT_STRINGS p403_0 (nsS A400.nostat ns0)
   have f403_S_Preconditions_SIOOBE_FORMATTER := own_sta_keep f400_S_Preconditions_SIOOBE_FORMATTER p403_0 (nsS A400.nostat ns0)
   have f403_A_b16 := f400_A_b16.keep p403_0 (ninS ne_b16_b400 nin0)
   have f403_E_b284 := f400_E_b284.keep p403_0
   have f403_F_value_b284 := f400_F_value_b284.keep p403_0 (ninS ne_b284_b400 nin0)
   have f403_F_coder_b284 := f400_F_coder_b284.keep p403_0 (ninS ne_b284_b400 nin0)
   have f403_A_b2_289 := f400_A_b2_289.keep p403_0 (ninS ne_b2_289_b400 nin0)
   have f403_E_b400 := A400.keep p403_0
   have z403 : n0 ≤ T403.heap.size := Nat.le_trans z400 p403_0.1
   have K403 : Keep h0 T403.heap [] := K400.trans p403_0 (allS (Or.inr sz_b400) all0)
   have R404 := fun t k => R402 t (st403.trans k)
   have R405 : own_R p e below T403 (mkF m 170 #[iv p0, iv p1, iv p2, iv p3, iv p4, own_l p5, .second, iv 4, iv r_4, iv r_7, iv r_10, iv r_13, rv b16, rv b284, iv (-1), iv 4, rv b400, .unset] [(.ref b400)]) s₁ f0 := fun t k => R404 t (by
    refine XS.astore X403.here hx rfl (hb hby at_166) rfl rfl (l' := #[iv p0, iv p1, iv p2, iv p3, iv p4, own_l p5, .second, iv 4, iv r_4, iv r_7, iv r_10, iv r_13, rv b16, rv b284, iv (-1), iv 4, rv b400, .unset]) rfl ?_
    refine XS.aload X403.here hx rfl (hb hby at_168) rfl rfl ?_
    exact k)
   obtain ⟨cq406, kq406, q406a, q406b, q406c⟩ := isOf hZ rfl f403_E_b400
   obtain ⟨_, _, ⟨T406, L406, k406, n406⟩, -, X406, ⟨Lc406, hQ406, l406, y406, z406⟩, st406⟩ := X403.virtualBack hx (y := yN2) (z := yN2) hown (mvT hZ (hU 40 _ rfl)) (mvT hZ (hU 41 _ rfl)) (notFace_of_selects (args := #[]) (mvT hZ (hU 43 _ rfl))) (mvT hZ (hU 43 _ rfl)) (mvT hZ (hU 42 _ rfl)) (by decide) (backOf (W := 0) (rmNm0 l Z a0 hw [] b400 b284 b2_289 kb2_289 (4 : Int32) [(.int (nar .byte ((nar .char r_4).toInt8.toInt32))), (.int (nar .byte ((nar .char r_7).toInt8.toInt32))), (.int (nar .byte ((nar .char r_10).toInt8.toInt32))), (.int (nar .byte ((nar .char r_13).toInt8.toInt32)))] cs sf (3 : Int32) (own_li4 (nar .byte ((nar .char r_4).toInt8.toInt32)) (nar .byte ((nar .char r_7).toInt8.toInt32)) (nar .byte ((nar .char r_10).toInt8.toInt32)) (nar .byte ((nar .char r_13).toInt8.toInt32))) T403.heap n0 z403 f403_E_b400 p403_1 f403_E_b284 f403_F_coder_b284 f403_F_value_b284 f403_A_b2_289 f403_S_String_COMPACT_STRINGS hcs f403_S_Preconditions_SIOOBE_FORMATTER hsf (by decide) (by decide) (rmLli4 l Z a0 hw [] b2_289 kb2_289 (nar .byte ((nar .char r_4).toInt8.toInt32)) (nar .byte ((nar .char r_7).toInt8.toInt32)) (nar .byte ((nar .char r_10).toInt8.toInt32)) (nar .byte ((nar .char r_13).toInt8.toInt32)) T403.heap n0 z403 f403_A_b2_289) (own_lk4m (own_n47 p13_1 hK3) (own_n47 p10_1 hK2) (own_n47 p7_1 hK1) (own_n47 p4_1 hK0))) hZ (hU 44 _ rfl) (hU 31 _ rfl) (by decide) (by decide)) q406a q406c (g := (mkF m 170 #[iv p0, iv p1, iv p2, iv p3, iv p4, own_l p5, .second, iv 4, iv r_4, iv r_7, iv r_10, iv r_13, rv b16, rv b284, iv (-1), iv 4, rv b400, .unset] [(.ref b400)])) rfl (by rw [hml]; rfl) (Steps.refl _) (argsL := []) (rest := []) (lenOf pd_32 rfl) rfl (Nat.le_of_eq rfl) (hb hby at_170) (fun _ _ => ⟨rfl, rfl, (by decide : 5 + 0 ≤ _), (by decide : 18 + 0 ≤ _)⟩)
   dsimp only [Pt.U, Pt.locs, Pt.cells, Pt.slots] at X406 l406 y406 z406 st406 hQ406
   subst l406 y406 z406
   obtain ⟨rfl, N406q, p406_0⟩ := hQ406
   have N406 := Fr.app N403 N406q
   have R407 := fun t k => R405 t (st406.trans k)
   have R408 : own_R p e below T406 (mkF m 177 (fA0 b16 b284 b400 p0 p1 p2 p3 p4 p5 r_10 r_13 r_4 r_7) [(.ref b284)]) s₁ f0 := fun t k => R407 t (by
    refine XS.astore X406.here hx rfl (hb hby at_173) rfl rfl (l' := (fA0 b16 b284 b400 p0 p1 p2 p3 p4 p5 r_10 r_13 r_4 r_7)) rfl ?_
    refine XS.aload X406.here hx rfl (hb hby at_175) rfl rfl ?_
    exact k)
   obtain ⟨cq409, kq409, q409a, q409b, q409c⟩ := isOf hZ p406_0 f403_E_b284
   obtain ⟨_, _, ⟨T409, L409, k409, n409⟩, -, X409, ⟨Lc409, hQ409, l409, y409, z409⟩, st409⟩ := X406.virtualBack hx (y := yN0) (z := yN0) hown (mvT hZ (hU 100 _ rfl)) (mvT hZ (hU 51 _ rfl)) (notFace_of_selects (args := #[]) (mvT hZ (hU 53 _ rfl))) (mvT hZ (hU 53 _ rfl)) (mvT hZ (hU 52 _ rfl)) (by decide) (backOf (W := 0) (rmLen l Z a0 hw [] b284 b2_289 kb2_289 (4 : Int32) [(.int (nar .byte ((nar .char r_4).toInt8.toInt32))), (.int (nar .byte ((nar .char r_7).toInt8.toInt32))), (.int (nar .byte ((nar .char r_10).toInt8.toInt32))), (.int (nar .byte ((nar .char r_13).toInt8.toInt32)))] (.int 0) cs T403.heap n0 z403 f403_E_b284 f403_F_coder_b284 f403_F_value_b284 f403_A_b2_289 f403_S_String_COMPACT_STRINGS hcs) hZ (hU 54 _ rfl) (hU 7 _ rfl) (by decide) (by decide)) q409a q409c (g := (mkF m 177 (fA0 b16 b284 b400 p0 p1 p2 p3 p4 p5 r_10 r_13 r_4 r_7) [(.ref b284)])) rfl (by rw [hml]; rfl) (Steps.refl _) (argsL := []) (rest := []) (lenOf pd_20 rfl) rfl (Nat.le_of_eq rfl) (hb hby at_177) (fun _ _ => ⟨rfl, p406_0, (by decide : 5 + 0 ≤ _), (by decide : 18 + 0 ≤ _)⟩)
   dsimp only [Pt.U, Pt.locs, Pt.cells, Pt.slots] at X409 l409 y409 z409 st409 hQ409
   subst l409 y409 z409
   obtain ⟨rfl, N409q, p409_0⟩ := hQ409
   have N409 := Fr.app N406 N409q
   have R410 := fun t k => R408 t (st409.trans k)
   have R411 : own_R p e below T409 (mkF m 180 (fA0 b16 b284 b400 p0 p1 p2 p3 p4 p5 r_10 r_13 r_4 r_7) [(.int 4)]) s₁ f0 := by have q := R410; rw [((own_sh (4 : Int32)) : ((4 : Int32) >>> ((0 : Int32) &&& 31)) = (4 : Int32))] at q; exact q
   have R412 : own_R p e below T409 (mkF m 195 (fA0 b16 b284 b400 p0 p1 p2 p3 p4 p5 r_10 r_13 r_4 r_7) [(.int 0), (.ref b284)]) s₁ f0 := fun t k => R411 t (by
    refine XS.iload X409.here hx rfl (hb hby at_180) rfl ?_
    refine XS.icmpYes X409.here hx rfl (pc0 := 182) (pc' := 187) rfl (hb hby at_182) rfl (teq (by decide : (4 : Int32) = (4 : Int32))).1 (by decide) (by decide) ?_
    refine XS.iload X409.here hx rfl (hb hby at_187) rfl ?_
    refine XS.ifNo X409.here hx rfl (hb hby at_189) rfl ((if0 _ _).trans (tlt (by decide : (0 : Int32) < (4 : Int32))).2.2.2) ?_
    refine XS.aload X409.here hx rfl (hb hby at_192) rfl rfl ?_
    refine XS.iconst X409.here hx rfl (hb hby at_194) ?_
    exact k)
   obtain ⟨cq413, kq413, q413a, q413b, q413c⟩ := isOf hZ p409_0 f403_E_b284
   obtain ⟨_, _, ⟨T413, L413, k413, n413⟩, -, X413, ⟨Lc413, hQ413, l413, y413, z413⟩, st413⟩ := X409.virtualBack hx (y := yN1) (z := yN1) hown (mvT hZ (hU 111 _ rfl)) (mvT hZ (hU 112 _ rfl)) (notFace_of_selects (args := #[]) (mvT hZ (hU 114 _ rfl))) (mvT hZ (hU 114 _ rfl)) (mvT hZ (hU 113 _ rfl)) (by decide) (backOf (W := 0) (rmCa l Z a0 hw [] b284 (0 : Int32) b2_289 kb2_289 (4 : Int32) [(.int (nar .byte ((nar .char r_4).toInt8.toInt32))), (.int (nar .byte ((nar .char r_7).toInt8.toInt32))), (.int (nar .byte ((nar .char r_10).toInt8.toInt32))), (.int (nar .byte ((nar .char r_13).toInt8.toInt32)))] (.int 0) (nar .byte ((nar .char r_4).toInt8.toInt32)) cs sf T403.heap n0 z403 f403_E_b284 f403_F_coder_b284 f403_F_value_b284 f403_A_b2_289 f403_S_String_COMPACT_STRINGS hcs f403_S_Preconditions_SIOOBE_FORMATTER hsf (by decide) (by decide) rfl) hZ (hU 115 _ rfl) (hU 7 _ rfl) (by decide) (by decide)) q413a q413c (g := (mkF m 195 (fA0 b16 b284 b400 p0 p1 p2 p3 p4 p5 r_10 r_13 r_4 r_7) [(.int 0), (.ref b284)])) rfl (by rw [hml]; rfl) (Steps.refl _) (argsL := [(.int 0)]) (rest := []) (lenOf pd_28 rfl) rfl (Nat.le_of_eq rfl) (hb hby at_195) (fun _ _ => ⟨rfl, p409_0, (by decide : 5 + 0 ≤ _), (by decide : 18 + 0 ≤ _)⟩)
   dsimp only [Pt.U, Pt.locs, Pt.cells, Pt.slots] at X413 l413 y413 z413 st413 hQ413
   subst l413 y413 z413
   obtain ⟨rfl, N413q, p413_0⟩ := hQ413
   have N413 := Fr.app N409 N413q
   have R414 := fun t k => R412 t (st413.trans k)
   have R415 : own_R p e below T413 (mkF m 198 (fA0 b16 b284 b400 p0 p1 p2 p3 p4 p5 r_10 r_13 r_4 r_7) [(.int (nar .char r_4))]) s₁ f0 := by have q := R414; rw [((own_chb p4_1) : (own_ch (nar .byte ((nar .char r_4).toInt8.toInt32))) = (nar .char r_4))] at q; exact q
   have R416 : own_R p e below T413 (mkF m 204 (fA0 b16 b284 b400 p0 p1 p2 p3 p4 p5 r_10 r_13 r_4 r_7) [(.int 0), (.ref b16), (.int (nar .char r_4))]) s₁ f0 := fun t k => R415 t (by
    refine XS.aload X413.here hx rfl (hb hby at_198) rfl rfl ?_
    refine XS.iload X413.here hx rfl (hb hby at_200) rfl ?_
    refine XS.iconst X413.here hx rfl (hb hby at_202) ?_
    refine XS.iadd X413.here hx rfl (hb hby at_203) rfl ?_
    exact k)
   obtain ⟨cl417, Ar417, q417, S417, n417_, H417, G417⟩ := id f403_A_b16
   have hin417 : ¬ ((0 : Int32) < 0 ∨ cl417.slots.size ≤ ((0 : Int32)).toNatClampNeg) := inb_of S417 ⟨by decide, by decide⟩
   have hat417 : cl417.slots[((0 : Int32)).toNatClampNeg]? = some (.int (nar .char r_4)) := Has.at H417 hin417 rfl
   have R418 : own_R p e below T413 (mkF m 205 (fA0 b16 b284 b400 p0 p1 p2 p3 p4 p5 r_10 r_13 r_4 r_7) [(.int (nar .char r_4)), (.int (nar .char r_4))]) s₁ f0 := fun t k => R416 t (X413.caload hx (j := (0 : Int32)) (v := (.int (nar .char r_4))) (by rw [p413_0]; exact Ar417.1) (State.isArrayOf_alike hZ.alike Ar417.2.1) Ar417.2.2 hin417 hat417 (g := (mkF m 204 (fA0 b16 b284 b400 p0 p1 p2 p3 p4 p5 r_10 r_13 r_4 r_7) [(.int 0), (.ref b16), (.int (nar .char r_4))])) rfl rfl (hb hby at_204) _ k)
   have R419 : own_R p e below T413 (mkF m 219 (fA0 b16 b284 b400 p0 p1 p2 p3 p4 p5 r_10 r_13 r_4 r_7) [(.int 1), (.ref b284)]) s₁ f0 := fun t k => R418 t (by
    refine XS.icmpYes X413.here hx rfl (pc0 := 205) (pc' := 210) rfl (hb hby at_205) rfl (teq rfl).1 (by decide) (by decide) ?_
    refine XS.iload X413.here hx rfl (hb hby at_210) rfl ?_
    refine XS.iconst X413.here hx rfl (hb hby at_212) ?_
    refine XS.icmpNo X413.here hx rfl (hb hby at_213) rfl (tlt (by decide : (1 : Int32) < (4 : Int32))).2.2.2 ?_
    refine XS.aload X413.here hx rfl (hb hby at_216) rfl rfl ?_
    refine XS.iconst X413.here hx rfl (hb hby at_218) ?_
    exact k)
   obtain ⟨cq420, kq420, q420a, q420b, q420c⟩ := isOf hZ p413_0 f403_E_b284
   obtain ⟨_, _, ⟨T420, L420, k420, n420⟩, -, X420, ⟨Lc420, hQ420, l420, y420, z420⟩, st420⟩ := X413.virtualBack hx (y := yN1) (z := yN1) hown (mvT hZ (hU 111 _ rfl)) (mvT hZ (hU 112 _ rfl)) (notFace_of_selects (args := #[]) (mvT hZ (hU 114 _ rfl))) (mvT hZ (hU 114 _ rfl)) (mvT hZ (hU 113 _ rfl)) (by decide) (backOf (W := 0) (rmCa l Z a0 hw [] b284 (1 : Int32) b2_289 kb2_289 (4 : Int32) [(.int (nar .byte ((nar .char r_4).toInt8.toInt32))), (.int (nar .byte ((nar .char r_7).toInt8.toInt32))), (.int (nar .byte ((nar .char r_10).toInt8.toInt32))), (.int (nar .byte ((nar .char r_13).toInt8.toInt32)))] (.int 0) (nar .byte ((nar .char r_7).toInt8.toInt32)) cs sf T403.heap n0 z403 f403_E_b284 f403_F_coder_b284 f403_F_value_b284 f403_A_b2_289 f403_S_String_COMPACT_STRINGS hcs f403_S_Preconditions_SIOOBE_FORMATTER hsf (by decide) (by decide) rfl) hZ (hU 115 _ rfl) (hU 7 _ rfl) (by decide) (by decide)) q420a q420c (g := (mkF m 219 (fA0 b16 b284 b400 p0 p1 p2 p3 p4 p5 r_10 r_13 r_4 r_7) [(.int 1), (.ref b284)])) rfl (by rw [hml]; rfl) (Steps.refl _) (argsL := [(.int 1)]) (rest := []) (lenOf pd_28 rfl) rfl (Nat.le_of_eq rfl) (hb hby at_219) (fun _ _ => ⟨rfl, p413_0, (by decide : 5 + 0 ≤ _), (by decide : 18 + 0 ≤ _)⟩)
   dsimp only [Pt.U, Pt.locs, Pt.cells, Pt.slots] at X420 l420 y420 z420 st420 hQ420
   subst l420 y420 z420
   obtain ⟨rfl, N420q, p420_0⟩ := hQ420
   have N420 := Fr.app N413 N420q
   have R421 := fun t k => R419 t (st420.trans k)
   have R422 : own_R p e below T420 (mkF m 222 (fA0 b16 b284 b400 p0 p1 p2 p3 p4 p5 r_10 r_13 r_4 r_7) [(.int (nar .char r_7))]) s₁ f0 := by have q := R421; rw [((own_chb p7_1) : (own_ch (nar .byte ((nar .char r_7).toInt8.toInt32))) = (nar .char r_7))] at q; exact q
   have R423 : own_R p e below T420 (mkF m 228 (fA0 b16 b284 b400 p0 p1 p2 p3 p4 p5 r_10 r_13 r_4 r_7) [(.int 1), (.ref b16), (.int (nar .char r_7))]) s₁ f0 := fun t k => R422 t (by
    refine XS.aload X420.here hx rfl (hb hby at_222) rfl rfl ?_
    refine XS.iload X420.here hx rfl (hb hby at_224) rfl ?_
    refine XS.iconst X420.here hx rfl (hb hby at_226) ?_
    refine XS.iadd X420.here hx rfl (hb hby at_227) rfl ?_
    exact k)
   obtain ⟨cl424, Ar424, q424, S424, n424_, H424, G424⟩ := id f403_A_b16
   have hin424 : ¬ ((1 : Int32) < 0 ∨ cl424.slots.size ≤ ((1 : Int32)).toNatClampNeg) := inb_of S424 ⟨by decide, by decide⟩
   have hat424 : cl424.slots[((1 : Int32)).toNatClampNeg]? = some (.int (nar .char r_7)) := Has.at H424 hin424 rfl
   have R425 : own_R p e below T420 (mkF m 229 (fA0 b16 b284 b400 p0 p1 p2 p3 p4 p5 r_10 r_13 r_4 r_7) [(.int (nar .char r_7)), (.int (nar .char r_7))]) s₁ f0 := fun t k => R423 t (X420.caload hx (j := (1 : Int32)) (v := (.int (nar .char r_7))) (by rw [p420_0]; exact Ar424.1) (State.isArrayOf_alike hZ.alike Ar424.2.1) Ar424.2.2 hin424 hat424 (g := (mkF m 228 (fA0 b16 b284 b400 p0 p1 p2 p3 p4 p5 r_10 r_13 r_4 r_7) [(.int 1), (.ref b16), (.int (nar .char r_7))])) rfl rfl (hb hby at_228) _ k)
   have R426 : own_R p e below T420 (mkF m 243 (fA0 b16 b284 b400 p0 p1 p2 p3 p4 p5 r_10 r_13 r_4 r_7) [(.int 2), (.ref b284)]) s₁ f0 := fun t k => R425 t (by
    refine XS.icmpYes X420.here hx rfl (pc0 := 229) (pc' := 234) rfl (hb hby at_229) rfl (teq rfl).1 (by decide) (by decide) ?_
    refine XS.iload X420.here hx rfl (hb hby at_234) rfl ?_
    refine XS.iconst X420.here hx rfl (hb hby at_236) ?_
    refine XS.icmpNo X420.here hx rfl (hb hby at_237) rfl (tlt (by decide : (2 : Int32) < (4 : Int32))).2.2.2 ?_
    refine XS.aload X420.here hx rfl (hb hby at_240) rfl rfl ?_
    refine XS.iconst X420.here hx rfl (hb hby at_242) ?_
    exact k)
   obtain ⟨cq427, kq427, q427a, q427b, q427c⟩ := isOf hZ p420_0 f403_E_b284
   obtain ⟨_, _, ⟨T427, L427, k427, n427⟩, -, X427, ⟨Lc427, hQ427, l427, y427, z427⟩, st427⟩ := X420.virtualBack hx (y := yN1) (z := yN1) hown (mvT hZ (hU 111 _ rfl)) (mvT hZ (hU 112 _ rfl)) (notFace_of_selects (args := #[]) (mvT hZ (hU 114 _ rfl))) (mvT hZ (hU 114 _ rfl)) (mvT hZ (hU 113 _ rfl)) (by decide) (backOf (W := 0) (rmCa l Z a0 hw [] b284 (2 : Int32) b2_289 kb2_289 (4 : Int32) [(.int (nar .byte ((nar .char r_4).toInt8.toInt32))), (.int (nar .byte ((nar .char r_7).toInt8.toInt32))), (.int (nar .byte ((nar .char r_10).toInt8.toInt32))), (.int (nar .byte ((nar .char r_13).toInt8.toInt32)))] (.int 0) (nar .byte ((nar .char r_10).toInt8.toInt32)) cs sf T403.heap n0 z403 f403_E_b284 f403_F_coder_b284 f403_F_value_b284 f403_A_b2_289 f403_S_String_COMPACT_STRINGS hcs f403_S_Preconditions_SIOOBE_FORMATTER hsf (by decide) (by decide) rfl) hZ (hU 115 _ rfl) (hU 7 _ rfl) (by decide) (by decide)) q427a q427c (g := (mkF m 243 (fA0 b16 b284 b400 p0 p1 p2 p3 p4 p5 r_10 r_13 r_4 r_7) [(.int 2), (.ref b284)])) rfl (by rw [hml]; rfl) (Steps.refl _) (argsL := [(.int 2)]) (rest := []) (lenOf pd_28 rfl) rfl (Nat.le_of_eq rfl) (hb hby at_243) (fun _ _ => ⟨rfl, p420_0, (by decide : 5 + 0 ≤ _), (by decide : 18 + 0 ≤ _)⟩)
   dsimp only [Pt.U, Pt.locs, Pt.cells, Pt.slots] at X427 l427 y427 z427 st427 hQ427
   subst l427 y427 z427
   obtain ⟨rfl, N427q, p427_0⟩ := hQ427
   have N427 := Fr.app N420 N427q
   have R428 := fun t k => R426 t (st427.trans k)
   have R429 : own_R p e below T427 (mkF m 246 (fA0 b16 b284 b400 p0 p1 p2 p3 p4 p5 r_10 r_13 r_4 r_7) [(.int (nar .char r_10))]) s₁ f0 := by have q := R428; rw [((own_chb p10_1) : (own_ch (nar .byte ((nar .char r_10).toInt8.toInt32))) = (nar .char r_10))] at q; exact q
   have R430 : own_R p e below T427 (mkF m 252 (fA0 b16 b284 b400 p0 p1 p2 p3 p4 p5 r_10 r_13 r_4 r_7) [(.int 2), (.ref b16), (.int (nar .char r_10))]) s₁ f0 := fun t k => R429 t (by
    refine XS.aload X427.here hx rfl (hb hby at_246) rfl rfl ?_
    refine XS.iload X427.here hx rfl (hb hby at_248) rfl ?_
    refine XS.iconst X427.here hx rfl (hb hby at_250) ?_
    refine XS.iadd X427.here hx rfl (hb hby at_251) rfl ?_
    exact k)
   obtain ⟨cl431, Ar431, q431, S431, n431_, H431, G431⟩ := id f403_A_b16
   have hin431 : ¬ ((2 : Int32) < 0 ∨ cl431.slots.size ≤ ((2 : Int32)).toNatClampNeg) := inb_of S431 ⟨by decide, by decide⟩
   have hat431 : cl431.slots[((2 : Int32)).toNatClampNeg]? = some (.int (nar .char r_10)) := Has.at H431 hin431 rfl
   have R432 : own_R p e below T427 (mkF m 253 (fA0 b16 b284 b400 p0 p1 p2 p3 p4 p5 r_10 r_13 r_4 r_7) [(.int (nar .char r_10)), (.int (nar .char r_10))]) s₁ f0 := fun t k => R430 t (X427.caload hx (j := (2 : Int32)) (v := (.int (nar .char r_10))) (by rw [p427_0]; exact Ar431.1) (State.isArrayOf_alike hZ.alike Ar431.2.1) Ar431.2.2 hin431 hat431 (g := (mkF m 252 (fA0 b16 b284 b400 p0 p1 p2 p3 p4 p5 r_10 r_13 r_4 r_7) [(.int 2), (.ref b16), (.int (nar .char r_10))])) rfl rfl (hb hby at_252) _ k)
   have R433 : own_R p e below T427 (mkF m 267 (fA0 b16 b284 b400 p0 p1 p2 p3 p4 p5 r_10 r_13 r_4 r_7) [(.int 3), (.ref b284)]) s₁ f0 := fun t k => R432 t (by
    refine XS.icmpYes X427.here hx rfl (pc0 := 253) (pc' := 258) rfl (hb hby at_253) rfl (teq rfl).1 (by decide) (by decide) ?_
    refine XS.iload X427.here hx rfl (hb hby at_258) rfl ?_
    refine XS.iconst X427.here hx rfl (hb hby at_260) ?_
    refine XS.icmpNo X427.here hx rfl (hb hby at_261) rfl (tlt (by decide : (3 : Int32) < (4 : Int32))).2.2.2 ?_
    refine XS.aload X427.here hx rfl (hb hby at_264) rfl rfl ?_
    refine XS.iconst X427.here hx rfl (hb hby at_266) ?_
    exact k)
   obtain ⟨cq434, kq434, q434a, q434b, q434c⟩ := isOf hZ p427_0 f403_E_b284
   obtain ⟨_, _, ⟨T434, L434, k434, n434⟩, -, X434, ⟨Lc434, hQ434, l434, y434, z434⟩, st434⟩ := X427.virtualBack hx (y := yN1) (z := yN1) hown (mvT hZ (hU 111 _ rfl)) (mvT hZ (hU 112 _ rfl)) (notFace_of_selects (args := #[]) (mvT hZ (hU 114 _ rfl))) (mvT hZ (hU 114 _ rfl)) (mvT hZ (hU 113 _ rfl)) (by decide) (backOf (W := 0) (rmCa l Z a0 hw [] b284 (3 : Int32) b2_289 kb2_289 (4 : Int32) [(.int (nar .byte ((nar .char r_4).toInt8.toInt32))), (.int (nar .byte ((nar .char r_7).toInt8.toInt32))), (.int (nar .byte ((nar .char r_10).toInt8.toInt32))), (.int (nar .byte ((nar .char r_13).toInt8.toInt32)))] (.int 0) (nar .byte ((nar .char r_13).toInt8.toInt32)) cs sf T403.heap n0 z403 f403_E_b284 f403_F_coder_b284 f403_F_value_b284 f403_A_b2_289 f403_S_String_COMPACT_STRINGS hcs f403_S_Preconditions_SIOOBE_FORMATTER hsf (by decide) (by decide) rfl) hZ (hU 115 _ rfl) (hU 7 _ rfl) (by decide) (by decide)) q434a q434c (g := (mkF m 267 (fA0 b16 b284 b400 p0 p1 p2 p3 p4 p5 r_10 r_13 r_4 r_7) [(.int 3), (.ref b284)])) rfl (by rw [hml]; rfl) (Steps.refl _) (argsL := [(.int 3)]) (rest := []) (lenOf pd_28 rfl) rfl (Nat.le_of_eq rfl) (hb hby at_267) (fun _ _ => ⟨rfl, p427_0, (by decide : 5 + 0 ≤ _), (by decide : 18 + 0 ≤ _)⟩)
   dsimp only [Pt.U, Pt.locs, Pt.cells, Pt.slots] at X434 l434 y434 z434 st434 hQ434
   subst l434 y434 z434
   obtain ⟨rfl, N434q, p434_0⟩ := hQ434
   have N434 := Fr.app N427 N434q
   have R435 := fun t k => R433 t (st434.trans k)
   have R436 : own_R p e below T434 (mkF m 270 (fA0 b16 b284 b400 p0 p1 p2 p3 p4 p5 r_10 r_13 r_4 r_7) [(.int (nar .char r_13))]) s₁ f0 := by have q := R435; rw [((own_chb p13_1) : (own_ch (nar .byte ((nar .char r_13).toInt8.toInt32))) = (nar .char r_13))] at q; exact q
   have R437 : own_R p e below T434 (mkF m 276 (fA0 b16 b284 b400 p0 p1 p2 p3 p4 p5 r_10 r_13 r_4 r_7) [(.int 3), (.ref b16), (.int (nar .char r_13))]) s₁ f0 := fun t k => R436 t (by
    refine XS.aload X434.here hx rfl (hb hby at_270) rfl rfl ?_
    refine XS.iload X434.here hx rfl (hb hby at_272) rfl ?_
    refine XS.iconst X434.here hx rfl (hb hby at_274) ?_
    refine XS.iadd X434.here hx rfl (hb hby at_275) rfl ?_
    exact k)
   obtain ⟨cl438, Ar438, q438, S438, n438_, H438, G438⟩ := id f403_A_b16
   have hin438 : ¬ ((3 : Int32) < 0 ∨ cl438.slots.size ≤ ((3 : Int32)).toNatClampNeg) := inb_of S438 ⟨by decide, by decide⟩
   have hat438 : cl438.slots[((3 : Int32)).toNatClampNeg]? = some (.int (nar .char r_13)) := Has.at H438 hin438 rfl
   have R439 : own_R p e below T434 (mkF m 277 (fA0 b16 b284 b400 p0 p1 p2 p3 p4 p5 r_10 r_13 r_4 r_7) [(.int (nar .char r_13)), (.int (nar .char r_13))]) s₁ f0 := fun t k => R437 t (X434.caload hx (j := (3 : Int32)) (v := (.int (nar .char r_13))) (by rw [p434_0]; exact Ar438.1) (State.isArrayOf_alike hZ.alike Ar438.2.1) Ar438.2.2 hin438 hat438 (g := (mkF m 276 (fA0 b16 b284 b400 p0 p1 p2 p3 p4 p5 r_10 r_13 r_4 r_7) [(.int 3), (.ref b16), (.int (nar .char r_13))])) rfl rfl (hb hby at_276) _ k)
   have R440 : own_R p e below T434 (mkF m 283 (fA0 b16 b284 b400 p0 p1 p2 p3 p4 p5 r_10 r_13 r_4 r_7) [(.int 1)]) s₁ f0 := fun t k => R439 t (by
    refine XS.icmpYes X434.here hx rfl (pc0 := 277) (pc' := 282) rfl (hb hby at_277) rfl (teq rfl).1 (by decide) (by decide) ?_
    refine XS.iconst X434.here hx rfl (hb hby at_282) ?_
    exact k)
   obtain ⟨fs, hr, hrun, hended, hW, hsame⟩ := X434.leave (v := some (.int 1)) (fun h => by rw [Bd.returns] at h; cases h)
   have hend := ReturnedEndW.of_narrow (o := Outcome.returned (some (.int 1))) ⟨_, rfl⟩ hW hsame
   refine ⟨_, _, pre0 _ (R440 _ ?_), hrun, hended, _, _, rfl, ?_, hend.1, hend.2.1, hend.2.2.1, hend.2.2.2.mono (by decide) (by decide)⟩
   ·
    show own_S p e below T434 (mkF m 283 (fA0 b16 b284 b400 p0 p1 p2 p3 p4 p5 r_10 r_13 r_4 r_7) [(.int 1)]) _
    exact retN X434 hx (t := .boolean) Bd.returns (by simp) (hb hby at_283) hr
   ·
    show Q_rmLaw Z p0 p1 p2 p3 p4 p5 cs sf h0 n0 _ T434.heap _
    rw [p434_0]
    exact ⟨rfl, N434⟩
set_option maxRecDepth 65536 in
set_option maxHeartbeats 40000000 in
theorem comes_1 {Post : Tables → Env → Array Value → State → Outcome → State → Prop} (hpost : ∀ tb e args s v u, (limb_1_1.after args s (.returned v) u = true ∧ limb_1_2.after args s (.returned v) u = true ∧ True) → ReturnedEndW s (.returned v) u (Jvm.fieldLocs frame_1_writes args s ++ Jvm.arrayLocs frame_1_arrays args s ++ Jvm.staticLocs frame_1_statics s) 32 2176 → Post tb e args s (.returned v) u) :
  ArmFor flags0 classFile x code maxLocals ret World_1 tables_1 room_1 Calls_1 rest_1 Pre_1 Post := by
 intro l hfl _ _ p e ha hc hk s m args below hf hA hF happ hP
 obtain ⟨hcalls, hrest, hpre⟩ := hP
 obtain ⟨-, -, -, hnamed, -, -, -, hat⟩ := (Spec.applies_iff hf).mp happ
 obtain ⟨hg, hn⟩ := and_e (Cond.before_iff.mp (show (Jvm.Cond.and given_1 narrow_1).before args s = true from hpre))
 obtain ⟨gg1, gg2⟩ := and_e hg
 obtain ⟨gg3, gg4⟩ := and_e gg2
 obtain ⟨gg5, gg6⟩ := and_e gg4
 obtain ⟨gg7, gg8⟩ := and_e gg6
 obtain ⟨gg9, gg10⟩ := and_e gg8
 obtain ⟨gg11, gg12⟩ := and_e gg10
 obtain ⟨w0, w1, w2, w3, w4, w5, rfl⟩ : ∃ w0 w1 w2 w3 w4 w5 : Value, args = #[w0, w1, w2, w3, w4, w5] := by
  have hs : args.size = 6 := by simpa [Cond.value, given_1] using gg1
  obtain ⟨L⟩ := args
  match L, hs with
  | [w0, w1, w2, w3, w4, w5], _ => exact ⟨w0, w1, w2, w3, w4, w5, rfl⟩
 have hw := fun d (hd : d ∈ tables_1) => atoms_spec (ws := Jvm.Cond.code x code maxLocals ret :: tables_1) hat d (List.mem_cons_of_mem _ hd)
 have hU : ∀ (i : Nat) (d : Jvm.Cond), tables_1[i]? = some d → d.before _ s = true := fun i d h => hw d (List.mem_of_getElem? h)
 have hfit : Fit s := fun {y c} hc i hi => by
  obtain ⟨ha, rfl⟩ := Array.getElem?_eq_some_iff.mp hc
  have q := List.all_eq_true.mp ((Array.all_eq_true_iff_forall_mem.mp hF) _ (Array.getElem_mem ha)) i (List.mem_range.mpr hi)
  simpa [Array.getElem?_eq_getElem hi] using q
 obtain ⟨hsets, hown0⟩ := atoms_of _ (rest_1_c_eq ▸ (show rest_1_c.before _ s = true from hrest))
 obtain ⟨i0, ei0⟩ := is_v gg3
 obtain rfl : w0 = (.int i0) := Option.some.inj ei0
 obtain ⟨i1, ei1⟩ := is_v gg5
 obtain rfl : w1 = (.int i1) := Option.some.inj ei1
 obtain ⟨i2, ei2⟩ := is_v gg7
 obtain rfl : w2 = (.int i2) := Option.some.inj ei2
 obtain ⟨i3, ei3⟩ := is_v gg9
 obtain rfl : w3 = (.int i3) := Option.some.inj ei3
 obtain ⟨i4, ei4⟩ := is_v gg11
 obtain rfl : w4 = (.int i4) := Option.some.inj ei4
 obtain ⟨i5, ei5⟩ := isL_v gg12
 obtain rfl : w5 = (.long i5) := Option.some.inj ei5
 have n3 := not_v (Cond.before_iff.mp (hsets _ (List.mem_of_getElem? (i := 2) rfl)))
 obtain ⟨cs, ecs⟩ := is_v (Cond.before_iff.mp (hsets _ (List.mem_of_getElem? (i := 1) rfl)))
 have hcs : ¬ cs = (0 : Int32) := own_ncs ecs n3
 have Scs := Sta.start ecs (Or.inl (hsets _ (List.mem_of_getElem? (i := 0) rfl)))
 obtain ⟨sf, esf, hsf⟩ := isR_v (Cond.before_iff.mp (hsets _ (List.mem_of_getElem? (i := 8) rfl)))
 have Ssf := Sta.start esf (Or.inl (hsets _ (List.mem_of_getElem? (i := 7) rfl)))
 have hCHv : CHv s own_EL s.vm s.heap := CHv.start (own_ew hU) (show Jvm.Lit.constsHeld consts_1 s from hcalls.1) (show Jvm.Lit.compactW.before _ s = true from (hsets _ (List.mem_of_getElem? (i := 2) rfl))) (hU 22 _ rfl) (hU 6 _ rfl)
 obtain ⟨n, o, h1, h2, h3, _, L, rfl, ⟨rfl, N⟩, hq⟩ := rmLaw l s _ hw tables_1 i0 i1 i2 i3 i4 i5 cs sf s.heap s.heap.size (Nat.le_refl _) Scs hcs Ssf hsf p e ha hc hk s m _ below hf ((Spec.applies_iff_loose hf).mp happ).1 ⟨rfl, State.Warmed39.refl s, rfl, hCHv⟩ trivial
 refine ⟨n, _, h1, h2, h3, hpost _ _ _ _ _ _ ⟨Cond.after_iff.mpr rfl, Cond.after_iff.mpr (eq_i res_at (Term.int_eval (1)) rfl), trivial⟩ ⟨hq.1, hq.2.1, hq.2.2.1, (hq.2.2.2.sift fun y hy => Or.inr (N y hy)).mono (by decide) (by decide)⟩⟩
theorem main_1_1 : Claimed_1_1 := comes_1 fun _ _ _ _ _ _ h hF => ⟨h.1, hF⟩
theorem main_1_2 : Claimed_1_2 := comes_1 fun _ _ _ _ _ _ h hF => ⟨h.2.1, hF⟩
end Jvm.Pilot.@@N@@
namespace Jvm.Pilot.@@N@@
open Jvm Jvm.ClassFile Sem Op Lib Jvm.Free Jvm.Stand Jvm.Pilot.@@N@@.Jvm.D
/-! MADE BY PROGRAM (witnessworld.py) out of the Statement's table words and the real class files: 23 classes; the members and pool entries that the words name. The judged class is class 1, her method 3. -/
namespace start1
open Jvm.ClassFile
def u (s : String) : CpInfo := .utf8 (stringToUtf16 s)
/-- a pool by its gaps: so many unusable entries, then the entry; so many at the end -/
def gap : Nat → List CpInfo → List CpInfo
  | 0, r => r
  | n + 1, r => .unusable :: gap n r
def poolList (es : List (Nat × CpInfo)) (last : Nat) : List CpInfo := es.foldr (fun e r => gap e.1 (e.2 :: r)) (gap last [])
def pool (es : List (Nat × CpInfo)) (last : Nat) : Array CpInfo := ⟨poolList es last⟩
def fileOf (pool : Array CpInfo) (this : Nat) (attrs : Array Attribute := #[]) (ms : Array MethodInfo := #[]) (fl : Nat := 33) (sup : Nat := 0) (ifs : Array Nat := #[]) (fds : Array FieldInfo := #[]) : ClassFile where
  minorVersion := 0
  majorVersion := 65
  constantPool := pool
  accessFlags := fl
  thisClass := this
  superClass := sup
  interfaces := ifs
  fields := fds
  methods := ms
  attributes := attrs
def plain (name : String) (sup : Option ClassId) : Class where
  name := name
  kind := .ordinary
  loader := none
  accessFlags := 33
  super := sup
  interfaces := #[]
  cf := none
  fields := #[]
  methods := #[]
  instanceTypes := #[]
  staticTypes := #[]
  resolved := #[]
  callSites := []
  init := .initialized
  statics := none
  mirror := none

def pool0 : Array CpInfo := pool [(5, u "<init>"), (0, u "()V"), (1, .class_ 10), (1, u "java/lang/Object")] 113

def k0c0 : Code := { maxStack := 0, maxLocals := 1, code := object_method_1_code, exceptionTable := #[], attributes := #[] }
def k0m0 : Method := { name := "<init>", desc := "()V", sig := { parameters := [], returnType := none }, accessFlags := 1, code := some k0c0 }
/-- java/lang/Object -/
def k0 : Class := { plain "java/lang/Object" none with
  accessFlags := 33
  interfaces := #[]
  cf := some (fileOf pool0 8 #[] #[{ accessFlags := 1, nameIndex := 5, descriptorIndex := 6, attributes := #[] }] 33 0 #[] #[])
  fields := #[]
  methods := #[k0m0]
  instanceTypes := #[]
  staticTypes := #[]
  resolved := Array.replicate 124 none
  statics := none }

def pool1 : Array CpInfo := pool [(2, .class_ 4), (1, u "java/lang/Object"), (0, u "<init>"), (0, u "()V"), (0, .methodref 8 9), (0, .class_ 10), (0, .nameAndType 11 12), (0, u "com/example/dvarapala/dvarapala/queue/QueueNodeNamePinLaw"), (0, u "ch"), (0, u "(I)C"), (0, .class_ 14), (0, u "java/lang/String"), (0, .methodref 8 16), (0, .nameAndType 17 18), (0, u "mk"), (0, u "(ICCCC)[C"), (0, .methodref 13 20), (0, .nameAndType 5 21), (0, u "([C)V"), (0, .class_ 23), (0, u "com/example/dvarapala/dvarapala/queue/QueueNode"), (0, .methodref 22 25), (0, .nameAndType 5 26), (0, u "(Ljava/lang/String;J)V"), (0, .methodref 22 28), (0, .nameAndType 29 30), (0, u "name"), (0, u "()Ljava/lang/String;"), (0, .methodref 13 32), (0, .nameAndType 33 34), (0, u "length"), (0, u "()I"), (0, .methodref 13 36), (0, .nameAndType 37 12), (0, u "charAt"), (3, u "law"), (0, u "(IIIIIJ)Z")] 4

def k1m0 : Method := { name := "<init>", desc := "()V", sig := { parameters := [], returnType := none }, accessFlags := 1, code := none }
def k1c1 : Code := { maxStack := 2, maxLocals := 1, code := method_2_code, exceptionTable := #[], attributes := #[] }
def k1m1 : Method := { name := "ch", desc := "(I)C", sig := { parameters := [.int], returnType := some .char }, accessFlags := 10, code := some k1c1 }
def k1c2 : Code := { maxStack := 4, maxLocals := 5, code := method_3_code, exceptionTable := #[], attributes := #[] }
def k1m2 : Method := { name := "mk", desc := "(ICCCC)[C", sig := { parameters := [.int, .char, .char, .char, .char], returnType := some (.array .char) }, accessFlags := 10, code := some k1c2 }
def k1c3 : Code := { maxStack := 7, maxLocals := 18, code := code, exceptionTable := #[], attributes := #[] }
def k1m3 : Method := { name := "law", desc := "(IIIIIJ)Z", sig := { parameters := [.int, .int, .int, .int, .int, .long], returnType := some .boolean }, accessFlags := 9, code := some k1c3 }
/-- com/example/dvarapala/dvarapala/queue/QueueNodeNamePinLaw -/
def k1 : Class := { plain "com/example/dvarapala/dvarapala/queue/QueueNodeNamePinLaw" (some 0) with
  accessFlags := 49
  interfaces := #[]
  cf := some (fileOf pool1 8 #[] #[{ accessFlags := 1, nameIndex := 5, descriptorIndex := 6, attributes := #[] }, { accessFlags := 10, nameIndex := 11, descriptorIndex := 12, attributes := #[] }, { accessFlags := 10, nameIndex := 17, descriptorIndex := 18, attributes := #[] }, { accessFlags := 9, nameIndex := 41, descriptorIndex := 42, attributes := #[] }] 49 2 #[] #[])
  fields := #[]
  methods := #[k1m0, k1m1, k1m2, k1m3]
  instanceTypes := #[]
  staticTypes := #[]
  resolved := Array.replicate 47 none
  statics := none }

def pool2 : Array CpInfo := pool [(1, .class_ 2), (0, u "java/io/Serializable"), (0, .class_ 4), (0, u "java/lang/Object")] 2

/-- java/io/Serializable -/
def k2 : Class := { plain "java/io/Serializable" (some 0) with
  accessFlags := 1537
  interfaces := #[]
  cf := some (fileOf pool2 1 #[] #[] 1537 3 #[] #[])
  fields := #[]
  methods := #[]
  instanceTypes := #[]
  staticTypes := #[]
  resolved := Array.replicate 7 none
  statics := none }

def pool3 : Array CpInfo := pool [(1, .class_ 2), (0, u "java/lang/Comparable"), (0, .class_ 4), (0, u "java/lang/Object")] 7

/-- java/lang/Comparable -/
def k3 : Class := { plain "java/lang/Comparable" (some 0) with
  accessFlags := 1537
  interfaces := #[]
  cf := some (fileOf pool3 1 #[] #[] 1537 3 #[] #[])
  fields := #[]
  methods := #[]
  instanceTypes := #[]
  staticTypes := #[]
  resolved := Array.replicate 12 none
  statics := none }

def pool4 : Array CpInfo := pool [(2, .class_ 4), (1, u "java/lang/CharSequence"), (42, .class_ 48), (0, u "java/lang/CharSequence$1CodePointIterator"), (10, .class_ 60), (0, u "java/lang/CharSequence$1CharIterator"), (5, .class_ 67), (0, u "java/lang/Object")] 63

/-- java/lang/CharSequence -/
def k4 : Class := { plain "java/lang/CharSequence" (some 0) with
  accessFlags := 1537
  interfaces := #[]
  cf := some (fileOf pool4 2 #[.nestMembers #[47, 59]] #[] 1537 66 #[] #[])
  fields := #[]
  methods := #[]
  instanceTypes := #[]
  staticTypes := #[]
  resolved := Array.replicate 131 none
  statics := none }

def pool5 : Array CpInfo := pool [(1, .class_ 2), (0, u "java/lang/constant/Constable"), (0, .class_ 4), (0, u "java/lang/Object")] 6

/-- java/lang/constant/Constable -/
def k5 : Class := { plain "java/lang/constant/Constable" (some 0) with
  accessFlags := 1537
  interfaces := #[]
  cf := some (fileOf pool5 1 #[] #[] 1537 3 #[] #[])
  fields := #[]
  methods := #[]
  instanceTypes := #[]
  staticTypes := #[]
  resolved := Array.replicate 11 none
  statics := none }

def pool6 : Array CpInfo := pool [(1, .class_ 2), (0, u "java/lang/constant/ConstantDesc"), (0, .class_ 4), (0, u "java/lang/Object")] 32

/-- java/lang/constant/ConstantDesc -/
def k6 : Class := { plain "java/lang/constant/ConstantDesc" (some 0) with
  accessFlags := 1537
  interfaces := #[]
  cf := some (fileOf pool6 1 #[] #[] 1537 3 #[] #[])
  fields := #[]
  methods := #[]
  instanceTypes := #[]
  staticTypes := #[]
  resolved := Array.replicate 37 none
  statics := none }

def pool7 : Array CpInfo := pool [(1, .methodref 2 3), (0, .class_ 4), (0, .nameAndType 5 6), (0, u "java/lang/Object"), (0, u "<init>"), (0, u "()V"), (0, .string 8), (0, u ""), (0, .fieldref 10 11), (0, .class_ 12), (0, .nameAndType 13 14), (0, u "java/lang/String"), (0, u "value"), (0, u "[B"), (0, .fieldref 10 16), (0, .nameAndType 17 18), (0, u "coder"), (0, u "B"), (2, u "hash"), (0, u "I"), (2, u "hashIsZero"), (0, u "Z"), (0, .methodref 10 28), (0, .nameAndType 5 29), (0, u "([CIILjava/lang/Void;)V"), (8, .fieldref 10 39), (0, .nameAndType 40 26), (0, u "COMPACT_STRINGS"), (1, .class_ 44), (1, u "java/lang/StringUTF16"), (0, u "compress"), (1, .methodref 42 48), (0, .nameAndType 49 50), (0, u "coderFromArrayLen"), (0, u "([BI)B"), (46, u "([BII)I"), (9, .class_ 109), (1, u "java/lang/StringLatin1"), (32, u "()Z"), (34, .methodref 42 178), (0, .nameAndType 45 179), (0, u "([CII)[B"), (31, u "([BB)V"), (122, u "()I"), (0, .methodref 10 336), (0, .nameAndType 17 337), (0, u "()B"), (25, u "([BI)C"), (27, u "(II)V"), (35, u "(I)C"), (64, .methodref 10 493), (0, .nameAndType 494 142), (0, u "isLatin1"), (0, .methodref 107 496), (0, .nameAndType 497 363), (0, u "charAt"), (3, u "checkIndex"), (3, .methodref 10 506), (0, .nameAndType 507 334), (0, u "length"), (5, u "checkFromToIndex"), (7, .methodref 10 522), (0, .nameAndType 523 524), (0, u "checkBoundsBeginEnd"), (0, u "(III)V"), (50, .class_ 576), (0, u "java/lang/CharSequence"), (22, u "CASE_INSENSITIVE_ORDER"), (0, u "Ljava/util/Comparator;"), (35, u "(II)I"), (4, .methodref 10 642), (0, .nameAndType 643 636), (0, u "lastIndexOf"), (0, .methodref 107 645), (0, .nameAndType 643 97), (35, .methodref 10 682), (0, .nameAndType 683 684), (0, u "substring"), (0, u "(II)Ljava/lang/String;"), (0, .methodref 107 686), (0, .nameAndType 687 688), (0, u "newString"), (0, u "([BII)Ljava/lang/String;"), (76, u "(I)I"), (126, u "(I)Ljava/lang/String;"), (117, u "([C)V"), (42, .fieldref 1054 1055), (0, .class_ 1056), (0, .nameAndType 1057 1058), (0, u "jdk/internal/util/Preconditions"), (0, u "SIOOBE_FORMATTER"), (0, u "Ljava/util/function/BiFunction;"), (0, .methodref 1054 1060), (0, .nameAndType 501 1061), (0, u "(IILjava/util/function/BiFunction;)I"), (0, .methodref 1054 1063), (0, .nameAndType 513 1064), (0, u "(IIILjava/util/function/BiFunction;)I"), (36, u "serialPersistentFields"), (0, u "[Ljava/io/ObjectStreamField;"), (0, .class_ 1104), (0, u "java/lang/String$CaseInsensitiveComparator"), (1, .class_ 1107), (0, u "java/io/Serializable"), (0, .class_ 1109), (0, u "java/lang/Comparable"), (0, .class_ 1111), (0, u "java/lang/constant/Constable"), (0, .class_ 1113), (0, u "java/lang/constant/ConstantDesc"), (2, u "serialVersionUID"), (0, u "J"), (3, u "REPL"), (0, u "C"), (2, u "LATIN1"), (1, u "UTF16")] 323

def k7m0 : Method := { name := "<init>", desc := "()V", sig := { parameters := [], returnType := none }, accessFlags := 1, code := none }
def k7c1 : Code := { maxStack := 5, maxLocals := 2, code := jdk_42_method_3_code, exceptionTable := #[], attributes := #[] }
def k7m1 : Method := { name := "<init>", desc := "([C)V", sig := { parameters := [(.array .char)], returnType := none }, accessFlags := 1, code := some k7c1 }
def k7c2 : Code := { maxStack := 2, maxLocals := 1, code := jdk_42_method_54_code, exceptionTable := #[], attributes := #[] }
def k7m2 : Method := { name := "length", desc := "()I", sig := { parameters := [], returnType := some .int }, accessFlags := 1, code := some k7c2 }
def k7c3 : Code := { maxStack := 2, maxLocals := 2, code := jdk_42_method_56_code, exceptionTable := #[], attributes := #[] }
def k7m3 : Method := { name := "charAt", desc := "(I)C", sig := { parameters := [.int], returnType := some .char }, accessFlags := 1, code := some k7c3 }
def k7c4 : Code := { maxStack := 4, maxLocals := 2, code := jdk_42_method_82_code, exceptionTable := #[], attributes := #[] }
def k7m4 : Method := { name := "lastIndexOf", desc := "(I)I", sig := { parameters := [.int], returnType := some .int }, accessFlags := 1, code := some k7c4 }
def k7c5 : Code := { maxStack := 3, maxLocals := 3, code := jdk_42_method_83_code, exceptionTable := #[], attributes := #[] }
def k7m5 : Method := { name := "lastIndexOf", desc := "(II)I", sig := { parameters := [.int, .int], returnType := some .int }, accessFlags := 1, code := some k7c5 }
def k7c6 : Code := { maxStack := 3, maxLocals := 2, code := jdk_42_method_91_code, exceptionTable := #[], attributes := #[] }
def k7m6 : Method := { name := "substring", desc := "(I)Ljava/lang/String;", sig := { parameters := [.int], returnType := some (.object "java/lang/String") }, accessFlags := 1, code := some k7c6 }
def k7c7 : Code := { maxStack := 3, maxLocals := 5, code := jdk_42_method_92_code, exceptionTable := #[], attributes := #[] }
def k7m7 : Method := { name := "substring", desc := "(II)Ljava/lang/String;", sig := { parameters := [.int, .int], returnType := some (.object "java/lang/String") }, accessFlags := 1, code := some k7c7 }
def k7c8 : Code := { maxStack := 4, maxLocals := 6, code := jdk_42_method_149_code, exceptionTable := #[], attributes := #[] }
def k7m8 : Method := { name := "<init>", desc := "([CIILjava/lang/Void;)V", sig := { parameters := [(.array .char), .int, .int, (.object "java/lang/Void")], returnType := none }, accessFlags := 2, code := some k7c8 }
def k7c9 : Code := { maxStack := 2, maxLocals := 3, code := jdk_42_method_151_code, exceptionTable := #[], attributes := #[] }
def k7m9 : Method := { name := "<init>", desc := "([BB)V", sig := { parameters := [(.array .byte), .byte], returnType := none }, accessFlags := 0, code := some k7c9 }
def k7c10 : Code := { maxStack := 1, maxLocals := 1, code := jdk_42_method_152_code, exceptionTable := #[], attributes := #[] }
def k7m10 : Method := { name := "coder", desc := "()B", sig := { parameters := [], returnType := some .byte }, accessFlags := 0, code := some k7c10 }
def k7c11 : Code := { maxStack := 1, maxLocals := 1, code := jdk_42_method_154_code, exceptionTable := #[], attributes := #[] }
def k7m11 : Method := { name := "isLatin1", desc := "()Z", sig := { parameters := [], returnType := some .boolean }, accessFlags := 0, code := some k7c11 }
def k7c12 : Code := { maxStack := 3, maxLocals := 2, code := jdk_42_method_155_code, exceptionTable := #[], attributes := #[] }
def k7m12 : Method := { name := "checkIndex", desc := "(II)V", sig := { parameters := [.int, .int], returnType := none }, accessFlags := 8, code := some k7c12 }
def k7c13 : Code := { maxStack := 4, maxLocals := 3, code := jdk_42_method_158_code, exceptionTable := #[], attributes := #[] }
def k7m13 : Method := { name := "checkBoundsBeginEnd", desc := "(III)V", sig := { parameters := [.int, .int, .int], returnType := none }, accessFlags := 8, code := some k7c13 }
/-- java/lang/String -/
def k7 : Class := { plain "java/lang/String" (some 0) with
  accessFlags := 49
  interfaces := #[2, 3, 4, 5, 6]
  cf := some (fileOf pool7 10 #[.nestMembers #[1103]] #[{ accessFlags := 1, nameIndex := 5, descriptorIndex := 6, attributes := #[] }, { accessFlags := 1, nameIndex := 5, descriptorIndex := 1010, attributes := #[] }, { accessFlags := 1, nameIndex := 507, descriptorIndex := 334, attributes := #[] }, { accessFlags := 1, nameIndex := 497, descriptorIndex := 427, attributes := #[] }, { accessFlags := 1, nameIndex := 643, descriptorIndex := 765, attributes := #[] }, { accessFlags := 1, nameIndex := 643, descriptorIndex := 636, attributes := #[] }, { accessFlags := 1, nameIndex := 683, descriptorIndex := 892, attributes := #[] }, { accessFlags := 1, nameIndex := 683, descriptorIndex := 684, attributes := #[] }, { accessFlags := 2, nameIndex := 5, descriptorIndex := 29, attributes := #[] }, { accessFlags := 0, nameIndex := 5, descriptorIndex := 211, attributes := #[] }, { accessFlags := 0, nameIndex := 17, descriptorIndex := 337, attributes := #[] }, { accessFlags := 0, nameIndex := 494, descriptorIndex := 142, attributes := #[] }, { accessFlags := 8, nameIndex := 501, descriptorIndex := 391, attributes := #[] }, { accessFlags := 8, nameIndex := 523, descriptorIndex := 524, attributes := #[] }] 49 2 #[1106, 1108, 575, 1110, 1112] #[{ accessFlags := 18, nameIndex := 13, descriptorIndex := 14, attributes := #[] }, { accessFlags := 18, nameIndex := 17, descriptorIndex := 18, attributes := #[] }, { accessFlags := 2, nameIndex := 21, descriptorIndex := 22, attributes := #[] }, { accessFlags := 2, nameIndex := 25, descriptorIndex := 26, attributes := #[] }, { accessFlags := 26, nameIndex := 1116, descriptorIndex := 1117, attributes := #[] }, { accessFlags := 24, nameIndex := 40, descriptorIndex := 26, attributes := #[] }, { accessFlags := 26, nameIndex := 1101, descriptorIndex := 1102, attributes := #[] }, { accessFlags := 26, nameIndex := 1121, descriptorIndex := 1122, attributes := #[] }, { accessFlags := 25, nameIndex := 599, descriptorIndex := 600, attributes := #[] }, { accessFlags := 24, nameIndex := 1125, descriptorIndex := 18, attributes := #[] }, { accessFlags := 24, nameIndex := 1127, descriptorIndex := 18, attributes := #[] }])
  fields := #[{ name := "value", type := (.array .byte), accessFlags := 18, slot := 0, constantValue := 0 }, { name := "coder", type := .byte, accessFlags := 18, slot := 1, constantValue := 0 }, { name := "hash", type := .int, accessFlags := 2, slot := 2, constantValue := 0 }, { name := "hashIsZero", type := .boolean, accessFlags := 2, slot := 3, constantValue := 0 }, { name := "serialVersionUID", type := .long, accessFlags := 26, slot := 0, constantValue := 0 }, { name := "COMPACT_STRINGS", type := .boolean, accessFlags := 24, slot := 1, constantValue := 0 }, { name := "serialPersistentFields", type := (.array (.object "java/io/ObjectStreamField")), accessFlags := 26, slot := 2, constantValue := 0 }, { name := "REPL", type := .char, accessFlags := 26, slot := 3, constantValue := 0 }, { name := "CASE_INSENSITIVE_ORDER", type := (.object "java/util/Comparator"), accessFlags := 25, slot := 4, constantValue := 0 }, { name := "LATIN1", type := .byte, accessFlags := 24, slot := 5, constantValue := 0 }, { name := "UTF16", type := .byte, accessFlags := 24, slot := 6, constantValue := 0 }]
  methods := #[k7m0, k7m1, k7m2, k7m3, k7m4, k7m5, k7m6, k7m7, k7m8, k7m9, k7m10, k7m11, k7m12, k7m13]
  instanceTypes := #[(.array .byte), .byte, .int, .boolean]
  staticTypes := #[.long, .boolean, (.array (.object "java/io/ObjectStreamField")), .char, (.object "java/util/Comparator"), .byte, .byte]
  resolved := Array.replicate 1451 none
  statics := some 0 }

def pool8 : Array CpInfo := pool [(1, .methodref 2 3), (0, .class_ 4), (0, .nameAndType 5 6), (0, u "java/lang/Object"), (0, u "<init>"), (0, u "()V"), (0, .fieldref 8 9), (0, .class_ 10), (0, .nameAndType 11 12), (0, u "com/example/dvarapala/dvarapala/queue/QueueNode"), (0, u "path"), (0, u "Ljava/lang/String;"), (0, .fieldref 8 14), (0, .nameAndType 15 16), (0, u "creationZxid"), (0, u "J"), (0, .methodref 18 19), (0, .class_ 20), (0, .nameAndType 21 22), (0, u "java/lang/String"), (0, u "lastIndexOf"), (0, u "(I)I"), (0, .methodref 18 24), (0, .nameAndType 25 26), (0, u "substring"), (0, u "(I)Ljava/lang/String;"), (0, u "(Ljava/lang/String;J)V"), (2, u "()Ljava/lang/String;"), (0, u "name")] 4

def k8c0 : Code := { maxStack := 3, maxLocals := 4, code := prog_11_method_1_code, exceptionTable := #[], attributes := #[] }
def k8m0 : Method := { name := "<init>", desc := "(Ljava/lang/String;J)V", sig := { parameters := [(.object "java/lang/String"), .long], returnType := none }, accessFlags := 0, code := some k8c0 }
def k8c1 : Code := { maxStack := 3, maxLocals := 1, code := prog_11_method_3_code, exceptionTable := #[], attributes := #[] }
def k8m1 : Method := { name := "name", desc := "()Ljava/lang/String;", sig := { parameters := [], returnType := some (.object "java/lang/String") }, accessFlags := 1, code := some k8c1 }
/-- com/example/dvarapala/dvarapala/queue/QueueNode -/
def k8 : Class := { plain "com/example/dvarapala/dvarapala/queue/QueueNode" (some 0) with
  accessFlags := 33
  interfaces := #[]
  cf := some (fileOf pool8 8 #[] #[{ accessFlags := 0, nameIndex := 5, descriptorIndex := 27, attributes := #[] }, { accessFlags := 1, nameIndex := 31, descriptorIndex := 30, attributes := #[] }] 33 2 #[] #[{ accessFlags := 18, nameIndex := 11, descriptorIndex := 12, attributes := #[] }, { accessFlags := 18, nameIndex := 15, descriptorIndex := 16, attributes := #[] }])
  fields := #[{ name := "path", type := (.object "java/lang/String"), accessFlags := 18, slot := 0, constantValue := 0 }, { name := "creationZxid", type := .long, accessFlags := 18, slot := 1, constantValue := 0 }]
  methods := #[k8m0, k8m1]
  instanceTypes := #[(.object "java/lang/String"), .long]
  staticTypes := #[]
  resolved := Array.replicate 36 none
  statics := none }

def pool9 : Array CpInfo := pool [(1, .class_ 2), (0, u "java/lang/String"), (1, .class_ 6), (1, u "java/lang/Object"), (0, u "<init>"), (0, u "()V"), (0, .methodref 1 10), (0, .nameAndType 11 12), (0, u "checkIndex"), (0, u "(II)V"), (1, .class_ 16), (1, u "java/lang/StringLatin1"), (21, .methodref 39 40), (0, .class_ 41), (0, .nameAndType 42 43), (0, u "java/lang/Math"), (0, u "min"), (0, u "(II)I"), (9, u "([BI)C"), (34, .methodref 14 89), (0, .nameAndType 90 91), (0, u "canEncode"), (0, u "(I)Z"), (20, .methodref 1 113), (0, .nameAndType 7 114), (0, u "([BB)V"), (6, u "$assertionsDisabled"), (0, u "Z"), (8, .class_ 133), (1, u "java/util/Arrays"), (17, .string 152), (0, u ""), (43, u "newString"), (0, u "([BII)Ljava/lang/String;"), (23, .class_ 223), (1, u "java/lang/StringLatin1$LinesSpliterator"), (8, .methodref 131 233), (0, .nameAndType 234 235), (0, u "copyOfRange"), (0, u "([BII)[B"), (16, u "charAt"), (8, u "([BII)I"), (47, u "lastIndexOf"), (80, .class_ 391), (0, u "java/lang/StringLatin1$CharsSpliterator")] 3

def k9m0 : Method := { name := "<init>", desc := "()V", sig := { parameters := [], returnType := none }, accessFlags := 0, code := none }
def k9c1 : Code := { maxStack := 2, maxLocals := 2, code := jdk_43_method_2_code, exceptionTable := #[], attributes := #[] }
def k9m1 : Method := { name := "charAt", desc := "([BI)C", sig := { parameters := [(.array .byte), .int], returnType := some .char }, accessFlags := 9, code := some k9c1 }
def k9c2 : Code := { maxStack := 2, maxLocals := 1, code := jdk_43_method_4_code, exceptionTable := #[], attributes := #[] }
def k9m2 : Method := { name := "canEncode", desc := "(I)Z", sig := { parameters := [.int], returnType := some .boolean }, accessFlags := 9, code := some k9c2 }
def k9c3 : Code := { maxStack := 3, maxLocals := 4, code := jdk_43_method_27_code, exceptionTable := #[], attributes := #[] }
def k9m3 : Method := { name := "lastIndexOf", desc := "([BII)I", sig := { parameters := [(.array .byte), .int, .int], returnType := some .int }, accessFlags := 9, code := some k9c3 }
def k9c4 : Code := { maxStack := 6, maxLocals := 3, code := jdk_43_method_47_code, exceptionTable := #[], attributes := #[] }
def k9m4 : Method := { name := "newString", desc := "([BII)Ljava/lang/String;", sig := { parameters := [(.array .byte), .int, .int], returnType := some (.object "java/lang/String") }, accessFlags := 9, code := some k9c4 }
/-- java/lang/StringLatin1 -/
def k9 : Class := { plain "java/lang/StringLatin1" (some 0) with
  accessFlags := 48
  interfaces := #[]
  cf := some (fileOf pool9 14 #[.nestMembers #[390, 221]] #[{ accessFlags := 0, nameIndex := 7, descriptorIndex := 8, attributes := #[] }, { accessFlags := 9, nameIndex := 252, descriptorIndex := 53, attributes := #[] }, { accessFlags := 9, nameIndex := 90, descriptorIndex := 91, attributes := #[] }, { accessFlags := 9, nameIndex := 309, descriptorIndex := 261, attributes := #[] }, { accessFlags := 9, nameIndex := 196, descriptorIndex := 197, attributes := #[] }] 48 4 #[] #[{ accessFlags := 4120, nameIndex := 121, descriptorIndex := 122, attributes := #[] }])
  fields := #[{ name := "$assertionsDisabled", type := .boolean, accessFlags := 4120, slot := 0, constantValue := 0 }]
  methods := #[k9m0, k9m1, k9m2, k9m3, k9m4]
  instanceTypes := #[]
  staticTypes := #[.boolean]
  resolved := Array.replicate 395 none
  statics := none }

def pool10 : Array CpInfo := pool [(1, .class_ 2), (0, u "java/lang/Math"), (1, .class_ 6), (1, u "java/lang/Object"), (0, u "<init>"), (0, u "()V"), (89, .class_ 100), (1, u "java/lang/Math$RandomNumberGeneratorHolder"), (71, u "negativeZeroFloatBits"), (0, u "J"), (2, u "negativeZeroDoubleBits"), (24, u "min"), (43, u "$assertionsDisabled"), (0, u "Z"), (88, u "(II)I"), (2, u "twoToTheDoubleScaleDown"), (0, u "D"), (4, u "twoToTheDoubleScaleUp"), (9, u "E"), (3, u "PI"), (2, u "TAU"), (2, u "DEGREES_TO_RADIANS"), (0, u "RADIANS_TO_DEGREES")] 94

def k10m0 : Method := { name := "<init>", desc := "()V", sig := { parameters := [], returnType := none }, accessFlags := 2, code := none }
def k10c1 : Code := { maxStack := 2, maxLocals := 2, code := jdk_29_method_69_code, exceptionTable := #[], attributes := #[] }
def k10m1 : Method := { name := "min", desc := "(II)I", sig := { parameters := [.int, .int], returnType := some .int }, accessFlags := 9, code := some k10c1 }
/-- java/lang/Math -/
def k10 : Class := { plain "java/lang/Math" (some 0) with
  accessFlags := 49
  interfaces := #[]
  cf := some (fileOf pool10 1 #[.nestMembers #[98]] #[{ accessFlags := 2, nameIndex := 7, descriptorIndex := 8, attributes := #[] }, { accessFlags := 9, nameIndex := 201, descriptorIndex := 335, attributes := #[] }] 49 4 #[] #[{ accessFlags := 25, nameIndex := 354, descriptorIndex := 339, attributes := #[] }, { accessFlags := 25, nameIndex := 358, descriptorIndex := 339, attributes := #[] }, { accessFlags := 25, nameIndex := 361, descriptorIndex := 339, attributes := #[] }, { accessFlags := 26, nameIndex := 364, descriptorIndex := 339, attributes := #[] }, { accessFlags := 26, nameIndex := 365, descriptorIndex := 339, attributes := #[] }, { accessFlags := 26, nameIndex := 172, descriptorIndex := 173, attributes := #[] }, { accessFlags := 26, nameIndex := 176, descriptorIndex := 173, attributes := #[] }, { accessFlags := 8, nameIndex := 344, descriptorIndex := 339, attributes := #[] }, { accessFlags := 8, nameIndex := 338, descriptorIndex := 339, attributes := #[] }, { accessFlags := 4120, nameIndex := 245, descriptorIndex := 246, attributes := #[] }])
  fields := #[{ name := "E", type := .double, accessFlags := 25, slot := 0, constantValue := 0 }, { name := "PI", type := .double, accessFlags := 25, slot := 1, constantValue := 0 }, { name := "TAU", type := .double, accessFlags := 25, slot := 2, constantValue := 0 }, { name := "DEGREES_TO_RADIANS", type := .double, accessFlags := 26, slot := 3, constantValue := 0 }, { name := "RADIANS_TO_DEGREES", type := .double, accessFlags := 26, slot := 4, constantValue := 0 }, { name := "negativeZeroFloatBits", type := .long, accessFlags := 26, slot := 5, constantValue := 0 }, { name := "negativeZeroDoubleBits", type := .long, accessFlags := 26, slot := 6, constantValue := 0 }, { name := "twoToTheDoubleScaleUp", type := .double, accessFlags := 8, slot := 7, constantValue := 0 }, { name := "twoToTheDoubleScaleDown", type := .double, accessFlags := 8, slot := 8, constantValue := 0 }, { name := "$assertionsDisabled", type := .boolean, accessFlags := 4120, slot := 9, constantValue := 0 }]
  methods := #[k10m0, k10m1]
  instanceTypes := #[]
  staticTypes := #[.double, .double, .double, .double, .double, .long, .long, .double, .double, .boolean]
  resolved := Array.replicate 460 none
  statics := none }

def pool11 : Array CpInfo := pool [(2, .class_ 4), (1, u "java/lang/Object"), (0, u "<init>"), (0, u "()V"), (17, .class_ 26), (1, u "jdk/internal/util/Preconditions"), (6, u "checkIndex"), (13, u "checkFromToIndex"), (7, .class_ 56), (0, u "jdk/internal/util/Preconditions$4"), (57, .class_ 115), (0, u "jdk/internal/util/Preconditions$1"), (7, u "SIOOBE_FORMATTER"), (0, u "Ljava/util/function/BiFunction;"), (0, .class_ 126), (0, u "jdk/internal/util/Preconditions$2"), (3, u "AIOOBE_FORMATTER"), (0, .class_ 132), (0, u "jdk/internal/util/Preconditions$3"), (3, u "IOOBE_FORMATTER"), (41, u "(IILjava/util/function/BiFunction;)I"), (4, u "(IIILjava/util/function/BiFunction;)I")] 10

def k11m0 : Method := { name := "<init>", desc := "()V", sig := { parameters := [], returnType := none }, accessFlags := 1, code := none }
def k11c1 : Code := { maxStack := 3, maxLocals := 3, code := jdk_41_method_11_code, exceptionTable := #[], attributes := #[] }
def k11m1 : Method := { name := "checkIndex", desc := "(IILjava/util/function/BiFunction;)I", sig := { parameters := [.int, .int, (.object "java/util/function/BiFunction")], returnType := some .int }, accessFlags := 9, code := some k11c1 }
def k11c2 : Code := { maxStack := 4, maxLocals := 4, code := jdk_41_method_12_code, exceptionTable := #[], attributes := #[] }
def k11m2 : Method := { name := "checkFromToIndex", desc := "(IIILjava/util/function/BiFunction;)I", sig := { parameters := [.int, .int, .int, (.object "java/util/function/BiFunction")], returnType := some .int }, accessFlags := 9, code := some k11c2 }
/-- jdk/internal/util/Preconditions -/
def k11 : Class := { plain "jdk/internal/util/Preconditions" (some 0) with
  accessFlags := 33
  interfaces := #[]
  cf := some (fileOf pool11 24 #[.nestMembers #[55, 131, 125, 114]] #[{ accessFlags := 1, nameIndex := 5, descriptorIndex := 6, attributes := #[] }, { accessFlags := 9, nameIndex := 33, descriptorIndex := 178, attributes := #[] }, { accessFlags := 9, nameIndex := 47, descriptorIndex := 183, attributes := #[] }] 33 2 #[] #[{ accessFlags := 25, nameIndex := 123, descriptorIndex := 124, attributes := #[] }, { accessFlags := 25, nameIndex := 130, descriptorIndex := 124, attributes := #[] }, { accessFlags := 25, nameIndex := 136, descriptorIndex := 124, attributes := #[] }])
  fields := #[{ name := "SIOOBE_FORMATTER", type := (.object "java/util/function/BiFunction"), accessFlags := 25, slot := 0, constantValue := 0 }, { name := "AIOOBE_FORMATTER", type := (.object "java/util/function/BiFunction"), accessFlags := 25, slot := 1, constantValue := 0 }, { name := "IOOBE_FORMATTER", type := (.object "java/util/function/BiFunction"), accessFlags := 25, slot := 2, constantValue := 0 }]
  methods := #[k11m0, k11m1, k11m2]
  instanceTypes := #[]
  staticTypes := #[(.object "java/util/function/BiFunction"), (.object "java/util/function/BiFunction"), (.object "java/util/function/BiFunction")]
  resolved := Array.replicate 194 none
  statics := some 1 }

def pool12 : Array CpInfo := pool [(6, .class_ 8), (1, u "java/lang/Object"), (0, u "<init>"), (0, u "()V"), (1, .class_ 14), (1, u "java/lang/StringUTF16"), (31, u "$assertionsDisabled"), (0, u "Z"), (13, u "HI_BYTE_SHIFT"), (0, u "I"), (2, u "LO_BYTE_SHIFT"), (49, .methodref 12 116), (0, .nameAndType 117 118), (0, u "compress"), (0, u "([CI[BII)I"), (3, u "([CII)[B"), (138, u "coderFromArrayLen"), (0, u "([BI)B"), (106, .class_ 371), (1, u "java/lang/StringUTF16$LinesSpliterator"), (58, u "MAX_LENGTH"), (196, .class_ 628), (0, u "java/lang/StringUTF16$CodePointsSpliterator"), (0, .class_ 630), (0, u "java/lang/StringUTF16$CharsSpliterator")] 4

def k12m0 : Method := { name := "<init>", desc := "()V", sig := { parameters := [], returnType := none }, accessFlags := 0, code := none }
def k12c1 : Code := { maxStack := 2, maxLocals := 2, code := jdk_52_method_15_code, exceptionTable := #[], attributes := #[] }
def k12m1 : Method := { name := "coderFromArrayLen", desc := "([BI)B", sig := { parameters := [(.array .byte), .int], returnType := some .byte }, accessFlags := 8, code := some k12c1 }
def k12c2 : Code := { maxStack := 5, maxLocals := 6, code := jdk_52_method_16_code, exceptionTable := #[], attributes := #[] }
def k12m2 : Method := { name := "compress", desc := "([CII)[B", sig := { parameters := [(.array .char), .int, .int], returnType := some (.array .byte) }, accessFlags := 9, code := some k12c2 }
def k12c3 : Code := { maxStack := 3, maxLocals := 7, code := jdk_52_method_21_code, exceptionTable := #[], attributes := #[] }
def k12m3 : Method := { name := "compress", desc := "([CI[BII)I", sig := { parameters := [(.array .char), .int, (.array .byte), .int, .int], returnType := some .int }, accessFlags := 9, code := some k12c3 }
/-- java/lang/StringUTF16 -/
def k12 : Class := { plain "java/lang/StringUTF16" (some 0) with
  accessFlags := 48
  interfaces := #[]
  cf := some (fileOf pool12 12 #[.nestMembers #[627, 629, 369]] #[{ accessFlags := 0, nameIndex := 9, descriptorIndex := 10, attributes := #[] }, { accessFlags := 8, nameIndex := 261, descriptorIndex := 262, attributes := #[] }, { accessFlags := 9, nameIndex := 117, descriptorIndex := 122, attributes := #[] }, { accessFlags := 9, nameIndex := 117, descriptorIndex := 118, attributes := #[] }] 48 6 #[] #[{ accessFlags := 26, nameIndex := 61, descriptorIndex := 62, attributes := #[] }, { accessFlags := 26, nameIndex := 65, descriptorIndex := 62, attributes := #[] }, { accessFlags := 24, nameIndex := 430, descriptorIndex := 62, attributes := #[] }, { accessFlags := 4120, nameIndex := 46, descriptorIndex := 47, attributes := #[] }])
  fields := #[{ name := "HI_BYTE_SHIFT", type := .int, accessFlags := 26, slot := 0, constantValue := 0 }, { name := "LO_BYTE_SHIFT", type := .int, accessFlags := 26, slot := 1, constantValue := 0 }, { name := "MAX_LENGTH", type := .int, accessFlags := 24, slot := 2, constantValue := 0 }, { name := "$assertionsDisabled", type := .boolean, accessFlags := 4120, slot := 3, constantValue := 0 }]
  methods := #[k12m0, k12m1, k12m2, k12m3]
  instanceTypes := #[]
  staticTypes := #[.int, .int, .int, .boolean]
  resolved := Array.replicate 635 none
  statics := none }

def pool13 : Array CpInfo := pool [(2, .class_ 4), (1, u "java/lang/Object"), (0, u "<init>"), (0, u "()V"), (7, .class_ 16), (1, u "java/util/Arrays"), (57, .class_ 76), (1, u "java/util/Arrays$NaturalOrder"), (36, .class_ 115), (1, u "java/util/Arrays$LegacyMergeSort"), (1, u "Z"), (21, u "copyOfRange"), (10, .methodref 151 152), (0, .class_ 153), (0, .nameAndType 154 155), (0, u "java/lang/System"), (0, u "arraycopy"), (0, u "(Ljava/lang/Object;ILjava/lang/Object;II)V"), (148, .methodref 305 306), (0, .class_ 307), (0, .nameAndType 308 309), (0, u "java/lang/Math"), (0, u "min"), (0, u "(II)I"), (29, .methodref 14 340), (0, .nameAndType 341 342), (0, u "copyOfRangeByte"), (0, u "([BII)[B"), (0, .methodref 14 344), (0, .nameAndType 345 346), (0, u "checkLength"), (0, u "(II)V"), (28, .class_ 376), (0, u "java/util/Arrays$ArrayList"), (68, u "$assertionsDisabled"), (269, u "MIN_ARRAY_SORT_GRAN"), (0, u "I"), (2, u "INSERTIONSORT_THRESHOLD"), (255, .class_ 976), (0, u "java/util/Arrays$ArrayItr")] 52

def k13m0 : Method := { name := "<init>", desc := "()V", sig := { parameters := [], returnType := none }, accessFlags := 2, code := none }
def k13c1 : Code := { maxStack := 4, maxLocals := 2, code := jdk_65_method_131_code, exceptionTable := #[], attributes := #[] }
def k13m1 : Method := { name := "checkLength", desc := "(II)V", sig := { parameters := [.int, .int], returnType := none }, accessFlags := 10, code := some k13c1 }
def k13c2 : Code := { maxStack := 3, maxLocals := 3, code := jdk_65_method_132_code, exceptionTable := #[], attributes := #[] }
def k13m2 : Method := { name := "copyOfRange", desc := "([BII)[B", sig := { parameters := [(.array .byte), .int, .int], returnType := some (.array .byte) }, accessFlags := 9, code := some k13c2 }
def k13c3 : Code := { maxStack := 6, maxLocals := 5, code := jdk_65_method_133_code, exceptionTable := #[], attributes := #[] }
def k13m3 : Method := { name := "copyOfRangeByte", desc := "([BII)[B", sig := { parameters := [(.array .byte), .int, .int], returnType := some (.array .byte) }, accessFlags := 10, code := some k13c3 }
/-- java/util/Arrays -/
def k13 : Class := { plain "java/util/Arrays" (some 0) with
  accessFlags := 49
  interfaces := #[]
  cf := some (fileOf pool13 14 #[.nestMembers #[975, 375, 113, 74]] #[{ accessFlags := 2, nameIndex := 5, descriptorIndex := 6, attributes := #[] }, { accessFlags := 10, nameIndex := 345, descriptorIndex := 346, attributes := #[] }, { accessFlags := 9, nameIndex := 139, descriptorIndex := 342, attributes := #[] }, { accessFlags := 10, nameIndex := 341, descriptorIndex := 342, attributes := #[] }] 49 2 #[] #[{ accessFlags := 26, nameIndex := 715, descriptorIndex := 716, attributes := #[] }, { accessFlags := 26, nameIndex := 719, descriptorIndex := 716, attributes := #[] }, { accessFlags := 4120, nameIndex := 445, descriptorIndex := 117, attributes := #[] }])
  fields := #[{ name := "MIN_ARRAY_SORT_GRAN", type := .int, accessFlags := 26, slot := 0, constantValue := 0 }, { name := "INSERTIONSORT_THRESHOLD", type := .int, accessFlags := 26, slot := 1, constantValue := 0 }, { name := "$assertionsDisabled", type := .boolean, accessFlags := 4120, slot := 2, constantValue := 0 }]
  methods := #[k13m0, k13m1, k13m2, k13m3]
  instanceTypes := #[]
  staticTypes := #[.int, .int, .boolean]
  resolved := Array.replicate 1029 none
  statics := none }

def pool14 : Array CpInfo := pool [(2, .class_ 4), (1, u "java/lang/Object"), (0, u "<init>"), (0, u "()V"), (1, .class_ 10), (1, u "java/lang/System"), (0, u "allowSecurityManager"), (0, u "I"), (16, u "cons"), (0, u "Ljava/io/Console;"), (77, .class_ 110), (1, u "java/lang/System$CallersHolder"), (43, u "initialErrStream"), (0, u "Ljava/io/PrintStream;"), (19, u "security"), (0, u "Ljava/lang/SecurityManager;"), (31, .class_ 209), (0, u "java/lang/System$1"), (7, u "props"), (0, u "Ljava/util/Properties;"), (2, u "lineSeparator"), (0, u "Ljava/lang/String;"), (96, .class_ 321), (1, u "java/lang/System$LoggerFinder"), (5, .class_ 328), (0, u "java/lang/System$Logger"), (67, u "err"), (2, u "out"), (91, u "notSupportedJnuEncoding"), (15, u "in"), (17, u "initialIn"), (0, u "Ljava/io/InputStream;"), (35, u "bootLayer"), (0, u "Ljava/lang/ModuleLayer;"), (99, .class_ 664), (0, u "java/lang/System$2"), (9, u "NEVER"), (2, u "MAYBE"), (49, u "arraycopy"), (0, u "(Ljava/lang/Object;ILjava/lang/Object;II)V"), (72, .class_ 802), (0, u "java/lang/System$Logger$Level")] 31

def k14m0 : Method := { name := "<init>", desc := "()V", sig := { parameters := [], returnType := none }, accessFlags := 2, code := none }
def k14m1 : Method := { name := "arraycopy", desc := "(Ljava/lang/Object;ILjava/lang/Object;II)V", sig := { parameters := [(.object "java/lang/Object"), .int, (.object "java/lang/Object"), .int, .int], returnType := none }, accessFlags := 265, code := none }
/-- java/lang/System -/
def k14 : Class := { plain "java/lang/System" (some 0) with
  accessFlags := 49
  interfaces := #[]
  cf := some (fileOf pool14 8 #[.nestMembers #[319, 327, 801, 108, 663, 208]] #[{ accessFlags := 2, nameIndex := 5, descriptorIndex := 6, attributes := #[] }, { accessFlags := 265, nameIndex := 727, descriptorIndex := 728, attributes := #[] }] 49 2 #[] #[{ accessFlags := 25, nameIndex := 507, descriptorIndex := 526, attributes := #[] }, { accessFlags := 25, nameIndex := 399, descriptorIndex := 155, attributes := #[] }, { accessFlags := 25, nameIndex := 396, descriptorIndex := 155, attributes := #[] }, { accessFlags := 10, nameIndex := 525, descriptorIndex := 526, attributes := #[] }, { accessFlags := 26, nameIndex := 674, descriptorIndex := 12, attributes := #[] }, { accessFlags := 26, nameIndex := 677, descriptorIndex := 12, attributes := #[] }, { accessFlags := 10, nameIndex := 11, descriptorIndex := 12, attributes := #[] }, { accessFlags := 74, nameIndex := 175, descriptorIndex := 176, attributes := #[] }, { accessFlags := 10, nameIndex := 491, descriptorIndex := 222, attributes := #[] }, { accessFlags := 74, nameIndex := 29, descriptorIndex := 30, attributes := #[] }, { accessFlags := 74, nameIndex := 154, descriptorIndex := 155, attributes := #[] }, { accessFlags := 10, nameIndex := 217, descriptorIndex := 218, attributes := #[] }, { accessFlags := 10, nameIndex := 221, descriptorIndex := 222, attributes := #[] }, { accessFlags := 8, nameIndex := 562, descriptorIndex := 563, attributes := #[] }])
  fields := #[{ name := "in", type := (.object "java/io/InputStream"), accessFlags := 25, slot := 0, constantValue := 0 }, { name := "out", type := (.object "java/io/PrintStream"), accessFlags := 25, slot := 1, constantValue := 0 }, { name := "err", type := (.object "java/io/PrintStream"), accessFlags := 25, slot := 2, constantValue := 0 }, { name := "initialIn", type := (.object "java/io/InputStream"), accessFlags := 10, slot := 3, constantValue := 0 }, { name := "NEVER", type := .int, accessFlags := 26, slot := 4, constantValue := 0 }, { name := "MAYBE", type := .int, accessFlags := 26, slot := 5, constantValue := 0 }, { name := "allowSecurityManager", type := .int, accessFlags := 10, slot := 6, constantValue := 0 }, { name := "security", type := (.object "java/lang/SecurityManager"), accessFlags := 74, slot := 7, constantValue := 0 }, { name := "notSupportedJnuEncoding", type := (.object "java/lang/String"), accessFlags := 10, slot := 8, constantValue := 0 }, { name := "cons", type := (.object "java/io/Console"), accessFlags := 74, slot := 9, constantValue := 0 }, { name := "initialErrStream", type := (.object "java/io/PrintStream"), accessFlags := 74, slot := 10, constantValue := 0 }, { name := "props", type := (.object "java/util/Properties"), accessFlags := 10, slot := 11, constantValue := 0 }, { name := "lineSeparator", type := (.object "java/lang/String"), accessFlags := 10, slot := 12, constantValue := 0 }, { name := "bootLayer", type := (.object "java/lang/ModuleLayer"), accessFlags := 8, slot := 13, constantValue := 0 }]
  methods := #[k14m0, k14m1]
  instanceTypes := #[]
  staticTypes := #[(.object "java/io/InputStream"), (.object "java/io/PrintStream"), (.object "java/io/PrintStream"), (.object "java/io/InputStream"), .int, .int, .int, (.object "java/lang/SecurityManager"), (.object "java/lang/String"), (.object "java/io/Console"), (.object "java/io/PrintStream"), (.object "java/util/Properties"), (.object "java/lang/String"), (.object "java/lang/ModuleLayer")]
  resolved := Array.replicate 834 none
  statics := none }

def pool15 : Array CpInfo := pool [(9, u "<init>"), (6, .class_ 18), (1, u "java/lang/Object"), (0, u "()V"), (1, .class_ 23), (1, u "jdk/internal/util/ArraysSupport"), (0, u "LOG2_ARRAY_LONG_INDEX_SCALE"), (0, u "I"), (2, u "U"), (0, u "Ljdk/internal/misc/Unsafe;"), (8, u "BIG_ENDIAN"), (0, u "Z"), (8, u "LOG2_BYTE_BIT_SIZE"), (4, u "LOG2_ARRAY_INT_INDEX_SCALE"), (54, u "JLA"), (0, u "Ljdk/internal/access/JavaLangAccess;"), (11, u "LOG2_ARRAY_BOOLEAN_INDEX_SCALE"), (9, u "LOG2_ARRAY_BYTE_INDEX_SCALE"), (5, u "LOG2_ARRAY_CHAR_INDEX_SCALE"), (5, u "LOG2_ARRAY_SHORT_INDEX_SCALE"), (18, u "LOG2_ARRAY_FLOAT_INDEX_SCALE"), (24, u "LOG2_ARRAY_DOUBLE_INDEX_SCALE"), (89, u "T_BOOLEAN"), (2, u "T_CHAR"), (1, u "T_FLOAT"), (1, u "T_DOUBLE"), (1, u "T_BYTE"), (1, u "T_SHORT"), (1, u "T_INT"), (1, u "T_LONG"), (1, u "SOFT_MAX_ARRAY_LENGTH")] 83

def k15m0 : Method := { name := "<init>", desc := "()V", sig := { parameters := [], returnType := none }, accessFlags := 2, code := none }
/-- jdk/internal/util/ArraysSupport -/
def k15 : Class := { plain "jdk/internal/util/ArraysSupport" (some 0) with
  accessFlags := 33
  interfaces := #[]
  cf := some (fileOf pool15 21 #[] #[{ accessFlags := 2, nameIndex := 9, descriptorIndex := 19, attributes := #[] }] 33 16 #[] #[{ accessFlags := 24, nameIndex := 28, descriptorIndex := 29, attributes := #[] }, { accessFlags := 26, nameIndex := 38, descriptorIndex := 39, attributes := #[] }, { accessFlags := 25, nameIndex := 121, descriptorIndex := 25, attributes := #[] }, { accessFlags := 25, nameIndex := 131, descriptorIndex := 25, attributes := #[] }, { accessFlags := 25, nameIndex := 137, descriptorIndex := 25, attributes := #[] }, { accessFlags := 25, nameIndex := 143, descriptorIndex := 25, attributes := #[] }, { accessFlags := 25, nameIndex := 53, descriptorIndex := 25, attributes := #[] }, { accessFlags := 25, nameIndex := 24, descriptorIndex := 25, attributes := #[] }, { accessFlags := 25, nameIndex := 162, descriptorIndex := 25, attributes := #[] }, { accessFlags := 25, nameIndex := 187, descriptorIndex := 25, attributes := #[] }, { accessFlags := 26, nameIndex := 48, descriptorIndex := 25, attributes := #[] }, { accessFlags := 25, nameIndex := 277, descriptorIndex := 25, attributes := #[] }, { accessFlags := 25, nameIndex := 280, descriptorIndex := 25, attributes := #[] }, { accessFlags := 25, nameIndex := 282, descriptorIndex := 25, attributes := #[] }, { accessFlags := 25, nameIndex := 284, descriptorIndex := 25, attributes := #[] }, { accessFlags := 25, nameIndex := 286, descriptorIndex := 25, attributes := #[] }, { accessFlags := 25, nameIndex := 288, descriptorIndex := 25, attributes := #[] }, { accessFlags := 25, nameIndex := 290, descriptorIndex := 25, attributes := #[] }, { accessFlags := 25, nameIndex := 292, descriptorIndex := 25, attributes := #[] }, { accessFlags := 26, nameIndex := 108, descriptorIndex := 109, attributes := #[] }, { accessFlags := 25, nameIndex := 294, descriptorIndex := 25, attributes := #[] }])
  fields := #[{ name := "U", type := (.object "jdk/internal/misc/Unsafe"), accessFlags := 24, slot := 0, constantValue := 0 }, { name := "BIG_ENDIAN", type := .boolean, accessFlags := 26, slot := 1, constantValue := 0 }, { name := "LOG2_ARRAY_BOOLEAN_INDEX_SCALE", type := .int, accessFlags := 25, slot := 2, constantValue := 0 }, { name := "LOG2_ARRAY_BYTE_INDEX_SCALE", type := .int, accessFlags := 25, slot := 3, constantValue := 0 }, { name := "LOG2_ARRAY_CHAR_INDEX_SCALE", type := .int, accessFlags := 25, slot := 4, constantValue := 0 }, { name := "LOG2_ARRAY_SHORT_INDEX_SCALE", type := .int, accessFlags := 25, slot := 5, constantValue := 0 }, { name := "LOG2_ARRAY_INT_INDEX_SCALE", type := .int, accessFlags := 25, slot := 6, constantValue := 0 }, { name := "LOG2_ARRAY_LONG_INDEX_SCALE", type := .int, accessFlags := 25, slot := 7, constantValue := 0 }, { name := "LOG2_ARRAY_FLOAT_INDEX_SCALE", type := .int, accessFlags := 25, slot := 8, constantValue := 0 }, { name := "LOG2_ARRAY_DOUBLE_INDEX_SCALE", type := .int, accessFlags := 25, slot := 9, constantValue := 0 }, { name := "LOG2_BYTE_BIT_SIZE", type := .int, accessFlags := 26, slot := 10, constantValue := 0 }, { name := "T_BOOLEAN", type := .int, accessFlags := 25, slot := 11, constantValue := 0 }, { name := "T_CHAR", type := .int, accessFlags := 25, slot := 12, constantValue := 0 }, { name := "T_FLOAT", type := .int, accessFlags := 25, slot := 13, constantValue := 0 }, { name := "T_DOUBLE", type := .int, accessFlags := 25, slot := 14, constantValue := 0 }, { name := "T_BYTE", type := .int, accessFlags := 25, slot := 15, constantValue := 0 }, { name := "T_SHORT", type := .int, accessFlags := 25, slot := 16, constantValue := 0 }, { name := "T_INT", type := .int, accessFlags := 25, slot := 17, constantValue := 0 }, { name := "T_LONG", type := .int, accessFlags := 25, slot := 18, constantValue := 0 }, { name := "JLA", type := (.object "jdk/internal/access/JavaLangAccess"), accessFlags := 26, slot := 19, constantValue := 0 }, { name := "SOFT_MAX_ARRAY_LENGTH", type := .int, accessFlags := 25, slot := 20, constantValue := 0 }]
  methods := #[k15m0]
  instanceTypes := #[]
  staticTypes := #[(.object "jdk/internal/misc/Unsafe"), .boolean, .int, .int, .int, .int, .int, .int, .int, .int, .int, .int, .int, .int, .int, .int, .int, .int, .int, (.object "jdk/internal/access/JavaLangAccess"), .int]
  resolved := Array.replicate 378 none
  statics := none }

def pool16 : Array CpInfo := pool [(1, u "java/lang/Cloneable"), (0, .class_ 1), (0, u "java/lang/Object"), (0, .class_ 3)] 3

/-- java/lang/Cloneable -/
def k16 : Class := { plain "java/lang/Cloneable" (some 0) with
  accessFlags := 1537
  interfaces := #[]
  cf := some (fileOf pool16 2 #[] #[] 1537 4 #[] #[])
  fields := #[]
  methods := #[]
  instanceTypes := #[]
  staticTypes := #[]
  resolved := Array.replicate 8 none
  statics := none }

/-- the primitive byte -/
def k17 : Class := { plain "byte" none with kind := .primitive 'B', accessFlags := 0x411 }
/-- [B -/
def k18 : Class := { plain "[B" (some 0) with kind := .array 17 .byte, interfaces := #[16, 2], accessFlags := 1041 }

/-- the primitive char -/
def k19 : Class := { plain "char" none with kind := .primitive 'C', accessFlags := 0x411 }
/-- [C -/
def k20 : Class := { plain "[C" (some 0) with kind := .array 19 .char, interfaces := #[16, 2], accessFlags := 1041 }

/-- the primitive int -/
def k21 : Class := { plain "int" none with kind := .primitive 'I', accessFlags := 0x411 }
/-- [I -/
def k22 : Class := { plain "[I" (some 0) with kind := .array 21 .int, interfaces := #[16, 2], accessFlags := 1041 }

def heap : Heap := #[{ cls := 7, slots := #[.long 0, .int 1, .null, .int 0, .null, .int 0, .int 0], vm := .statics 7 },
  { cls := 11, slots := #[.null, .null, .null], vm := .statics 11 }]
def classes : Array Class := #[k0, k1, k2, k3, k4, k5, k6, k7, k8, k9, k10, k11, k12, k13, k14, k15, k16, k17, k18, k19, k20, k21, k22]
def interned : List (Array UInt16 × Addr) := []
def slotsUsed : Nat := 10
def theMethod : MethodId := ⟨1, 3⟩
def args0 : Array Value := #[.int 9, .int 303, .int 65, .int 47, .int 66, .long 7]
def aboutOver (below : List Frame) : State where
  vm := { classes := classes, interned := interned.toArray }
  heap := heap
  slotsUsed := slotsUsed
  threads := #[{ frames := .invoking theMethod args0 :: below }]
def below0 : List Frame := [.native { method := ⟨0, 0⟩, args := #[] }]
def about1 : State := aboutOver below0
def p0 : Program := .bare "" "" ""
def e0 : Env := launch0.env 0 0 0
theorem w_frames : about1.frames = Frame.invoking theMethod args0 :: below0 := rfl
set_option maxRecDepth 65536 in
theorem w_args : argsFit about1.vm theMethod args0 = true := by decide +kernel
set_option maxRecDepth 65536 in
theorem w_heap : heapFits about1 = true := by decide +kernel
set_option maxRecDepth 65536 in
theorem w_runnable : about1.curStatus? = some .runnable := by decide +kernel
set_option maxRecDepth 65536 in
theorem w_alone : about1.alone = true := by decide +kernel
set_option maxRecDepth 65536 in
theorem w_named : about1.methodNamed? x = some theMethod := by decide +kernel
set_option maxRecDepth 65536 in
theorem w_hears : about1.hears theMethod below0 = true := by decide +kernel
set_option maxRecDepth 65536 in
theorem w_ripe : about1.ripe theMethod args0 below0 = true := by decide +kernel
theorem w_running : about1.status = .running := rfl
set_option maxRecDepth 65536 in
theorem w_room : about1.hasRoom e0.platform room_1 = true :=
  launch0.hasRoom_least _ room_1 (by decide +kernel) (by decide +kernel) (by decide +kernel) (by decide +kernel) (by decide +kernel) (by decide +kernel)
theorem allAtoms_all (ts : List Jvm.Cond) (a : Array Jvm.Value) (st : Jvm.State) : (allAtoms ts).before a st = ts.all (fun c => c.before a st) := by
  induction ts with
  | nil => rfl
  | cons c t ih =>
    show (Jvm.Cond.and c (allAtoms t)).before a st = _
    rw [Jvm.Cond.before_and, ih, List.all_cons]
def words1 : List Jvm.Cond := Jvm.Cond.code x code maxLocals ret :: tables_1
/-- a 'code' word, met by the world's own term for the bytes: nothing is compared byte by byte -/
theorem code_word {y : MethodName} {bytes : ByteArray} {mx : Nat} {rt : Option FieldType} {a : Array Value} {s : State} {m : MethodId} {meth : Method} {c : Code} (h1 : s.methodNamed? y = some m) (h2 : s.vm.method? m = some meth) (h3 : meth.code = some c) (h4 : c.code = bytes)
    (h5 : (c.maxLocals == mx && c.exceptionTable.isEmpty && decide (c.maxStack ≤ mostOperands) && decide (meth.sig.returnType = rt) && !meth.locks && decide (parseMethodDescriptor y.desc = some meth.sig)) = true) : (Jvm.Cond.code y bytes mx rt).before a s = true := by
  simp only [Bool.and_eq_true, beq_iff_eq, Bool.not_eq_true', decide_eq_true_eq] at h5
  obtain ⟨⟨⟨⟨⟨g1, g2⟩, g3⟩, g4⟩, g5⟩, g6⟩ := h5
  simp [Cond.before, Cond.holds, Cond.value, h1, h2, h3, h4, g1, g2, g3, g4, g5, g6]
def isCode : Jvm.Cond → Bool
  | .code _ _ _ _ => true
  | _ => false
theorem all_split {L : List Jvm.Cond} {P : Jvm.Cond → Bool} (h1 : L.all (fun c => isCode c || P c) = true) (h2 : ∀ c ∈ L.filter isCode, P c = true) : L.all P = true := by
  refine List.all_eq_true.mpr fun c hc => ?_
  have h := List.all_eq_true.mp h1 c hc
  rcases Bool.eq_false_or_eq_true (isCode c) with hi | hi
  · exact h2 c (List.mem_filter.mpr ⟨hc, hi⟩)
  · simpa [hi] using h
set_option maxRecDepth 65536 in
theorem w_c0 : (Jvm.Cond.code x code maxLocals ret).before args0 about1 = true := code_word (m := ⟨1, 3⟩) (meth := k1m3) (c := k1c3) (by decide +kernel) rfl rfl rfl (by decide +kernel)
set_option maxRecDepth 65536 in
theorem w_c1 : (Jvm.Cond.code ({ cls := "com/example/dvarapala/dvarapala/queue/QueueNodeNamePinLaw", name := "ch", desc := "(I)C" } : Jvm.MethodName) method_2_code (1 : Nat) (Option.some Jvm.ClassFile.FieldType.char)).before args0 about1 = true := code_word (m := ⟨1, 1⟩) (meth := k1m1) (c := k1c1) (by decide +kernel) rfl rfl rfl (by decide +kernel)
set_option maxRecDepth 65536 in
theorem w_c2 : (Jvm.Cond.code ({ cls := "com/example/dvarapala/dvarapala/queue/QueueNodeNamePinLaw", name := "mk", desc := "(ICCCC)[C" } : Jvm.MethodName) method_3_code (5 : Nat) (Option.some (Jvm.ClassFile.FieldType.array Jvm.ClassFile.FieldType.char))).before args0 about1 = true := code_word (m := ⟨1, 2⟩) (meth := k1m2) (c := k1c2) (by decide +kernel) rfl rfl rfl (by decide +kernel)
set_option maxRecDepth 65536 in
theorem w_c3 : (Jvm.Cond.code ({ cls := "java/lang/String", name := "<init>", desc := "([C)V" } : Jvm.MethodName) jdk_42_method_3_code (2 : Nat) (Option.none : Option Jvm.ClassFile.FieldType)).before args0 about1 = true := code_word (m := ⟨7, 1⟩) (meth := k7m1) (c := k7c1) (by decide +kernel) rfl rfl rfl (by decide +kernel)
set_option maxRecDepth 65536 in
theorem w_c4 : (Jvm.Cond.code ({ cls := "java/lang/String", name := "<init>", desc := "([CIILjava/lang/Void;)V" } : Jvm.MethodName) jdk_42_method_149_code (6 : Nat) (Option.none : Option Jvm.ClassFile.FieldType)).before args0 about1 = true := code_word (m := ⟨7, 8⟩) (meth := k7m8) (c := k7c8) (by decide +kernel) rfl rfl rfl (by decide +kernel)
set_option maxRecDepth 65536 in
theorem w_c5 : (Jvm.Cond.code ({ cls := "java/lang/Object", name := "<init>", desc := "()V" } : Jvm.MethodName) object_method_1_code (1 : Nat) (Option.none : Option Jvm.ClassFile.FieldType)).before args0 about1 = true := code_word (m := ⟨0, 0⟩) (meth := k0m0) (c := k0c0) (by decide +kernel) rfl rfl rfl (by decide +kernel)
set_option maxRecDepth 65536 in
theorem w_c6 : (Jvm.Cond.code ({ cls := "com/example/dvarapala/dvarapala/queue/QueueNode", name := "<init>", desc := "(Ljava/lang/String;J)V" } : Jvm.MethodName) prog_11_method_1_code (4 : Nat) (Option.none : Option Jvm.ClassFile.FieldType)).before args0 about1 = true := code_word (m := ⟨8, 0⟩) (meth := k8m0) (c := k8c0) (by decide +kernel) rfl rfl rfl (by decide +kernel)
set_option maxRecDepth 65536 in
theorem w_c7 : (Jvm.Cond.code ({ cls := "com/example/dvarapala/dvarapala/queue/QueueNode", name := "name", desc := "()Ljava/lang/String;" } : Jvm.MethodName) prog_11_method_3_code (1 : Nat) (Option.some (Jvm.ClassFile.FieldType.object "java/lang/String"))).before args0 about1 = true := code_word (m := ⟨8, 1⟩) (meth := k8m1) (c := k8c1) (by decide +kernel) rfl rfl rfl (by decide +kernel)
set_option maxRecDepth 65536 in
theorem w_c8 : (Jvm.Cond.code ({ cls := "java/lang/String", name := "lastIndexOf", desc := "(I)I" } : Jvm.MethodName) jdk_42_method_82_code (2 : Nat) (Option.some Jvm.ClassFile.FieldType.int)).before args0 about1 = true := code_word (m := ⟨7, 4⟩) (meth := k7m4) (c := k7c4) (by decide +kernel) rfl rfl rfl (by decide +kernel)
set_option maxRecDepth 65536 in
theorem w_c9 : (Jvm.Cond.code ({ cls := "java/lang/String", name := "length", desc := "()I" } : Jvm.MethodName) jdk_42_method_54_code (1 : Nat) (Option.some Jvm.ClassFile.FieldType.int)).before args0 about1 = true := code_word (m := ⟨7, 2⟩) (meth := k7m2) (c := k7c2) (by decide +kernel) rfl rfl rfl (by decide +kernel)
set_option maxRecDepth 65536 in
theorem w_c10 : (Jvm.Cond.code ({ cls := "java/lang/String", name := "coder", desc := "()B" } : Jvm.MethodName) jdk_42_method_152_code (1 : Nat) (Option.some Jvm.ClassFile.FieldType.byte)).before args0 about1 = true := code_word (m := ⟨7, 10⟩) (meth := k7m10) (c := k7c10) (by decide +kernel) rfl rfl rfl (by decide +kernel)
set_option maxRecDepth 65536 in
theorem w_c11 : (Jvm.Cond.code ({ cls := "java/lang/String", name := "lastIndexOf", desc := "(II)I" } : Jvm.MethodName) jdk_42_method_83_code (3 : Nat) (Option.some Jvm.ClassFile.FieldType.int)).before args0 about1 = true := code_word (m := ⟨7, 5⟩) (meth := k7m5) (c := k7c5) (by decide +kernel) rfl rfl rfl (by decide +kernel)
set_option maxRecDepth 65536 in
theorem w_c12 : (Jvm.Cond.code ({ cls := "java/lang/String", name := "isLatin1", desc := "()Z" } : Jvm.MethodName) jdk_42_method_154_code (1 : Nat) (Option.some Jvm.ClassFile.FieldType.boolean)).before args0 about1 = true := code_word (m := ⟨7, 11⟩) (meth := k7m11) (c := k7c11) (by decide +kernel) rfl rfl rfl (by decide +kernel)
set_option maxRecDepth 65536 in
theorem w_c13 : (Jvm.Cond.code ({ cls := "java/lang/StringLatin1", name := "lastIndexOf", desc := "([BII)I" } : Jvm.MethodName) jdk_43_method_27_code (4 : Nat) (Option.some Jvm.ClassFile.FieldType.int)).before args0 about1 = true := code_word (m := ⟨9, 3⟩) (meth := k9m3) (c := k9c3) (by decide +kernel) rfl rfl rfl (by decide +kernel)
set_option maxRecDepth 65536 in
theorem w_c14 : (Jvm.Cond.code ({ cls := "java/lang/StringLatin1", name := "canEncode", desc := "(I)Z" } : Jvm.MethodName) jdk_43_method_4_code (1 : Nat) (Option.some Jvm.ClassFile.FieldType.boolean)).before args0 about1 = true := code_word (m := ⟨9, 2⟩) (meth := k9m2) (c := k9c2) (by decide +kernel) rfl rfl rfl (by decide +kernel)
set_option maxRecDepth 65536 in
theorem w_c15 : (Jvm.Cond.code ({ cls := "java/lang/Math", name := "min", desc := "(II)I" } : Jvm.MethodName) jdk_29_method_69_code (2 : Nat) (Option.some Jvm.ClassFile.FieldType.int)).before args0 about1 = true := code_word (m := ⟨10, 1⟩) (meth := k10m1) (c := k10c1) (by decide +kernel) rfl rfl rfl (by decide +kernel)
set_option maxRecDepth 65536 in
theorem w_c16 : (Jvm.Cond.code ({ cls := "java/lang/String", name := "substring", desc := "(I)Ljava/lang/String;" } : Jvm.MethodName) jdk_42_method_91_code (2 : Nat) (Option.some (Jvm.ClassFile.FieldType.object "java/lang/String"))).before args0 about1 = true := code_word (m := ⟨7, 6⟩) (meth := k7m6) (c := k7c6) (by decide +kernel) rfl rfl rfl (by decide +kernel)
set_option maxRecDepth 65536 in
theorem w_c17 : (Jvm.Cond.code ({ cls := "java/lang/String", name := "substring", desc := "(II)Ljava/lang/String;" } : Jvm.MethodName) jdk_42_method_92_code (5 : Nat) (Option.some (Jvm.ClassFile.FieldType.object "java/lang/String"))).before args0 about1 = true := code_word (m := ⟨7, 7⟩) (meth := k7m7) (c := k7c7) (by decide +kernel) rfl rfl rfl (by decide +kernel)
set_option maxRecDepth 65536 in
theorem w_c18 : (Jvm.Cond.code ({ cls := "java/lang/String", name := "checkBoundsBeginEnd", desc := "(III)V" } : Jvm.MethodName) jdk_42_method_158_code (3 : Nat) (Option.none : Option Jvm.ClassFile.FieldType)).before args0 about1 = true := code_word (m := ⟨7, 13⟩) (meth := k7m13) (c := k7c13) (by decide +kernel) rfl rfl rfl (by decide +kernel)
set_option maxRecDepth 65536 in
theorem w_c19 : (Jvm.Cond.code ({ cls := "jdk/internal/util/Preconditions", name := "checkFromToIndex", desc := "(IIILjava/util/function/BiFunction;)I" } : Jvm.MethodName) jdk_41_method_12_code (4 : Nat) (Option.some Jvm.ClassFile.FieldType.int)).before args0 about1 = true := code_word (m := ⟨11, 2⟩) (meth := k11m2) (c := k11c2) (by decide +kernel) rfl rfl rfl (by decide +kernel)
set_option maxRecDepth 65536 in
theorem w_c20 : (Jvm.Cond.code ({ cls := "java/lang/StringUTF16", name := "compress", desc := "([CII)[B" } : Jvm.MethodName) jdk_52_method_16_code (6 : Nat) (Option.some (Jvm.ClassFile.FieldType.array Jvm.ClassFile.FieldType.byte))).before args0 about1 = true := code_word (m := ⟨12, 2⟩) (meth := k12m2) (c := k12c2) (by decide +kernel) rfl rfl rfl (by decide +kernel)
set_option maxRecDepth 65536 in
theorem w_c21 : (Jvm.Cond.code ({ cls := "java/lang/StringUTF16", name := "compress", desc := "([CI[BII)I" } : Jvm.MethodName) jdk_52_method_21_code (7 : Nat) (Option.some Jvm.ClassFile.FieldType.int)).before args0 about1 = true := code_word (m := ⟨12, 3⟩) (meth := k12m3) (c := k12c3) (by decide +kernel) rfl rfl rfl (by decide +kernel)
set_option maxRecDepth 65536 in
theorem w_c22 : (Jvm.Cond.code ({ cls := "java/lang/StringUTF16", name := "coderFromArrayLen", desc := "([BI)B" } : Jvm.MethodName) jdk_52_method_15_code (2 : Nat) (Option.some Jvm.ClassFile.FieldType.byte)).before args0 about1 = true := code_word (m := ⟨12, 1⟩) (meth := k12m1) (c := k12c1) (by decide +kernel) rfl rfl rfl (by decide +kernel)
set_option maxRecDepth 65536 in
theorem w_c23 : (Jvm.Cond.code ({ cls := "java/lang/String", name := "charAt", desc := "(I)C" } : Jvm.MethodName) jdk_42_method_56_code (2 : Nat) (Option.some Jvm.ClassFile.FieldType.char)).before args0 about1 = true := code_word (m := ⟨7, 3⟩) (meth := k7m3) (c := k7c3) (by decide +kernel) rfl rfl rfl (by decide +kernel)
set_option maxRecDepth 65536 in
theorem w_c24 : (Jvm.Cond.code ({ cls := "java/lang/StringLatin1", name := "charAt", desc := "([BI)C" } : Jvm.MethodName) jdk_43_method_2_code (2 : Nat) (Option.some Jvm.ClassFile.FieldType.char)).before args0 about1 = true := code_word (m := ⟨9, 1⟩) (meth := k9m1) (c := k9c1) (by decide +kernel) rfl rfl rfl (by decide +kernel)
set_option maxRecDepth 65536 in
theorem w_c25 : (Jvm.Cond.code ({ cls := "java/lang/String", name := "checkIndex", desc := "(II)V" } : Jvm.MethodName) jdk_42_method_155_code (2 : Nat) (Option.none : Option Jvm.ClassFile.FieldType)).before args0 about1 = true := code_word (m := ⟨7, 12⟩) (meth := k7m12) (c := k7c12) (by decide +kernel) rfl rfl rfl (by decide +kernel)
set_option maxRecDepth 65536 in
theorem w_c26 : (Jvm.Cond.code ({ cls := "jdk/internal/util/Preconditions", name := "checkIndex", desc := "(IILjava/util/function/BiFunction;)I" } : Jvm.MethodName) jdk_41_method_11_code (3 : Nat) (Option.some Jvm.ClassFile.FieldType.int)).before args0 about1 = true := code_word (m := ⟨11, 1⟩) (meth := k11m1) (c := k11c1) (by decide +kernel) rfl rfl rfl (by decide +kernel)
set_option maxRecDepth 65536 in
theorem w_c27 : (Jvm.Cond.code ({ cls := "java/lang/StringLatin1", name := "newString", desc := "([BII)Ljava/lang/String;" } : Jvm.MethodName) jdk_43_method_47_code (3 : Nat) (Option.some (Jvm.ClassFile.FieldType.object "java/lang/String"))).before args0 about1 = true := code_word (m := ⟨9, 4⟩) (meth := k9m4) (c := k9c4) (by decide +kernel) rfl rfl rfl (by decide +kernel)
set_option maxRecDepth 65536 in
theorem w_c28 : (Jvm.Cond.code ({ cls := "java/util/Arrays", name := "copyOfRange", desc := "([BII)[B" } : Jvm.MethodName) jdk_65_method_132_code (3 : Nat) (Option.some (Jvm.ClassFile.FieldType.array Jvm.ClassFile.FieldType.byte))).before args0 about1 = true := code_word (m := ⟨13, 2⟩) (meth := k13m2) (c := k13c2) (by decide +kernel) rfl rfl rfl (by decide +kernel)
set_option maxRecDepth 65536 in
theorem w_c29 : (Jvm.Cond.code ({ cls := "java/util/Arrays", name := "copyOfRangeByte", desc := "([BII)[B" } : Jvm.MethodName) jdk_65_method_133_code (5 : Nat) (Option.some (Jvm.ClassFile.FieldType.array Jvm.ClassFile.FieldType.byte))).before args0 about1 = true := code_word (m := ⟨13, 3⟩) (meth := k13m3) (c := k13c3) (by decide +kernel) rfl rfl rfl (by decide +kernel)
set_option maxRecDepth 65536 in
theorem w_c30 : (Jvm.Cond.code ({ cls := "java/util/Arrays", name := "checkLength", desc := "(II)V" } : Jvm.MethodName) jdk_65_method_131_code (2 : Nat) (Option.none : Option Jvm.ClassFile.FieldType)).before args0 about1 = true := code_word (m := ⟨13, 1⟩) (meth := k13m1) (c := k13c1) (by decide +kernel) rfl rfl rfl (by decide +kernel)
set_option maxRecDepth 65536 in
theorem w_c31 : (Jvm.Cond.code ({ cls := "java/lang/String", name := "<init>", desc := "([BB)V" } : Jvm.MethodName) jdk_42_method_151_code (3 : Nat) (Option.none : Option Jvm.ClassFile.FieldType)).before args0 about1 = true := code_word (m := ⟨7, 9⟩) (meth := k7m9) (c := k7c9) (by decide +kernel) rfl rfl rfl (by decide +kernel)
def codes1 : List Jvm.Cond := [Jvm.Cond.code x code maxLocals ret, Jvm.Cond.code ({ cls := "com/example/dvarapala/dvarapala/queue/QueueNodeNamePinLaw", name := "ch", desc := "(I)C" } : Jvm.MethodName) method_2_code (1 : Nat) (Option.some Jvm.ClassFile.FieldType.char), Jvm.Cond.code ({ cls := "com/example/dvarapala/dvarapala/queue/QueueNodeNamePinLaw", name := "mk", desc := "(ICCCC)[C" } : Jvm.MethodName) method_3_code (5 : Nat) (Option.some (Jvm.ClassFile.FieldType.array Jvm.ClassFile.FieldType.char)), Jvm.Cond.code ({ cls := "java/lang/String", name := "<init>", desc := "([C)V" } : Jvm.MethodName) jdk_42_method_3_code (2 : Nat) (Option.none : Option Jvm.ClassFile.FieldType), Jvm.Cond.code ({ cls := "java/lang/String", name := "<init>", desc := "([CIILjava/lang/Void;)V" } : Jvm.MethodName) jdk_42_method_149_code (6 : Nat) (Option.none : Option Jvm.ClassFile.FieldType), Jvm.Cond.code ({ cls := "java/lang/Object", name := "<init>", desc := "()V" } : Jvm.MethodName) object_method_1_code (1 : Nat) (Option.none : Option Jvm.ClassFile.FieldType), Jvm.Cond.code ({ cls := "com/example/dvarapala/dvarapala/queue/QueueNode", name := "<init>", desc := "(Ljava/lang/String;J)V" } : Jvm.MethodName) prog_11_method_1_code (4 : Nat) (Option.none : Option Jvm.ClassFile.FieldType), Jvm.Cond.code ({ cls := "com/example/dvarapala/dvarapala/queue/QueueNode", name := "name", desc := "()Ljava/lang/String;" } : Jvm.MethodName) prog_11_method_3_code (1 : Nat) (Option.some (Jvm.ClassFile.FieldType.object "java/lang/String")), Jvm.Cond.code ({ cls := "java/lang/String", name := "lastIndexOf", desc := "(I)I" } : Jvm.MethodName) jdk_42_method_82_code (2 : Nat) (Option.some Jvm.ClassFile.FieldType.int), Jvm.Cond.code ({ cls := "java/lang/String", name := "length", desc := "()I" } : Jvm.MethodName) jdk_42_method_54_code (1 : Nat) (Option.some Jvm.ClassFile.FieldType.int), Jvm.Cond.code ({ cls := "java/lang/String", name := "coder", desc := "()B" } : Jvm.MethodName) jdk_42_method_152_code (1 : Nat) (Option.some Jvm.ClassFile.FieldType.byte), Jvm.Cond.code ({ cls := "java/lang/String", name := "lastIndexOf", desc := "(II)I" } : Jvm.MethodName) jdk_42_method_83_code (3 : Nat) (Option.some Jvm.ClassFile.FieldType.int), Jvm.Cond.code ({ cls := "java/lang/String", name := "isLatin1", desc := "()Z" } : Jvm.MethodName) jdk_42_method_154_code (1 : Nat) (Option.some Jvm.ClassFile.FieldType.boolean), Jvm.Cond.code ({ cls := "java/lang/StringLatin1", name := "lastIndexOf", desc := "([BII)I" } : Jvm.MethodName) jdk_43_method_27_code (4 : Nat) (Option.some Jvm.ClassFile.FieldType.int), Jvm.Cond.code ({ cls := "java/lang/StringLatin1", name := "canEncode", desc := "(I)Z" } : Jvm.MethodName) jdk_43_method_4_code (1 : Nat) (Option.some Jvm.ClassFile.FieldType.boolean), Jvm.Cond.code ({ cls := "java/lang/Math", name := "min", desc := "(II)I" } : Jvm.MethodName) jdk_29_method_69_code (2 : Nat) (Option.some Jvm.ClassFile.FieldType.int), Jvm.Cond.code ({ cls := "java/lang/String", name := "substring", desc := "(I)Ljava/lang/String;" } : Jvm.MethodName) jdk_42_method_91_code (2 : Nat) (Option.some (Jvm.ClassFile.FieldType.object "java/lang/String")), Jvm.Cond.code ({ cls := "java/lang/String", name := "substring", desc := "(II)Ljava/lang/String;" } : Jvm.MethodName) jdk_42_method_92_code (5 : Nat) (Option.some (Jvm.ClassFile.FieldType.object "java/lang/String")), Jvm.Cond.code ({ cls := "java/lang/String", name := "checkBoundsBeginEnd", desc := "(III)V" } : Jvm.MethodName) jdk_42_method_158_code (3 : Nat) (Option.none : Option Jvm.ClassFile.FieldType), Jvm.Cond.code ({ cls := "jdk/internal/util/Preconditions", name := "checkFromToIndex", desc := "(IIILjava/util/function/BiFunction;)I" } : Jvm.MethodName) jdk_41_method_12_code (4 : Nat) (Option.some Jvm.ClassFile.FieldType.int), Jvm.Cond.code ({ cls := "java/lang/StringUTF16", name := "compress", desc := "([CII)[B" } : Jvm.MethodName) jdk_52_method_16_code (6 : Nat) (Option.some (Jvm.ClassFile.FieldType.array Jvm.ClassFile.FieldType.byte)), Jvm.Cond.code ({ cls := "java/lang/StringUTF16", name := "compress", desc := "([CI[BII)I" } : Jvm.MethodName) jdk_52_method_21_code (7 : Nat) (Option.some Jvm.ClassFile.FieldType.int), Jvm.Cond.code ({ cls := "java/lang/StringUTF16", name := "coderFromArrayLen", desc := "([BI)B" } : Jvm.MethodName) jdk_52_method_15_code (2 : Nat) (Option.some Jvm.ClassFile.FieldType.byte), Jvm.Cond.code ({ cls := "java/lang/String", name := "charAt", desc := "(I)C" } : Jvm.MethodName) jdk_42_method_56_code (2 : Nat) (Option.some Jvm.ClassFile.FieldType.char), Jvm.Cond.code ({ cls := "java/lang/StringLatin1", name := "charAt", desc := "([BI)C" } : Jvm.MethodName) jdk_43_method_2_code (2 : Nat) (Option.some Jvm.ClassFile.FieldType.char), Jvm.Cond.code ({ cls := "java/lang/String", name := "checkIndex", desc := "(II)V" } : Jvm.MethodName) jdk_42_method_155_code (2 : Nat) (Option.none : Option Jvm.ClassFile.FieldType), Jvm.Cond.code ({ cls := "jdk/internal/util/Preconditions", name := "checkIndex", desc := "(IILjava/util/function/BiFunction;)I" } : Jvm.MethodName) jdk_41_method_11_code (3 : Nat) (Option.some Jvm.ClassFile.FieldType.int), Jvm.Cond.code ({ cls := "java/lang/StringLatin1", name := "newString", desc := "([BII)Ljava/lang/String;" } : Jvm.MethodName) jdk_43_method_47_code (3 : Nat) (Option.some (Jvm.ClassFile.FieldType.object "java/lang/String")), Jvm.Cond.code ({ cls := "java/util/Arrays", name := "copyOfRange", desc := "([BII)[B" } : Jvm.MethodName) jdk_65_method_132_code (3 : Nat) (Option.some (Jvm.ClassFile.FieldType.array Jvm.ClassFile.FieldType.byte)), Jvm.Cond.code ({ cls := "java/util/Arrays", name := "copyOfRangeByte", desc := "([BII)[B" } : Jvm.MethodName) jdk_65_method_133_code (5 : Nat) (Option.some (Jvm.ClassFile.FieldType.array Jvm.ClassFile.FieldType.byte)), Jvm.Cond.code ({ cls := "java/util/Arrays", name := "checkLength", desc := "(II)V" } : Jvm.MethodName) jdk_65_method_131_code (2 : Nat) (Option.none : Option Jvm.ClassFile.FieldType), Jvm.Cond.code ({ cls := "java/lang/String", name := "<init>", desc := "([BB)V" } : Jvm.MethodName) jdk_42_method_151_code (3 : Nat) (Option.none : Option Jvm.ClassFile.FieldType)]
set_option maxRecDepth 65536 in
theorem codes_eq : words1.filter isCode = codes1 := rfl
theorem w_codes : ∀ c ∈ words1.filter isCode, c.before args0 about1 = true := by
  rw [codes_eq]
  intro c hc
  simp only [codes1, List.mem_cons, List.not_mem_nil, or_false] at hc
  rcases hc with rfl | rfl | rfl | rfl | rfl | rfl | rfl | rfl | rfl | rfl | rfl | rfl | rfl | rfl | rfl | rfl | rfl | rfl | rfl | rfl | rfl | rfl | rfl | rfl | rfl | rfl | rfl | rfl | rfl | rfl | rfl | rfl
  · exact w_c0
  · exact w_c1
  · exact w_c2
  · exact w_c3
  · exact w_c4
  · exact w_c5
  · exact w_c6
  · exact w_c7
  · exact w_c8
  · exact w_c9
  · exact w_c10
  · exact w_c11
  · exact w_c12
  · exact w_c13
  · exact w_c14
  · exact w_c15
  · exact w_c16
  · exact w_c17
  · exact w_c18
  · exact w_c19
  · exact w_c20
  · exact w_c21
  · exact w_c22
  · exact w_c23
  · exact w_c24
  · exact w_c25
  · exact w_c26
  · exact w_c27
  · exact w_c28
  · exact w_c29
  · exact w_c30
  · exact w_c31
set_option maxRecDepth 65536 in
theorem w_t1 : (words1.take 24).all (fun c => isCode c || c.before args0 about1) = true := by decide +kernel
set_option maxRecDepth 65536 in
theorem w_t2 : ((words1.drop 24).take 24).all (fun c => isCode c || c.before args0 about1) = true := by decide +kernel
set_option maxRecDepth 65536 in
theorem w_t3 : (((words1.drop 24).drop 24).take 24).all (fun c => isCode c || c.before args0 about1) = true := by decide +kernel
set_option maxRecDepth 65536 in
theorem w_t4 : ((((words1.drop 24).drop 24).drop 24).take 24).all (fun c => isCode c || c.before args0 about1) = true := by decide +kernel
set_option maxRecDepth 65536 in
theorem w_t5 : (((((words1.drop 24).drop 24).drop 24).drop 24).take 24).all (fun c => isCode c || c.before args0 about1) = true := by decide +kernel
set_option maxRecDepth 65536 in
theorem w_t6 : ((((((words1.drop 24).drop 24).drop 24).drop 24).drop 24).take 24).all (fun c => isCode c || c.before args0 about1) = true := by decide +kernel
set_option maxRecDepth 65536 in
theorem w_t7 : ((((((words1.drop 24).drop 24).drop 24).drop 24).drop 24).drop 24).all (fun c => isCode c || c.before args0 about1) = true := by decide +kernel
theorem w_tables : (allAtoms (Jvm.Cond.code x code maxLocals ret :: tables_1)).before args0 about1 = true := by
  rw [allAtoms_all]
  show words1.all (fun c => c.before args0 about1) = true
  refine all_split ?_ w_codes
  rw [← List.take_append_drop 24 words1, List.all_append, w_t1, ← List.take_append_drop 24 (words1.drop 24), List.all_append, w_t2, ← List.take_append_drop 24 ((words1.drop 24).drop 24), List.all_append, w_t3, ← List.take_append_drop 24 (((words1.drop 24).drop 24).drop 24), List.all_append, w_t4, ← List.take_append_drop 24 ((((words1.drop 24).drop 24).drop 24).drop 24), List.all_append, w_t5, ← List.take_append_drop 24 (((((words1.drop 24).drop 24).drop 24).drop 24).drop 24), List.all_append, w_t6, w_t7]
  rfl
set_option maxRecDepth 65536 in
theorem w_rest : rest_1_c.before args0 about1 = true := by decide +kernel
set_option maxRecDepth 65536 in
theorem w_case : (Jvm.Cond.and given_1 narrow_1).before args0 about1 = true := by decide +kernel
set_option maxRecDepth 65536 in
theorem w_consts : constsHeld consts_1 about1 := Jvm.Lit.constsHeldB_iff.mp (by decide +kernel)
theorem w_applies : (headSpec (Jvm.Cond.code x code maxLocals ret :: tables_1) room_1).applies x e0.platform about1 = true :=
  (Spec.applies_iff w_frames).mpr ⟨w_running, w_runnable, w_alone, w_named, w_hears, w_ripe, w_room, w_tables⟩
theorem atStart : AtStart classFile x code maxLocals ret World_1 tables_1 room_1 Calls_1 rest_1 Pre_1 launch0 p0 e0 about1 theMethod args0 below0 :=
  ⟨lists_1, trivial, launch0.admits_env _ _ _, launch0.least_env, fairChoices_fair.cas, fairChoices_fair.clock, w_frames, w_args, w_heap, w_applies, ⟨w_consts, trivial⟩, w_rest, w_case⟩
end start1
theorem witness_1 : WitnessClaimed_1 := ⟨start1.p0, start1.e0, start1.about1, start1.theMethod, start1.args0, start1.below0, start1.atStart⟩
end Jvm.Pilot.@@N@@
