import JvmDerived
import JvmDerived.Pilot.@@N@@Statement
import JvmDerived.Pilot.@@N@@Code
set_option linter.unusedVariables false
set_option linter.unusedSimpArgs false
namespace Jvm.RoadKit
open Sem ClassFile Op Lib Jvm.Stand Jvm.Free Jvm.LawKit
section New
variable {p : Program} {l : Launch} {e : Env} {R : Room} {s : State} {m : MethodId} {args : Array Value} {below : List Frame} {meth : Method} {c : Code} {T : State} {locs : List Loc} {cells slots : Nat}
theorem retI (X : Stand p l e R s m args below meth c T locs cells slots) (hx : p.tables.exec = Jvm.exec) {pc : Nat} {Ls : Array Slot} {z : Int32} {rest : List Value} (hret : meth.sig.returnType = some .int) (hd : decode c.code pc = .ok (.ireturn, 1)) {fs : List Frame}
    (hl : ∀ (f : JFrame) (acts : List Action), f.method = m → f.locked = none → f.entered = [] → (doReturn e (T.setTop f) acts (some (.int z))).1 = T.setFrames fs) : Steps p.tables e below (T.setTop (mkF m pc Ls (.int z :: rest))) (T.setFrames fs) :=
  retOut X hx hret rfl (Or.inl ⟨rfl, Or.inl rfl, _, rfl⟩) hd hl
abbrev own_M (l : Launch) (y : MethodName) (cd : List Cond) (rm : Room) (as' : Array Value) (Z : State) (h0 : Heap) (Q : Option Value → Heap → List Loc → Prop) : Prop := MetFree l y (head1 cd rm) (fun a U => a = as' ∧ Z.Warmed39 U.vm ∧ U.heap = h0) (fun _ _ _ _ _ => True) (fun _ U o U' => ∃ v L, o = .returned v ∧ Q v U'.heap L ∧ FrameEnd U o U' L rm.cells rm.slots)
abbrev own_l (x : Int64) : Slot := .val (.long x)
abbrev own_S (p : Program) (e : Env) (below : List Frame) (T : State) (f : JFrame) (t : State) : Prop := Steps p.tables e below (T.setTop f) t
theorem own_sta_keep {Z : State} {h h' : Heap} {C n d : String} {w : Value} {ws : List Addr} (F : Sta Z h C n d w) (K : Keep h h' ws) (ns : ∀ x ∈ ws, ∀ cell : Cell, h[x]? = some cell → cell.vm.isStatics = false) : Sta Z h' C n d w := by
  obtain ⟨cf, i, k, f, st, cell, h1, h2, h3, h4, h5, h6, h7⟩ := F
  refine ⟨cf, i, k, f, st, cell, h1, h2, h3, h4, K.2.1 st cell h5 (fun hm => ?_), h6, h7⟩
  rw [ns st hm cell h5] at h6
  cases h6
theorem own_sto {Z : State} {h : Heap} {a y : Addr} {k : ClassId} {ty : FieldType} {z : Int32} {vs : List Value} {dv : Value} {C : String} (A : Arv Z h a k ty z vs dv) (O : Ovr Z k C) (I : Ins Z h y C true) : Sto Z h a (.ref y) := by
  obtain ⟨c, Ar, q, -⟩ := A
  exact Sto.ofV Ar q O I
theorem own_selp {s : State} {args : Array Value} {w y : MethodName} (hs : (Cond.selects w.cls w w).before args s = true) (e : w.cls = y.cls) (hp : s.PrivateAt y) (hi : (Cond.instanceMethod y).before args s = true) (hy : y.cls ≠ "java/lang/invoke/MethodHandle" ∧ y.cls ≠ "java/lang/invoke/VarHandle") : (Cond.selects y.cls y y).before args s = true := by
  obtain ⟨c2, r2, m2, q1, q2, q3, q4, kP, hkP, hkPi⟩ := Cond.selects_spec hs
  exact selects_self_of_private (c := m2.cls) (by rw [← e]; exact findClass_of_methodNamed q3) hkP hkPi hp hi hy
end New
theorem own_getFR {p : Program} {l : Launch} {e : Env} {R : Room} {s : State} {m : MethodId} {args : Array Value} {below : List Frame} {meth : Method} {c : Code} {T : State} {locs : List Loc} {cells slots : Nat} {Z : State} {a0 : Array Value} {h : Heap} (X : Stand p l e R s m args below meth c T locs cells slots) (hx : p.tables.exec = Jvm.exec) (hZ : Z.Warmed39 s.vm) {own O n d : String} {index : Nat} (hown : s.vm.findClass own = some m.cls) (w : (Cond.fieldRef own index O n d).before a0 Z = true) (eT : T.heap = h) {a : Addr} {v : Value} (F : Fld Z h a O n d v) {g : JFrame} (hg : g.method = m) {rest : List Value} (hs : g.stack = .ref a :: rest) (hd : decode c.code g.pc = .ok (.getfield index, 3)) :
    ∀ target, Steps p.tables e below (T.setTop { g with pc := g.pc + 3, stack := v :: rest }) target → Steps p.tables e below (T.setTop g) target := by
  obtain ⟨cell, cf, k, i, f, h1, h2, h3, h4, -, -, h7⟩ := F
  have hW : Z.Warmed39 T.vm := wtrans hZ X.warmed
  have w1 : (Cond.fieldRef own index O n d).before a0 (Z.setVm T.vm) = true := Cond.fieldRef_warmed39 hW w
  have hc : (Z.setVm T.vm).vm.findClass own = some m.cls := by
    show T.vm.findClass own = some m.cls
    rw [X.warmed.wide.alike.findClass]
    exact hown
  obtain ⟨c', k', i', f', e1, hready⟩ := Cond.fieldRef_spec hc w1
  obtain ⟨k2, e2, -⟩ := State.fieldFound?_setVm (s := Z) hW.alike h2
  cases e1.symm.trans e2
  have hready' : T.vm.fieldReady m.cls index cf f := hready
  intro target hr
  subst hg
  jvm_step X.here [hx, hd, getfield.wp_ready (e := e) (s := T) (f := g) X.here.top hready' h3 hs (by rw [eT]; exact h1) h4, h7]
  exact hr
end Jvm.RoadKit
namespace Jvm.Pilot.@@N@@
open Jvm Jvm.ClassFile Sem Op Lib Jvm.Free Jvm.Stand Jvm.LawKit Jvm.RoadKit Bundle Jvm.Pilot.@@N@@.Jvm.D
theorem d1_0 : decode prog_116_method_1_code 0 = .ok (.aload_n 0, 1) := by decide +kernel
theorem d1_1 : decode prog_116_method_1_code 1 = .ok (.invokespecial 1, 3) := by decide +kernel
theorem d1_4 : decode prog_116_method_1_code 4 = .ok (.aload_n 0, 1) := by decide +kernel
theorem d1_5 : decode prog_116_method_1_code 5 = .ok (.new 7, 3) := by decide +kernel
theorem d1_8 : decode prog_116_method_1_code 8 = .ok (.dup, 1) := by decide +kernel
theorem d1_9 : decode prog_116_method_1_code 9 = .ok (.iconst 1, 1) := by decide +kernel
theorem d1_10 : decode prog_116_method_1_code 10 = .ok (.invokespecial 9, 3) := by decide +kernel
theorem d1_13 : decode prog_116_method_1_code 13 = .ok (.putfield 12, 3) := by decide +kernel
theorem d1_16 : decode prog_116_method_1_code 16 = .ok (.aload_n 0, 1) := by decide +kernel
theorem d1_17 : decode prog_116_method_1_code 17 = .ok (.new 7, 3) := by decide +kernel
theorem d1_20 : decode prog_116_method_1_code 20 = .ok (.dup, 1) := by decide +kernel
theorem d1_21 : decode prog_116_method_1_code 21 = .ok (.iconst 0, 1) := by decide +kernel
theorem d1_22 : decode prog_116_method_1_code 22 = .ok (.invokespecial 9, 3) := by decide +kernel
theorem d1_25 : decode prog_116_method_1_code 25 = .ok (.putfield 18, 3) := by decide +kernel
theorem d1_28 : decode prog_116_method_1_code 28 = .ok (.return_, 1) := by decide +kernel
theorem d3_0 : decode prog_118_method_1_code 0 = .ok (.aload_n 0, 1) := by decide +kernel
theorem d3_1 : decode prog_118_method_1_code 1 = .ok (.invokespecial 3, 3) := by decide +kernel
theorem d3_4 : decode prog_118_method_1_code 4 = .ok (.aload_n 0, 1) := by decide +kernel
theorem d3_5 : decode prog_118_method_1_code 5 = .ok (.iconst 1, 1) := by decide +kernel
theorem d3_6 : decode prog_118_method_1_code 6 = .ok (.newarray .int, 2) := by decide +kernel
theorem d3_8 : decode prog_118_method_1_code 8 = .ok (.putfield 9, 3) := by decide +kernel
theorem d3_11 : decode prog_118_method_1_code 11 = .ok (.aload_n 0, 1) := by decide +kernel
theorem d3_12 : decode prog_118_method_1_code 12 = .ok (.iconst 1, 1) := by decide +kernel
theorem d3_13 : decode prog_118_method_1_code 13 = .ok (.putfield 15, 3) := by decide +kernel
theorem d3_16 : decode prog_118_method_1_code 16 = .ok (.aload_n 0, 1) := by decide +kernel
theorem d3_17 : decode prog_118_method_1_code 17 = .ok (.iload_n 1, 1) := by decide +kernel
theorem d3_18 : decode prog_118_method_1_code 18 = .ok (.putfield 19, 3) := by decide +kernel
theorem d3_21 : decode prog_118_method_1_code 21 = .ok (.aload_n 0, 1) := by decide +kernel
theorem d3_22 : decode prog_118_method_1_code 22 = .ok (.iconst 1, 1) := by decide +kernel
theorem d3_23 : decode prog_118_method_1_code 23 = .ok (.anewarray 23, 3) := by decide +kernel
theorem d3_26 : decode prog_118_method_1_code 26 = .ok (.dup, 1) := by decide +kernel
theorem d3_27 : decode prog_118_method_1_code 27 = .ok (.iconst 0, 1) := by decide +kernel
theorem d3_28 : decode prog_118_method_1_code 28 = .ok (.new 23, 3) := by decide +kernel
theorem d3_31 : decode prog_118_method_1_code 31 = .ok (.dup, 1) := by decide +kernel
theorem d3_32 : decode prog_118_method_1_code 32 = .ok (.iload_n 1, 1) := by decide +kernel
theorem d3_33 : decode prog_118_method_1_code 33 = .ok (.invokespecial 25, 3) := by decide +kernel
theorem d3_36 : decode prog_118_method_1_code 36 = .ok (.aastore, 1) := by decide +kernel
theorem d3_37 : decode prog_118_method_1_code 37 = .ok (.putfield 28, 3) := by decide +kernel
theorem d3_40 : decode prog_118_method_1_code 40 = .ok (.return_, 1) := by decide +kernel
theorem d4_0 : decode prog_117_method_1_code 0 = .ok (.aload_n 0, 1) := by decide +kernel
theorem d4_1 : decode prog_117_method_1_code 1 = .ok (.invokespecial 3, 3) := by decide +kernel
theorem d4_4 : decode prog_117_method_1_code 4 = .ok (.aload_n 0, 1) := by decide +kernel
theorem d4_5 : decode prog_117_method_1_code 5 = .ok (.sipush 256, 3) := by decide +kernel
theorem d4_8 : decode prog_117_method_1_code 8 = .ok (.newarray .int, 2) := by decide +kernel
theorem d4_10 : decode prog_117_method_1_code 10 = .ok (.putfield 9, 3) := by decide +kernel
theorem d4_13 : decode prog_117_method_1_code 13 = .ok (.aload_n 0, 1) := by decide +kernel
theorem d4_14 : decode prog_117_method_1_code 14 = .ok (.iload_n 1, 1) := by decide +kernel
theorem d4_15 : decode prog_117_method_1_code 15 = .ok (.ifCond .eq 11, 3) := by decide +kernel
theorem d4_18 : decode prog_117_method_1_code 18 = .ok (.sipush 256, 3) := by decide +kernel
theorem d4_21 : decode prog_117_method_1_code 21 = .ok (.newarray .int, 2) := by decide +kernel
theorem d4_23 : decode prog_117_method_1_code 23 = .ok (.goto 4, 3) := by decide +kernel
theorem d4_26 : decode prog_117_method_1_code 26 = .ok (.aconst_null, 1) := by decide +kernel
theorem d4_27 : decode prog_117_method_1_code 27 = .ok (.putfield 15, 3) := by decide +kernel
theorem d4_30 : decode prog_117_method_1_code 30 = .ok (.aload_n 0, 1) := by decide +kernel
theorem d4_31 : decode prog_117_method_1_code 31 = .ok (.iload_n 1, 1) := by decide +kernel
theorem d4_32 : decode prog_117_method_1_code 32 = .ok (.ifCond .eq 12, 3) := by decide +kernel
theorem d4_35 : decode prog_117_method_1_code 35 = .ok (.sipush 256, 3) := by decide +kernel
theorem d4_38 : decode prog_117_method_1_code 38 = .ok (.anewarray 4, 3) := by decide +kernel
theorem d4_41 : decode prog_117_method_1_code 41 = .ok (.goto 4, 3) := by decide +kernel
theorem d4_44 : decode prog_117_method_1_code 44 = .ok (.aconst_null, 1) := by decide +kernel
theorem d4_45 : decode prog_117_method_1_code 45 = .ok (.putfield 18, 3) := by decide +kernel
theorem d4_48 : decode prog_117_method_1_code 48 = .ok (.return_, 1) := by decide +kernel
theorem d5_0 : decode jdk_33_method_22_code 0 = .ok (.iload_n 0, 1) := by decide +kernel
theorem d5_1 : decode jdk_33_method_22_code 1 = .ok (.bipush (-128), 2) := by decide +kernel
theorem d5_3 : decode jdk_33_method_22_code 3 = .ok (.if_icmp .lt 20, 3) := by decide +kernel
theorem d5_6 : decode jdk_33_method_22_code 6 = .ok (.iload_n 0, 1) := by decide +kernel
theorem d5_7 : decode jdk_33_method_22_code 7 = .ok (.getstatic 191, 3) := by decide +kernel
theorem d5_10 : decode jdk_33_method_22_code 10 = .ok (.if_icmp .gt 13, 3) := by decide +kernel
theorem d5_13 : decode jdk_33_method_22_code 13 = .ok (.getstatic 195, 3) := by decide +kernel
theorem d5_16 : decode jdk_33_method_22_code 16 = .ok (.iload_n 0, 1) := by decide +kernel
theorem d5_17 : decode jdk_33_method_22_code 17 = .ok (.sipush 128, 3) := by decide +kernel
theorem d5_20 : decode jdk_33_method_22_code 20 = .ok (.iadd, 1) := by decide +kernel
theorem d5_21 : decode jdk_33_method_22_code 21 = .ok (.aaload, 1) := by decide +kernel
theorem d5_22 : decode jdk_33_method_22_code 22 = .ok (.areturn, 1) := by decide +kernel
theorem d6_0 : decode prog_116_method_2_code 0 = .ok (.aload_n 0, 1) := by decide +kernel
theorem d6_1 : decode prog_116_method_2_code 1 = .ok (.getfield 12, 3) := by decide +kernel
theorem d6_4 : decode prog_116_method_2_code 4 = .ok (.iload_n 1, 1) := by decide +kernel
theorem d6_5 : decode prog_116_method_2_code 5 = .ok (.invokevirtual 21, 3) := by decide +kernel
theorem d6_8 : decode prog_116_method_2_code 8 = .ok (.lstore_n 2, 1) := by decide +kernel
theorem d6_9 : decode prog_116_method_2_code 9 = .ok (.lload_n 2, 1) := by decide +kernel
theorem d6_10 : decode prog_116_method_2_code 10 = .ok (.l2i, 1) := by decide +kernel
theorem d6_11 : decode prog_116_method_2_code 11 = .ok (.sipush 256, 3) := by decide +kernel
theorem d6_14 : decode prog_116_method_2_code 14 = .ok (.if_icmp .lt 28, 3) := by decide +kernel
theorem d6_17 : decode prog_116_method_2_code 17 = .ok (.aload_n 0, 1) := by decide +kernel
theorem d6_18 : decode prog_116_method_2_code 18 = .ok (.getfield 18, 3) := by decide +kernel
theorem d6_21 : decode prog_116_method_2_code 21 = .ok (.invokevirtual 25, 3) := by decide +kernel
theorem d6_24 : decode prog_116_method_2_code 24 = .ok (.ifCond .ne 18, 3) := by decide +kernel
theorem d6_42 : decode prog_116_method_2_code 42 = .ok (.lload_n 2, 1) := by decide +kernel
theorem d6_43 : decode prog_116_method_2_code 43 = .ok (.lreturn, 1) := by decide +kernel
theorem d7_0 : decode prog_118_method_2_code 0 = .ok (.aload_n 0, 1) := by decide +kernel
theorem d7_1 : decode prog_118_method_2_code 1 = .ok (.getfield 28, 3) := by decide +kernel
theorem d7_4 : decode prog_118_method_2_code 4 = .ok (.aload_n 0, 1) := by decide +kernel
theorem d7_5 : decode prog_118_method_2_code 5 = .ok (.getfield 15, 3) := by decide +kernel
theorem d7_8 : decode prog_118_method_2_code 8 = .ok (.iconst 1, 1) := by decide +kernel
theorem d7_9 : decode prog_118_method_2_code 9 = .ok (.isub, 1) := by decide +kernel
theorem d7_10 : decode prog_118_method_2_code 10 = .ok (.aaload, 1) := by decide +kernel
theorem d7_11 : decode prog_118_method_2_code 11 = .ok (.astore_n 2, 1) := by decide +kernel
theorem d7_12 : decode prog_118_method_2_code 12 = .ok (.aload_n 2, 1) := by decide +kernel
theorem d7_13 : decode prog_118_method_2_code 13 = .ok (.getfield 32, 3) := by decide +kernel
theorem d7_16 : decode prog_118_method_2_code 16 = .ok (.ifCond .eq 18, 3) := by decide +kernel
theorem d7_19 : decode prog_118_method_2_code 19 = .ok (.iload_n 1, 1) := by decide +kernel
theorem d7_20 : decode prog_118_method_2_code 20 = .ok (.aload_n 2, 1) := by decide +kernel
theorem d7_21 : decode prog_118_method_2_code 21 = .ok (.getfield 35, 3) := by decide +kernel
theorem d7_24 : decode prog_118_method_2_code 24 = .ok (.aload_n 2, 1) := by decide +kernel
theorem d7_25 : decode prog_118_method_2_code 25 = .ok (.getfield 32, 3) := by decide +kernel
theorem d7_28 : decode prog_118_method_2_code 28 = .ok (.iconst 1, 1) := by decide +kernel
theorem d7_29 : decode prog_118_method_2_code 29 = .ok (.isub, 1) := by decide +kernel
theorem d7_30 : decode prog_118_method_2_code 30 = .ok (.iaload, 1) := by decide +kernel
theorem d7_31 : decode prog_118_method_2_code 31 = .ok (.if_icmp .le 24, 3) := by decide +kernel
theorem d7_34 : decode prog_118_method_2_code 34 = .ok (.aload_n 0, 1) := by decide +kernel
theorem d7_35 : decode prog_118_method_2_code 35 = .ok (.getfield 15, 3) := by decide +kernel
theorem d7_38 : decode prog_118_method_2_code 38 = .ok (.iconst 1, 1) := by decide +kernel
theorem d7_39 : decode prog_118_method_2_code 39 = .ok (.isub, 1) := by decide +kernel
theorem d7_40 : decode prog_118_method_2_code 40 = .ok (.i2l, 1) := by decide +kernel
theorem d7_41 : decode prog_118_method_2_code 41 = .ok (.bipush 32, 2) := by decide +kernel
theorem d7_43 : decode prog_118_method_2_code 43 = .ok (.lshl, 1) := by decide +kernel
theorem d7_44 : decode prog_118_method_2_code 44 = .ok (.sipush 256, 3) := by decide +kernel
theorem d7_47 : decode prog_118_method_2_code 47 = .ok (.aload_n 2, 1) := by decide +kernel
theorem d7_48 : decode prog_118_method_2_code 48 = .ok (.getfield 32, 3) := by decide +kernel
theorem d7_51 : decode prog_118_method_2_code 51 = .ok (.iadd, 1) := by decide +kernel
theorem d7_52 : decode prog_118_method_2_code 52 = .ok (.i2l, 1) := by decide +kernel
theorem d7_53 : decode prog_118_method_2_code 53 = .ok (.lor, 1) := by decide +kernel
theorem d7_54 : decode prog_118_method_2_code 54 = .ok (.lreturn, 1) := by decide +kernel
theorem d7_55 : decode prog_118_method_2_code 55 = .ok (.aload_n 0, 1) := by decide +kernel
theorem d7_56 : decode prog_118_method_2_code 56 = .ok (.getfield 9, 3) := by decide +kernel
theorem d7_59 : decode prog_118_method_2_code 59 = .ok (.iconst 0, 1) := by decide +kernel
theorem d7_60 : decode prog_118_method_2_code 60 = .ok (.aload_n 0, 1) := by decide +kernel
theorem d7_61 : decode prog_118_method_2_code 61 = .ok (.getfield 15, 3) := by decide +kernel
theorem d7_64 : decode prog_118_method_2_code 64 = .ok (.iload_n 1, 1) := by decide +kernel
theorem d7_65 : decode prog_118_method_2_code 65 = .ok (.invokestatic 40, 3) := by decide +kernel
theorem d7_68 : decode prog_118_method_2_code 68 = .ok (.istore_n 3, 1) := by decide +kernel
theorem d7_69 : decode prog_118_method_2_code 69 = .ok (.iload_n 3, 1) := by decide +kernel
theorem d7_70 : decode prog_118_method_2_code 70 = .ok (.ifCond .ge 12, 3) := by decide +kernel
theorem d7_73 : decode prog_118_method_2_code 73 = .ok (.iconst 0, 1) := by decide +kernel
theorem d7_74 : decode prog_118_method_2_code 74 = .ok (.iload_n 3, 1) := by decide +kernel
theorem d7_75 : decode prog_118_method_2_code 75 = .ok (.ineg, 1) := by decide +kernel
theorem d7_76 : decode prog_118_method_2_code 76 = .ok (.iconst 2, 1) := by decide +kernel
theorem d7_77 : decode prog_118_method_2_code 77 = .ok (.isub, 1) := by decide +kernel
theorem d7_78 : decode prog_118_method_2_code 78 = .ok (.invokestatic 46, 3) := by decide +kernel
theorem d7_81 : decode prog_118_method_2_code 81 = .ok (.istore_n 3, 1) := by decide +kernel
theorem d7_82 : decode prog_118_method_2_code 82 = .ok (.aload_n 0, 1) := by decide +kernel
theorem d7_83 : decode prog_118_method_2_code 83 = .ok (.getfield 28, 3) := by decide +kernel
theorem d7_86 : decode prog_118_method_2_code 86 = .ok (.iload_n 3, 1) := by decide +kernel
theorem d7_87 : decode prog_118_method_2_code 87 = .ok (.aaload, 1) := by decide +kernel
theorem d7_88 : decode prog_118_method_2_code 88 = .ok (.astore 4, 2) := by decide +kernel
theorem d7_90 : decode prog_118_method_2_code 90 = .ok (.aload 4, 2) := by decide +kernel
theorem d7_92 : decode prog_118_method_2_code 92 = .ok (.getfield 35, 3) := by decide +kernel
theorem d7_95 : decode prog_118_method_2_code 95 = .ok (.iconst 0, 1) := by decide +kernel
theorem d7_96 : decode prog_118_method_2_code 96 = .ok (.aload 4, 2) := by decide +kernel
theorem d7_98 : decode prog_118_method_2_code 98 = .ok (.getfield 32, 3) := by decide +kernel
theorem d7_101 : decode prog_118_method_2_code 101 = .ok (.iload_n 1, 1) := by decide +kernel
theorem d7_102 : decode prog_118_method_2_code 102 = .ok (.invokestatic 40, 3) := by decide +kernel
theorem d7_105 : decode prog_118_method_2_code 105 = .ok (.istore 5, 2) := by decide +kernel
theorem d7_107 : decode prog_118_method_2_code 107 = .ok (.iload 5, 2) := by decide +kernel
theorem d7_109 : decode prog_118_method_2_code 109 = .ok (.ifCond .ge 14, 3) := by decide +kernel
theorem d7_112 : decode prog_118_method_2_code 112 = .ok (.sipush 256, 3) := by decide +kernel
theorem d7_115 : decode prog_118_method_2_code 115 = .ok (.iload 5, 2) := by decide +kernel
theorem d7_117 : decode prog_118_method_2_code 117 = .ok (.ineg, 1) := by decide +kernel
theorem d7_118 : decode prog_118_method_2_code 118 = .ok (.iconst 1, 1) := by decide +kernel
theorem d7_119 : decode prog_118_method_2_code 119 = .ok (.isub, 1) := by decide +kernel
theorem d7_120 : decode prog_118_method_2_code 120 = .ok (.iadd, 1) := by decide +kernel
theorem d7_121 : decode prog_118_method_2_code 121 = .ok (.istore 5, 2) := by decide +kernel
theorem d7_123 : decode prog_118_method_2_code 123 = .ok (.iload_n 3, 1) := by decide +kernel
theorem d7_124 : decode prog_118_method_2_code 124 = .ok (.i2l, 1) := by decide +kernel
theorem d7_125 : decode prog_118_method_2_code 125 = .ok (.bipush 32, 2) := by decide +kernel
theorem d7_127 : decode prog_118_method_2_code 127 = .ok (.lshl, 1) := by decide +kernel
theorem d7_128 : decode prog_118_method_2_code 128 = .ok (.iload 5, 2) := by decide +kernel
theorem d7_130 : decode prog_118_method_2_code 130 = .ok (.i2l, 1) := by decide +kernel
theorem d7_131 : decode prog_118_method_2_code 131 = .ok (.lor, 1) := by decide +kernel
theorem d7_132 : decode prog_118_method_2_code 132 = .ok (.lreturn, 1) := by decide +kernel
theorem d8_0 : decode prog_118_method_9_code 0 = .ok (.aload_n 0, 1) := by decide +kernel
theorem d8_1 : decode prog_118_method_9_code 1 = .ok (.getfield 28, 3) := by decide +kernel
theorem d8_4 : decode prog_118_method_9_code 4 = .ok (.iconst 0, 1) := by decide +kernel
theorem d8_5 : decode prog_118_method_9_code 5 = .ok (.aaload, 1) := by decide +kernel
theorem d8_6 : decode prog_118_method_9_code 6 = .ok (.getfield 32, 3) := by decide +kernel
theorem d8_9 : decode prog_118_method_9_code 9 = .ok (.ifCond .ne 7, 3) := by decide +kernel
theorem d8_12 : decode prog_118_method_9_code 12 = .ok (.iconst 1, 1) := by decide +kernel
theorem d8_13 : decode prog_118_method_9_code 13 = .ok (.goto 4, 3) := by decide +kernel
theorem d8_17 : decode prog_118_method_9_code 17 = .ok (.ireturn, 1) := by decide +kernel
theorem d9_0 : decode prog_116_method_9_code 0 = .ok (.aload 5, 2) := by decide +kernel
theorem d9_2 : decode prog_116_method_9_code 2 = .ok (.ifnull 29, 3) := by decide +kernel
theorem d9_5 : decode prog_116_method_9_code 5 = .ok (.aload_n 0, 1) := by decide +kernel
theorem d9_6 : decode prog_116_method_9_code 6 = .ok (.getfield 18, 3) := by decide +kernel
theorem d9_9 : decode prog_116_method_9_code 9 = .ok (.invokevirtual 25, 3) := by decide +kernel
theorem d9_12 : decode prog_116_method_9_code 12 = .ok (.ifCond .eq 19, 3) := by decide +kernel
theorem d9_15 : decode prog_116_method_9_code 15 = .ok (.aload_n 0, 1) := by decide +kernel
theorem d9_16 : decode prog_116_method_9_code 16 = .ok (.getfield 12, 3) := by decide +kernel
theorem d9_19 : decode prog_116_method_9_code 19 = .ok (.iload_n 3, 1) := by decide +kernel
theorem d9_20 : decode prog_116_method_9_code 20 = .ok (.iload 4, 2) := by decide +kernel
theorem d9_22 : decode prog_116_method_9_code 22 = .ok (.aload 5, 2) := by decide +kernel
theorem d9_24 : decode prog_116_method_9_code 24 = .ok (.invokevirtual 62, 3) := by decide +kernel
theorem d9_27 : decode prog_116_method_9_code 27 = .ok (.ifCond .eq 4, 3) := by decide +kernel
theorem d9_30 : decode prog_116_method_9_code 30 = .ok (.return_, 1) := by decide +kernel
theorem d9_31 : decode prog_116_method_9_code 31 = .ok (.aload_n 0, 1) := by decide +kernel
theorem d9_32 : decode prog_116_method_9_code 32 = .ok (.lload_n 1, 1) := by decide +kernel
theorem d9_33 : decode prog_116_method_9_code 33 = .ok (.iload_n 3, 1) := by decide +kernel
theorem d9_34 : decode prog_116_method_9_code 34 = .ok (.iload 4, 2) := by decide +kernel
theorem d9_36 : decode prog_116_method_9_code 36 = .ok (.aload 5, 2) := by decide +kernel
theorem d9_38 : decode prog_116_method_9_code 38 = .ok (.invokevirtual 66, 3) := by decide +kernel
theorem d9_41 : decode prog_116_method_9_code 41 = .ok (.return_, 1) := by decide +kernel
theorem d10_0 : decode prog_118_method_5_code 0 = .ok (.aload_n 0, 1) := by decide +kernel
theorem d10_1 : decode prog_118_method_5_code 1 = .ok (.getfield 28, 3) := by decide +kernel
theorem d10_4 : decode prog_118_method_5_code 4 = .ok (.aload_n 0, 1) := by decide +kernel
theorem d10_5 : decode prog_118_method_5_code 5 = .ok (.getfield 15, 3) := by decide +kernel
theorem d10_8 : decode prog_118_method_5_code 8 = .ok (.iconst 1, 1) := by decide +kernel
theorem d10_9 : decode prog_118_method_5_code 9 = .ok (.isub, 1) := by decide +kernel
theorem d10_10 : decode prog_118_method_5_code 10 = .ok (.aaload, 1) := by decide +kernel
theorem d10_11 : decode prog_118_method_5_code 11 = .ok (.astore 4, 2) := by decide +kernel
theorem d10_13 : decode prog_118_method_5_code 13 = .ok (.aload 4, 2) := by decide +kernel
theorem d10_15 : decode prog_118_method_5_code 15 = .ok (.getfield 32, 3) := by decide +kernel
theorem d10_18 : decode prog_118_method_5_code 18 = .ok (.istore 5, 2) := by decide +kernel
theorem d10_20 : decode prog_118_method_5_code 20 = .ok (.iload 5, 2) := by decide +kernel
theorem d10_22 : decode prog_118_method_5_code 22 = .ok (.ifCond .le 19, 3) := by decide +kernel
theorem d10_25 : decode prog_118_method_5_code 25 = .ok (.iload_n 1, 1) := by decide +kernel
theorem d10_26 : decode prog_118_method_5_code 26 = .ok (.aload 4, 2) := by decide +kernel
theorem d10_28 : decode prog_118_method_5_code 28 = .ok (.getfield 35, 3) := by decide +kernel
theorem d10_31 : decode prog_118_method_5_code 31 = .ok (.iload 5, 2) := by decide +kernel
theorem d10_33 : decode prog_118_method_5_code 33 = .ok (.iconst 1, 1) := by decide +kernel
theorem d10_34 : decode prog_118_method_5_code 34 = .ok (.isub, 1) := by decide +kernel
theorem d10_35 : decode prog_118_method_5_code 35 = .ok (.iaload, 1) := by decide +kernel
theorem d10_36 : decode prog_118_method_5_code 36 = .ok (.if_icmp .gt 5, 3) := by decide +kernel
theorem d10_39 : decode prog_118_method_5_code 39 = .ok (.iconst 0, 1) := by decide +kernel
theorem d10_40 : decode prog_118_method_5_code 40 = .ok (.ireturn, 1) := by decide +kernel
theorem d10_41 : decode prog_118_method_5_code 41 = .ok (.iload 5, 2) := by decide +kernel
theorem d10_43 : decode prog_118_method_5_code 43 = .ok (.sipush 256, 3) := by decide +kernel
theorem d10_46 : decode prog_118_method_5_code 46 = .ok (.if_icmp .ne 16, 3) := by decide +kernel
theorem d10_62 : decode prog_118_method_5_code 62 = .ok (.aload 4, 2) := by decide +kernel
theorem d10_64 : decode prog_118_method_5_code 64 = .ok (.getfield 35, 3) := by decide +kernel
theorem d10_67 : decode prog_118_method_5_code 67 = .ok (.iload 5, 2) := by decide +kernel
theorem d10_69 : decode prog_118_method_5_code 69 = .ok (.iload_n 1, 1) := by decide +kernel
theorem d10_70 : decode prog_118_method_5_code 70 = .ok (.iastore, 1) := by decide +kernel
theorem d10_71 : decode prog_118_method_5_code 71 = .ok (.aload_n 0, 1) := by decide +kernel
theorem d10_72 : decode prog_118_method_5_code 72 = .ok (.getfield 19, 3) := by decide +kernel
theorem d10_75 : decode prog_118_method_5_code 75 = .ok (.ifCond .eq 21, 3) := by decide +kernel
theorem d10_78 : decode prog_118_method_5_code 78 = .ok (.aload 4, 2) := by decide +kernel
theorem d10_80 : decode prog_118_method_5_code 80 = .ok (.getfield 56, 3) := by decide +kernel
theorem d10_83 : decode prog_118_method_5_code 83 = .ok (.iload 5, 2) := by decide +kernel
theorem d10_85 : decode prog_118_method_5_code 85 = .ok (.iload_n 2, 1) := by decide +kernel
theorem d10_86 : decode prog_118_method_5_code 86 = .ok (.iastore, 1) := by decide +kernel
theorem d10_87 : decode prog_118_method_5_code 87 = .ok (.aload 4, 2) := by decide +kernel
theorem d10_89 : decode prog_118_method_5_code 89 = .ok (.getfield 59, 3) := by decide +kernel
theorem d10_92 : decode prog_118_method_5_code 92 = .ok (.iload 5, 2) := by decide +kernel
theorem d10_94 : decode prog_118_method_5_code 94 = .ok (.aload_n 3, 1) := by decide +kernel
theorem d10_95 : decode prog_118_method_5_code 95 = .ok (.aastore, 1) := by decide +kernel
theorem d10_96 : decode prog_118_method_5_code 96 = .ok (.aload 4, 2) := by decide +kernel
theorem d10_98 : decode prog_118_method_5_code 98 = .ok (.iload 5, 2) := by decide +kernel
theorem d10_100 : decode prog_118_method_5_code 100 = .ok (.iconst 1, 1) := by decide +kernel
theorem d10_101 : decode prog_118_method_5_code 101 = .ok (.iadd, 1) := by decide +kernel
theorem d10_102 : decode prog_118_method_5_code 102 = .ok (.putfield 32, 3) := by decide +kernel
theorem d10_105 : decode prog_118_method_5_code 105 = .ok (.aload_n 0, 1) := by decide +kernel
theorem d10_106 : decode prog_118_method_5_code 106 = .ok (.getfield 9, 3) := by decide +kernel
theorem d10_109 : decode prog_118_method_5_code 109 = .ok (.aload_n 0, 1) := by decide +kernel
theorem d10_110 : decode prog_118_method_5_code 110 = .ok (.getfield 15, 3) := by decide +kernel
theorem d10_113 : decode prog_118_method_5_code 113 = .ok (.iconst 1, 1) := by decide +kernel
theorem d10_114 : decode prog_118_method_5_code 114 = .ok (.isub, 1) := by decide +kernel
theorem d10_115 : decode prog_118_method_5_code 115 = .ok (.aload 4, 2) := by decide +kernel
theorem d10_117 : decode prog_118_method_5_code 117 = .ok (.getfield 35, 3) := by decide +kernel
theorem d10_120 : decode prog_118_method_5_code 120 = .ok (.iconst 0, 1) := by decide +kernel
theorem d10_121 : decode prog_118_method_5_code 121 = .ok (.iaload, 1) := by decide +kernel
theorem d10_122 : decode prog_118_method_5_code 122 = .ok (.iastore, 1) := by decide +kernel
theorem d10_123 : decode prog_118_method_5_code 123 = .ok (.iconst 1, 1) := by decide +kernel
theorem d10_124 : decode prog_118_method_5_code 124 = .ok (.ireturn, 1) := by decide +kernel
theorem d11_0 : decode jdk_65_method_58_code 0 = .ok (.aload_n 0, 1) := by decide +kernel
theorem d11_1 : decode jdk_65_method_58_code 1 = .ok (.arraylength, 1) := by decide +kernel
theorem d11_2 : decode jdk_65_method_58_code 2 = .ok (.iload_n 1, 1) := by decide +kernel
theorem d11_3 : decode jdk_65_method_58_code 3 = .ok (.iload_n 2, 1) := by decide +kernel
theorem d11_4 : decode jdk_65_method_58_code 4 = .ok (.invokestatic 13, 3) := by decide +kernel
theorem d11_7 : decode jdk_65_method_58_code 7 = .ok (.aload_n 0, 1) := by decide +kernel
theorem d11_8 : decode jdk_65_method_58_code 8 = .ok (.iload_n 1, 1) := by decide +kernel
theorem d11_9 : decode jdk_65_method_58_code 9 = .ok (.iload_n 2, 1) := by decide +kernel
theorem d11_10 : decode jdk_65_method_58_code 10 = .ok (.iload_n 3, 1) := by decide +kernel
theorem d11_11 : decode jdk_65_method_58_code 11 = .ok (.invokestatic 209, 3) := by decide +kernel
theorem d11_14 : decode jdk_65_method_58_code 14 = .ok (.ireturn, 1) := by decide +kernel
theorem d12_0 : decode jdk_65_method_30_code 0 = .ok (.iload_n 1, 1) := by decide +kernel
theorem d12_1 : decode jdk_65_method_30_code 1 = .ok (.iload_n 2, 1) := by decide +kernel
theorem d12_2 : decode jdk_65_method_30_code 2 = .ok (.if_icmp .le 44, 3) := by decide +kernel
theorem d12_46 : decode jdk_65_method_30_code 46 = .ok (.iload_n 1, 1) := by decide +kernel
theorem d12_47 : decode jdk_65_method_30_code 47 = .ok (.ifCond .ge 12, 3) := by decide +kernel
theorem d12_59 : decode jdk_65_method_30_code 59 = .ok (.iload_n 2, 1) := by decide +kernel
theorem d12_60 : decode jdk_65_method_30_code 60 = .ok (.iload_n 0, 1) := by decide +kernel
theorem d12_61 : decode jdk_65_method_30_code 61 = .ok (.if_icmp .le 12, 3) := by decide +kernel
theorem d12_73 : decode jdk_65_method_30_code 73 = .ok (.return_, 1) := by decide +kernel
theorem d13_0 : decode jdk_65_method_59_code 0 = .ok (.iload_n 1, 1) := by decide +kernel
theorem d13_1 : decode jdk_65_method_59_code 1 = .ok (.istore 4, 2) := by decide +kernel
theorem d13_3 : decode jdk_65_method_59_code 3 = .ok (.iload_n 2, 1) := by decide +kernel
theorem d13_4 : decode jdk_65_method_59_code 4 = .ok (.iconst 1, 1) := by decide +kernel
theorem d13_5 : decode jdk_65_method_59_code 5 = .ok (.isub, 1) := by decide +kernel
theorem d13_6 : decode jdk_65_method_59_code 6 = .ok (.istore 5, 2) := by decide +kernel
theorem d13_8 : decode jdk_65_method_59_code 8 = .ok (.iload 4, 2) := by decide +kernel
theorem d13_10 : decode jdk_65_method_59_code 10 = .ok (.iload 5, 2) := by decide +kernel
theorem d13_12 : decode jdk_65_method_59_code 12 = .ok (.if_icmp .gt 54, 3) := by decide +kernel
theorem d13_15 : decode jdk_65_method_59_code 15 = .ok (.iload 4, 2) := by decide +kernel
theorem d13_17 : decode jdk_65_method_59_code 17 = .ok (.iload 5, 2) := by decide +kernel
theorem d13_19 : decode jdk_65_method_59_code 19 = .ok (.iadd, 1) := by decide +kernel
theorem d13_20 : decode jdk_65_method_59_code 20 = .ok (.iconst 1, 1) := by decide +kernel
theorem d13_21 : decode jdk_65_method_59_code 21 = .ok (.iushr, 1) := by decide +kernel
theorem d13_22 : decode jdk_65_method_59_code 22 = .ok (.istore 6, 2) := by decide +kernel
theorem d13_24 : decode jdk_65_method_59_code 24 = .ok (.aload_n 0, 1) := by decide +kernel
theorem d13_25 : decode jdk_65_method_59_code 25 = .ok (.iload 6, 2) := by decide +kernel
theorem d13_27 : decode jdk_65_method_59_code 27 = .ok (.iaload, 1) := by decide +kernel
theorem d13_28 : decode jdk_65_method_59_code 28 = .ok (.istore 7, 2) := by decide +kernel
theorem d13_30 : decode jdk_65_method_59_code 30 = .ok (.iload 7, 2) := by decide +kernel
theorem d13_32 : decode jdk_65_method_59_code 32 = .ok (.iload_n 3, 1) := by decide +kernel
theorem d13_33 : decode jdk_65_method_59_code 33 = .ok (.if_icmp .ge 12, 3) := by decide +kernel
theorem d13_36 : decode jdk_65_method_59_code 36 = .ok (.iload 6, 2) := by decide +kernel
theorem d13_38 : decode jdk_65_method_59_code 38 = .ok (.iconst 1, 1) := by decide +kernel
theorem d13_39 : decode jdk_65_method_59_code 39 = .ok (.iadd, 1) := by decide +kernel
theorem d13_40 : decode jdk_65_method_59_code 40 = .ok (.istore 4, 2) := by decide +kernel
theorem d13_42 : decode jdk_65_method_59_code 42 = .ok (.goto 21, 3) := by decide +kernel
theorem d13_45 : decode jdk_65_method_59_code 45 = .ok (.iload 7, 2) := by decide +kernel
theorem d13_47 : decode jdk_65_method_59_code 47 = .ok (.iload_n 3, 1) := by decide +kernel
theorem d13_48 : decode jdk_65_method_59_code 48 = .ok (.if_icmp .le 12, 3) := by decide +kernel
theorem d13_51 : decode jdk_65_method_59_code 51 = .ok (.iload 6, 2) := by decide +kernel
theorem d13_53 : decode jdk_65_method_59_code 53 = .ok (.iconst 1, 1) := by decide +kernel
theorem d13_54 : decode jdk_65_method_59_code 54 = .ok (.isub, 1) := by decide +kernel
theorem d13_55 : decode jdk_65_method_59_code 55 = .ok (.istore 5, 2) := by decide +kernel
theorem d13_57 : decode jdk_65_method_59_code 57 = .ok (.goto 6, 3) := by decide +kernel
theorem d13_63 : decode jdk_65_method_59_code 63 = .ok (.goto (-55), 3) := by decide +kernel
theorem d13_66 : decode jdk_65_method_59_code 66 = .ok (.iload 4, 2) := by decide +kernel
theorem d13_68 : decode jdk_65_method_59_code 68 = .ok (.iconst 1, 1) := by decide +kernel
theorem d13_69 : decode jdk_65_method_59_code 69 = .ok (.iadd, 1) := by decide +kernel
theorem d13_70 : decode jdk_65_method_59_code 70 = .ok (.ineg, 1) := by decide +kernel
theorem d13_71 : decode jdk_65_method_59_code 71 = .ok (.ireturn, 1) := by decide +kernel
theorem d14_0 : decode jdk_29_method_65_code 0 = .ok (.iload_n 0, 1) := by decide +kernel
theorem d14_1 : decode jdk_29_method_65_code 1 = .ok (.iload_n 1, 1) := by decide +kernel
theorem d14_2 : decode jdk_29_method_65_code 2 = .ok (.if_icmp .lt 7, 3) := by decide +kernel
theorem d14_5 : decode jdk_29_method_65_code 5 = .ok (.iload_n 0, 1) := by decide +kernel
theorem d14_6 : decode jdk_29_method_65_code 6 = .ok (.goto 4, 3) := by decide +kernel
theorem d14_10 : decode jdk_29_method_65_code 10 = .ok (.ireturn, 1) := by decide +kernel
theorem d15_0 : decode prog_116_method_10_code 0 = .ok (.aload_n 0, 1) := by decide +kernel
theorem d15_1 : decode prog_116_method_10_code 1 = .ok (.getfield 12, 3) := by decide +kernel
theorem d15_4 : decode prog_116_method_10_code 4 = .ok (.lload_n 1, 1) := by decide +kernel
theorem d15_5 : decode prog_116_method_10_code 5 = .ok (.iload_n 3, 1) := by decide +kernel
theorem d15_6 : decode prog_116_method_10_code 6 = .ok (.invokevirtual 70, 3) := by decide +kernel
theorem d15_9 : decode prog_116_method_10_code 9 = .ok (.ifCond .ne 12, 3) := by decide +kernel
theorem d15_21 : decode prog_116_method_10_code 21 = .ok (.lload_n 1, 1) := by decide +kernel
theorem d15_22 : decode prog_116_method_10_code 22 = .ok (.l2i, 1) := by decide +kernel
theorem d15_23 : decode prog_116_method_10_code 23 = .ok (.sipush 256, 3) := by decide +kernel
theorem d15_26 : decode prog_116_method_10_code 26 = .ok (.if_icmp .lt 28, 3) := by decide +kernel
theorem d15_29 : decode prog_116_method_10_code 29 = .ok (.aload_n 0, 1) := by decide +kernel
theorem d15_30 : decode prog_116_method_10_code 30 = .ok (.getfield 18, 3) := by decide +kernel
theorem d15_33 : decode prog_116_method_10_code 33 = .ok (.invokevirtual 25, 3) := by decide +kernel
theorem d15_36 : decode prog_116_method_10_code 36 = .ok (.ifCond .ne 32, 3) := by decide +kernel
theorem d15_68 : decode prog_116_method_10_code 68 = .ok (.aload 5, 2) := by decide +kernel
theorem d15_70 : decode prog_116_method_10_code 70 = .ok (.ifnonnull 24, 3) := by decide +kernel
theorem d15_94 : decode prog_116_method_10_code 94 = .ok (.aload_n 0, 1) := by decide +kernel
theorem d15_95 : decode prog_116_method_10_code 95 = .ok (.getfield 12, 3) := by decide +kernel
theorem d15_98 : decode prog_116_method_10_code 98 = .ok (.lload_n 1, 1) := by decide +kernel
theorem d15_99 : decode prog_116_method_10_code 99 = .ok (.iload_n 3, 1) := by decide +kernel
theorem d15_100 : decode prog_116_method_10_code 100 = .ok (.iload 4, 2) := by decide +kernel
theorem d15_102 : decode prog_116_method_10_code 102 = .ok (.aload 5, 2) := by decide +kernel
theorem d15_104 : decode prog_116_method_10_code 104 = .ok (.invokevirtual 83, 3) := by decide +kernel
theorem d15_107 : decode prog_116_method_10_code 107 = .ok (.return_, 1) := by decide +kernel
theorem d16_0 : decode prog_118_method_4_code 0 = .ok (.lload_n 1, 1) := by decide +kernel
theorem d16_1 : decode prog_118_method_4_code 1 = .ok (.bipush 32, 2) := by decide +kernel
theorem d16_3 : decode prog_118_method_4_code 3 = .ok (.lushr, 1) := by decide +kernel
theorem d16_4 : decode prog_118_method_4_code 4 = .ok (.l2i, 1) := by decide +kernel
theorem d16_5 : decode prog_118_method_4_code 5 = .ok (.istore 4, 2) := by decide +kernel
theorem d16_7 : decode prog_118_method_4_code 7 = .ok (.lload_n 1, 1) := by decide +kernel
theorem d16_8 : decode prog_118_method_4_code 8 = .ok (.l2i, 1) := by decide +kernel
theorem d16_9 : decode prog_118_method_4_code 9 = .ok (.sipush 256, 3) := by decide +kernel
theorem d16_12 : decode prog_118_method_4_code 12 = .ok (.isub, 1) := by decide +kernel
theorem d16_13 : decode prog_118_method_4_code 13 = .ok (.istore 5, 2) := by decide +kernel
theorem d16_15 : decode prog_118_method_4_code 15 = .ok (.iload 4, 2) := by decide +kernel
theorem d16_17 : decode prog_118_method_4_code 17 = .ok (.ifCond .lt 32, 3) := by decide +kernel
theorem d16_20 : decode prog_118_method_4_code 20 = .ok (.iload 4, 2) := by decide +kernel
theorem d16_22 : decode prog_118_method_4_code 22 = .ok (.aload_n 0, 1) := by decide +kernel
theorem d16_23 : decode prog_118_method_4_code 23 = .ok (.getfield 15, 3) := by decide +kernel
theorem d16_26 : decode prog_118_method_4_code 26 = .ok (.if_icmp .ge 23, 3) := by decide +kernel
theorem d16_29 : decode prog_118_method_4_code 29 = .ok (.iload 5, 2) := by decide +kernel
theorem d16_31 : decode prog_118_method_4_code 31 = .ok (.ifCond .lt 18, 3) := by decide +kernel
theorem d16_34 : decode prog_118_method_4_code 34 = .ok (.iload 5, 2) := by decide +kernel
theorem d16_36 : decode prog_118_method_4_code 36 = .ok (.aload_n 0, 1) := by decide +kernel
theorem d16_37 : decode prog_118_method_4_code 37 = .ok (.getfield 28, 3) := by decide +kernel
theorem d16_40 : decode prog_118_method_4_code 40 = .ok (.iload 4, 2) := by decide +kernel
theorem d16_42 : decode prog_118_method_4_code 42 = .ok (.aaload, 1) := by decide +kernel
theorem d16_43 : decode prog_118_method_4_code 43 = .ok (.getfield 32, 3) := by decide +kernel
theorem d16_46 : decode prog_118_method_4_code 46 = .ok (.if_icmp .le 5, 3) := by decide +kernel
theorem d16_51 : decode prog_118_method_4_code 51 = .ok (.aload_n 0, 1) := by decide +kernel
theorem d16_52 : decode prog_118_method_4_code 52 = .ok (.getfield 28, 3) := by decide +kernel
theorem d16_55 : decode prog_118_method_4_code 55 = .ok (.iload 4, 2) := by decide +kernel
theorem d16_57 : decode prog_118_method_4_code 57 = .ok (.aaload, 1) := by decide +kernel
theorem d16_58 : decode prog_118_method_4_code 58 = .ok (.astore 6, 2) := by decide +kernel
theorem d16_60 : decode prog_118_method_4_code 60 = .ok (.iload 5, 2) := by decide +kernel
theorem d16_62 : decode prog_118_method_4_code 62 = .ok (.ifCond .le 25, 3) := by decide +kernel
theorem d16_87 : decode prog_118_method_4_code 87 = .ok (.iload 4, 2) := by decide +kernel
theorem d16_89 : decode prog_118_method_4_code 89 = .ok (.ifCond .eq 34, 3) := by decide +kernel
theorem d16_123 : decode prog_118_method_4_code 123 = .ok (.iconst 1, 1) := by decide +kernel
theorem d16_124 : decode prog_118_method_4_code 124 = .ok (.goto 4, 3) := by decide +kernel
theorem d16_128 : decode prog_118_method_4_code 128 = .ok (.istore 7, 2) := by decide +kernel
theorem d16_130 : decode prog_118_method_4_code 130 = .ok (.iload 5, 2) := by decide +kernel
theorem d16_132 : decode prog_118_method_4_code 132 = .ok (.aload 6, 2) := by decide +kernel
theorem d16_134 : decode prog_118_method_4_code 134 = .ok (.getfield 32, 3) := by decide +kernel
theorem d16_137 : decode prog_118_method_4_code 137 = .ok (.if_icmp .ge 23, 3) := by decide +kernel
theorem d16_140 : decode prog_118_method_4_code 140 = .ok (.aload 6, 2) := by decide +kernel
theorem d16_142 : decode prog_118_method_4_code 142 = .ok (.getfield 35, 3) := by decide +kernel
theorem d16_145 : decode prog_118_method_4_code 145 = .ok (.iload 5, 2) := by decide +kernel
theorem d16_147 : decode prog_118_method_4_code 147 = .ok (.iaload, 1) := by decide +kernel
theorem d16_148 : decode prog_118_method_4_code 148 = .ok (.iload_n 3, 1) := by decide +kernel
theorem d16_149 : decode prog_118_method_4_code 149 = .ok (.if_icmp .le 7, 3) := by decide +kernel
theorem d16_152 : decode prog_118_method_4_code 152 = .ok (.iconst 1, 1) := by decide +kernel
theorem d16_153 : decode prog_118_method_4_code 153 = .ok (.goto 41, 3) := by decide +kernel
theorem d16_194 : decode prog_118_method_4_code 194 = .ok (.istore 8, 2) := by decide +kernel
theorem d16_196 : decode prog_118_method_4_code 196 = .ok (.iload 7, 2) := by decide +kernel
theorem d16_198 : decode prog_118_method_4_code 198 = .ok (.ifCond .eq 12, 3) := by decide +kernel
theorem d16_201 : decode prog_118_method_4_code 201 = .ok (.iload 8, 2) := by decide +kernel
theorem d16_203 : decode prog_118_method_4_code 203 = .ok (.ifCond .eq 7, 3) := by decide +kernel
theorem d16_206 : decode prog_118_method_4_code 206 = .ok (.iconst 1, 1) := by decide +kernel
theorem d16_207 : decode prog_118_method_4_code 207 = .ok (.goto 4, 3) := by decide +kernel
theorem d16_211 : decode prog_118_method_4_code 211 = .ok (.ireturn, 1) := by decide +kernel
theorem d17_0 : decode prog_118_method_6_code 0 = .ok (.lload_n 1, 1) := by decide +kernel
theorem d17_1 : decode prog_118_method_6_code 1 = .ok (.bipush 32, 2) := by decide +kernel
theorem d17_3 : decode prog_118_method_6_code 3 = .ok (.lushr, 1) := by decide +kernel
theorem d17_4 : decode prog_118_method_6_code 4 = .ok (.l2i, 1) := by decide +kernel
theorem d17_5 : decode prog_118_method_6_code 5 = .ok (.istore 6, 2) := by decide +kernel
theorem d17_7 : decode prog_118_method_6_code 7 = .ok (.lload_n 1, 1) := by decide +kernel
theorem d17_8 : decode prog_118_method_6_code 8 = .ok (.l2i, 1) := by decide +kernel
theorem d17_9 : decode prog_118_method_6_code 9 = .ok (.sipush 256, 3) := by decide +kernel
theorem d17_12 : decode prog_118_method_6_code 12 = .ok (.isub, 1) := by decide +kernel
theorem d17_13 : decode prog_118_method_6_code 13 = .ok (.istore 7, 2) := by decide +kernel
theorem d17_15 : decode prog_118_method_6_code 15 = .ok (.aload_n 0, 1) := by decide +kernel
theorem d17_16 : decode prog_118_method_6_code 16 = .ok (.getfield 28, 3) := by decide +kernel
theorem d17_19 : decode prog_118_method_6_code 19 = .ok (.iload 6, 2) := by decide +kernel
theorem d17_21 : decode prog_118_method_6_code 21 = .ok (.aaload, 1) := by decide +kernel
theorem d17_22 : decode prog_118_method_6_code 22 = .ok (.astore 8, 2) := by decide +kernel
theorem d17_24 : decode prog_118_method_6_code 24 = .ok (.aload 8, 2) := by decide +kernel
theorem d17_26 : decode prog_118_method_6_code 26 = .ok (.getfield 32, 3) := by decide +kernel
theorem d17_29 : decode prog_118_method_6_code 29 = .ok (.sipush 256, 3) := by decide +kernel
theorem d17_32 : decode prog_118_method_6_code 32 = .ok (.if_icmp .ne 70, 3) := by decide +kernel
theorem d17_102 : decode prog_118_method_6_code 102 = .ok (.aload 8, 2) := by decide +kernel
theorem d17_104 : decode prog_118_method_6_code 104 = .ok (.getfield 32, 3) := by decide +kernel
theorem d17_107 : decode prog_118_method_6_code 107 = .ok (.iload 7, 2) := by decide +kernel
theorem d17_109 : decode prog_118_method_6_code 109 = .ok (.isub, 1) := by decide +kernel
theorem d17_110 : decode prog_118_method_6_code 110 = .ok (.istore 9, 2) := by decide +kernel
theorem d17_112 : decode prog_118_method_6_code 112 = .ok (.aload 8, 2) := by decide +kernel
theorem d17_114 : decode prog_118_method_6_code 114 = .ok (.getfield 35, 3) := by decide +kernel
theorem d17_117 : decode prog_118_method_6_code 117 = .ok (.iload 7, 2) := by decide +kernel
theorem d17_119 : decode prog_118_method_6_code 119 = .ok (.aload 8, 2) := by decide +kernel
theorem d17_121 : decode prog_118_method_6_code 121 = .ok (.getfield 35, 3) := by decide +kernel
theorem d17_124 : decode prog_118_method_6_code 124 = .ok (.iload 7, 2) := by decide +kernel
theorem d17_126 : decode prog_118_method_6_code 126 = .ok (.iconst 1, 1) := by decide +kernel
theorem d17_127 : decode prog_118_method_6_code 127 = .ok (.iadd, 1) := by decide +kernel
theorem d17_128 : decode prog_118_method_6_code 128 = .ok (.iload 9, 2) := by decide +kernel
theorem d17_130 : decode prog_118_method_6_code 130 = .ok (.invokestatic 67, 3) := by decide +kernel
theorem d17_133 : decode prog_118_method_6_code 133 = .ok (.aload 8, 2) := by decide +kernel
theorem d17_135 : decode prog_118_method_6_code 135 = .ok (.getfield 35, 3) := by decide +kernel
theorem d17_138 : decode prog_118_method_6_code 138 = .ok (.iload 7, 2) := by decide +kernel
theorem d17_140 : decode prog_118_method_6_code 140 = .ok (.iload_n 3, 1) := by decide +kernel
theorem d17_141 : decode prog_118_method_6_code 141 = .ok (.iastore, 1) := by decide +kernel
theorem d17_142 : decode prog_118_method_6_code 142 = .ok (.aload_n 0, 1) := by decide +kernel
theorem d17_143 : decode prog_118_method_6_code 143 = .ok (.getfield 19, 3) := by decide +kernel
theorem d17_146 : decode prog_118_method_6_code 146 = .ok (.ifCond .eq 65, 3) := by decide +kernel
theorem d17_149 : decode prog_118_method_6_code 149 = .ok (.aload 8, 2) := by decide +kernel
theorem d17_151 : decode prog_118_method_6_code 151 = .ok (.getfield 56, 3) := by decide +kernel
theorem d17_154 : decode prog_118_method_6_code 154 = .ok (.iload 7, 2) := by decide +kernel
theorem d17_156 : decode prog_118_method_6_code 156 = .ok (.aload 8, 2) := by decide +kernel
theorem d17_158 : decode prog_118_method_6_code 158 = .ok (.getfield 56, 3) := by decide +kernel
theorem d17_161 : decode prog_118_method_6_code 161 = .ok (.iload 7, 2) := by decide +kernel
theorem d17_163 : decode prog_118_method_6_code 163 = .ok (.iconst 1, 1) := by decide +kernel
theorem d17_164 : decode prog_118_method_6_code 164 = .ok (.iadd, 1) := by decide +kernel
theorem d17_165 : decode prog_118_method_6_code 165 = .ok (.iload 9, 2) := by decide +kernel
theorem d17_167 : decode prog_118_method_6_code 167 = .ok (.invokestatic 67, 3) := by decide +kernel
theorem d17_170 : decode prog_118_method_6_code 170 = .ok (.aload 8, 2) := by decide +kernel
theorem d17_172 : decode prog_118_method_6_code 172 = .ok (.getfield 59, 3) := by decide +kernel
theorem d17_175 : decode prog_118_method_6_code 175 = .ok (.iload 7, 2) := by decide +kernel
theorem d17_177 : decode prog_118_method_6_code 177 = .ok (.aload 8, 2) := by decide +kernel
theorem d17_179 : decode prog_118_method_6_code 179 = .ok (.getfield 59, 3) := by decide +kernel
theorem d17_182 : decode prog_118_method_6_code 182 = .ok (.iload 7, 2) := by decide +kernel
theorem d17_184 : decode prog_118_method_6_code 184 = .ok (.iconst 1, 1) := by decide +kernel
theorem d17_185 : decode prog_118_method_6_code 185 = .ok (.iadd, 1) := by decide +kernel
theorem d17_186 : decode prog_118_method_6_code 186 = .ok (.iload 9, 2) := by decide +kernel
theorem d17_188 : decode prog_118_method_6_code 188 = .ok (.invokestatic 67, 3) := by decide +kernel
theorem d17_191 : decode prog_118_method_6_code 191 = .ok (.aload 8, 2) := by decide +kernel
theorem d17_193 : decode prog_118_method_6_code 193 = .ok (.getfield 56, 3) := by decide +kernel
theorem d17_196 : decode prog_118_method_6_code 196 = .ok (.iload 7, 2) := by decide +kernel
theorem d17_198 : decode prog_118_method_6_code 198 = .ok (.iload 4, 2) := by decide +kernel
theorem d17_200 : decode prog_118_method_6_code 200 = .ok (.iastore, 1) := by decide +kernel
theorem d17_201 : decode prog_118_method_6_code 201 = .ok (.aload 8, 2) := by decide +kernel
theorem d17_203 : decode prog_118_method_6_code 203 = .ok (.getfield 59, 3) := by decide +kernel
theorem d17_206 : decode prog_118_method_6_code 206 = .ok (.iload 7, 2) := by decide +kernel
theorem d17_208 : decode prog_118_method_6_code 208 = .ok (.aload 5, 2) := by decide +kernel
theorem d17_210 : decode prog_118_method_6_code 210 = .ok (.aastore, 1) := by decide +kernel
theorem d17_211 : decode prog_118_method_6_code 211 = .ok (.aload 8, 2) := by decide +kernel
theorem d17_213 : decode prog_118_method_6_code 213 = .ok (.dup, 1) := by decide +kernel
theorem d17_214 : decode prog_118_method_6_code 214 = .ok (.getfield 32, 3) := by decide +kernel
theorem d17_217 : decode prog_118_method_6_code 217 = .ok (.iconst 1, 1) := by decide +kernel
theorem d17_218 : decode prog_118_method_6_code 218 = .ok (.iadd, 1) := by decide +kernel
theorem d17_219 : decode prog_118_method_6_code 219 = .ok (.putfield 32, 3) := by decide +kernel
theorem d17_222 : decode prog_118_method_6_code 222 = .ok (.aload_n 0, 1) := by decide +kernel
theorem d17_223 : decode prog_118_method_6_code 223 = .ok (.getfield 9, 3) := by decide +kernel
theorem d17_226 : decode prog_118_method_6_code 226 = .ok (.iload 6, 2) := by decide +kernel
theorem d17_228 : decode prog_118_method_6_code 228 = .ok (.aload 8, 2) := by decide +kernel
theorem d17_230 : decode prog_118_method_6_code 230 = .ok (.getfield 35, 3) := by decide +kernel
theorem d17_233 : decode prog_118_method_6_code 233 = .ok (.iconst 0, 1) := by decide +kernel
theorem d17_234 : decode prog_118_method_6_code 234 = .ok (.iaload, 1) := by decide +kernel
theorem d17_235 : decode prog_118_method_6_code 235 = .ok (.iastore, 1) := by decide +kernel
theorem d17_236 : decode prog_118_method_6_code 236 = .ok (.return_, 1) := by decide +kernel
theorem d18_0 : decode prog_116_method_7_code 0 = .ok (.lload_n 1, 1) := by decide +kernel
theorem d18_1 : decode prog_116_method_7_code 1 = .ok (.bipush 32, 2) := by decide +kernel
theorem d18_3 : decode prog_116_method_7_code 3 = .ok (.lushr, 1) := by decide +kernel
theorem d18_4 : decode prog_116_method_7_code 4 = .ok (.l2i, 1) := by decide +kernel
theorem d18_5 : decode prog_116_method_7_code 5 = .ok (.istore 4, 2) := by decide +kernel
theorem d18_7 : decode prog_116_method_7_code 7 = .ok (.lload_n 1, 1) := by decide +kernel
theorem d18_8 : decode prog_116_method_7_code 8 = .ok (.l2i, 1) := by decide +kernel
theorem d18_9 : decode prog_116_method_7_code 9 = .ok (.sipush 256, 3) := by decide +kernel
theorem d18_12 : decode prog_116_method_7_code 12 = .ok (.isub, 1) := by decide +kernel
theorem d18_13 : decode prog_116_method_7_code 13 = .ok (.istore 5, 2) := by decide +kernel
theorem d18_15 : decode prog_116_method_7_code 15 = .ok (.iload 5, 2) := by decide +kernel
theorem d18_17 : decode prog_116_method_7_code 17 = .ok (.ifCond .ne 28, 3) := by decide +kernel
theorem d18_20 : decode prog_116_method_7_code 20 = .ok (.iload 4, 2) := by decide +kernel
theorem d18_22 : decode prog_116_method_7_code 22 = .ok (.ifCond .ne 5, 3) := by decide +kernel
theorem d18_25 : decode prog_116_method_7_code 25 = .ok (.iconst (-1), 1) := by decide +kernel
theorem d18_26 : decode prog_116_method_7_code 26 = .ok (.ireturn, 1) := by decide +kernel
theorem d18_45 : decode prog_116_method_7_code 45 = .ok (.aload_n 0, 1) := by decide +kernel
theorem d18_46 : decode prog_116_method_7_code 46 = .ok (.getfield 12, 3) := by decide +kernel
theorem d18_49 : decode prog_116_method_7_code 49 = .ok (.getfield 50, 3) := by decide +kernel
theorem d18_52 : decode prog_116_method_7_code 52 = .ok (.iload 4, 2) := by decide +kernel
theorem d18_54 : decode prog_116_method_7_code 54 = .ok (.aaload, 1) := by decide +kernel
theorem d18_55 : decode prog_116_method_7_code 55 = .ok (.astore 6, 2) := by decide +kernel
theorem d18_57 : decode prog_116_method_7_code 57 = .ok (.aload 6, 2) := by decide +kernel
theorem d18_59 : decode prog_116_method_7_code 59 = .ok (.getfield 42, 3) := by decide +kernel
theorem d18_62 : decode prog_116_method_7_code 62 = .ok (.iload 5, 2) := by decide +kernel
theorem d18_64 : decode prog_116_method_7_code 64 = .ok (.iconst 1, 1) := by decide +kernel
theorem d18_65 : decode prog_116_method_7_code 65 = .ok (.isub, 1) := by decide +kernel
theorem d18_66 : decode prog_116_method_7_code 66 = .ok (.iaload, 1) := by decide +kernel
theorem d18_67 : decode prog_116_method_7_code 67 = .ok (.iload_n 3, 1) := by decide +kernel
theorem d18_68 : decode prog_116_method_7_code 68 = .ok (.if_icmp .le 16, 3) := by decide +kernel
theorem d18_71 : decode prog_116_method_7_code 71 = .ok (.aload 6, 2) := by decide +kernel
theorem d18_73 : decode prog_116_method_7_code 73 = .ok (.getfield 59, 3) := by decide +kernel
theorem d18_76 : decode prog_116_method_7_code 76 = .ok (.iload 5, 2) := by decide +kernel
theorem d18_78 : decode prog_116_method_7_code 78 = .ok (.iconst 1, 1) := by decide +kernel
theorem d18_79 : decode prog_116_method_7_code 79 = .ok (.isub, 1) := by decide +kernel
theorem d18_80 : decode prog_116_method_7_code 80 = .ok (.iaload, 1) := by decide +kernel
theorem d18_81 : decode prog_116_method_7_code 81 = .ok (.goto 4, 3) := by decide +kernel
theorem d18_84 : decode prog_116_method_7_code 84 = .ok (.iconst (-1), 1) := by decide +kernel
theorem d18_85 : decode prog_116_method_7_code 85 = .ok (.ireturn, 1) := by decide +kernel
theorem pn_0 : plainName "com/example/theuth/theuth/io/Followed$Chunk" = true := by first | (simp [plainName, overriddenIn]; done) | decide +kernel
theorem pn_1 : plainName "com/example/theuth/theuth/io/Followed$Offsets" = true := by first | (simp [plainName, overriddenIn]; done) | decide +kernel
theorem pd_2 : parseMethodDescriptor "(Z)V" = some ⟨[.boolean], none⟩ := by decide +kernel
theorem pn_3 : plainName "com/example/theuth/theuth/io/Followed" = true := by first | (simp [plainName, overriddenIn]; done) | decide +kernel
theorem pn_4 : plainName "java/lang/Integer" = true := by first | (simp [plainName, overriddenIn]; done) | decide +kernel
theorem pd_5 : parseMethodDescriptor "(I)J" = some ⟨[.int], some .long⟩ := by decide +kernel
theorem pd_6 : parseMethodDescriptor "()Z" = some ⟨[], some .boolean⟩ := by decide +kernel
theorem pn_7 : plainName "java/util/Arrays" = true := by first | (simp [plainName, overriddenIn]; done) | decide +kernel
theorem pd_8 : parseMethodDescriptor "(III)V" = some ⟨[.int, .int, .int], none⟩ := by decide +kernel
theorem pd_9 : parseMethodDescriptor "([IIII)I" = some ⟨[(.array .int), .int, .int, .int], some .int⟩ := by decide +kernel
theorem pd_10 : parseMethodDescriptor "(II)I" = some ⟨[.int, .int], some .int⟩ := by decide +kernel
theorem pd_11 : parseMethodDescriptor "(IILjava/lang/Object;)Z" = some ⟨[.int, .int, (.object "java/lang/Object")], some .boolean⟩ := by decide +kernel
theorem pd_12 : parseMethodDescriptor "(JI)Z" = some ⟨[.long, .int], some .boolean⟩ := by decide +kernel
theorem pd_13 : parseMethodDescriptor "(JIILjava/lang/Object;)V" = some ⟨[.long, .int, .int, (.object "java/lang/Object")], none⟩ := by decide +kernel
theorem pn_14 : plainName "com/example/theuth/theuth/io/FollowedContainingPinLaw" = true := by first | (simp [plainName, overriddenIn]; done) | decide +kernel
theorem pd_15 : parseMethodDescriptor "()V" = some ⟨[], none⟩ := by decide +kernel
theorem pd_16 : parseMethodDescriptor "(I)Ljava/lang/Integer;" = some ⟨[.int], some (.object "java/lang/Integer")⟩ := by decide +kernel
theorem pd_17 : parseMethodDescriptor "(JI)I" = some ⟨[.long, .int], some .int⟩ := by decide +kernel
def own_b (P : Prop) [Decidable P] : Int32 := if P then 1 else 0
theorem own_bt {P : Prop} [Decidable P] (h : P) : ¬ own_b P = 0 := by simp [own_b, h]
theorem own_bf {P : Prop} [Decidable P] (h : ¬ own_b P = 0) : P := by
  by_cases g : P
  · exact g
  · exact absurd (by simp [own_b, g]) h
def own_ct (q e x : Int32) : Int32 := if q < e then x else -1
def own_q (p0 p4 p5 : Int32) : Int64 := if (p5 &&& (4 : Int32)) = 0 then ((p0.toInt64 - (16 : Int64)) + ((p4 &&& (1023 : Int32)).toInt64)) else p4.toInt64
theorem own_asym {x y : Int32} (h : x < y) : ¬ y < x := by
  rw [Int32.lt_iff_toInt_lt] at h ⊢
  omega
theorem own_n3 {p n : Int32} (e : n = (p &&& (3 : Int32))) : n = 0 ∨ n = 1 ∨ n = 2 ∨ n = 3 := by
  have h1 := c_mask p 3 2 (by decide) (by decide)
  rw [← e] at h1
  simp only [← Int32.toInt_inj]
  have z0 : (0 : Int32).toInt = 0 := rfl
  have z1 : (1 : Int32).toInt = 1 := rfl
  have z2 : (2 : Int32).toInt = 2 := rfl
  have z3 : (3 : Int32).toInt = 3 := rfl
  omega
theorem own_ord {p0 p1 p2 p3 sA eA sB eB : Int32} {eL1 sL2 eL2 : Int64} (h1 : eL1 = ((p0.toInt64 + (1 : Int64)) + ((p1 &&& (255 : Int32)).toInt64))) (h2 : sL2 = (eL1 + ((p2 &&& (255 : Int32)).toInt64))) (h3 : eL2 = ((sL2 + (1 : Int64)) + ((p3 &&& (255 : Int32)).toInt64))) (hov : ¬ (0 : Int32) < (lcmpW eL2 (2147483647 : Int64)))
    (e1 : sA = (p0.toInt64).toInt32) (e2 : eA = eL1.toInt32) (e3 : sB = sL2.toInt32) (e4 : eB = eL2.toInt32) : sA.toInt < eA.toInt ∧ eA.toInt ≤ sB.toInt ∧ sB.toInt < eB.toInt := by
  have ho : ¬ (2147483647 : Int64) < eL2 := fun q => hov ((lw_gt _ _).mpr q)
  rw [Int64.lt_iff_toInt_lt] at ho
  have zz : (2147483647 : Int64).toInt = 2147483647 := rfl
  have z1 : (1 : Int64).toInt = 1 := rfl
  have r0 := rng32 p0
  have i0 := c_i2l p0
  have m1 := c_mask p1 255 8 (by decide) (by decide)
  have m2 := c_mask p2 255 8 (by decide) (by decide)
  have m3 := c_mask p3 255 8 (by decide) (by decide)
  have j1 := c_i2l (p1 &&& (255 : Int32))
  have j2 := c_i2l (p2 &&& (255 : Int32))
  have j3 := c_i2l (p3 &&& (255 : Int32))
  have a1 := c_ladd p0.toInt64 1
  have b1 := rng64 (p0.toInt64 + 1)
  have a2 := c_ladd (p0.toInt64 + 1) ((p1 &&& (255 : Int32)).toInt64)
  rw [← h1] at a2
  have b2 := rng64 eL1
  have a3 := c_ladd eL1 ((p2 &&& (255 : Int32)).toInt64)
  rw [← h2] at a3
  have b3 := rng64 sL2
  have a4 := c_ladd sL2 1
  have b4 := rng64 (sL2 + 1)
  have a5 := c_ladd (sL2 + 1) ((p3 &&& (255 : Int32)).toInt64)
  rw [← h3] at a5
  have b5 := rng64 eL2
  have l1 := c_l2i p0.toInt64
  have l2 := c_l2i eL1
  have l3 := c_l2i sL2
  have l4 := c_l2i eL2
  rw [← e1] at l1
  rw [← e2] at l2
  rw [← e3] at l3
  rw [← e4] at l4
  have t1 := rng32 sA
  have t2 := rng32 eA
  have t3 := rng32 sB
  have t4 := rng32 eB
  omega
theorem own_lt {sA eA sB eB : Int32} (h : sA.toInt < eA.toInt ∧ eA.toInt ≤ sB.toInt ∧ sB.toInt < eB.toInt) : sA < sB := by
  rw [Int32.lt_iff_toInt_lt]
  omega
theorem own_past {sA eA sB eB q : Int32} (h : sA.toInt < eA.toInt ∧ eA.toInt ≤ sB.toInt ∧ sB.toInt < eB.toInt) (g : sB < q) : ¬ q < eA := by
  rw [Int32.lt_iff_toInt_lt] at g ⊢
  omega
theorem own_tri1 {q x : Int32} (h : ¬ q = x) : q < x ∨ x < q := by
  rw [← Int32.toInt_inj] at h
  simp only [Int32.lt_iff_toInt_lt]
  omega
theorem own_tri2 {q x y : Int32} (h : ¬ q = x) (g : ¬ q = y) (k : x < y) : (q < x ∧ q < y) ∨ (x < q ∧ q < y) ∨ (x < q ∧ y < q) := by
  rw [← Int32.toInt_inj] at h g
  simp only [Int32.lt_iff_toInt_lt] at k ⊢
  omega
theorem own_len {args : Array Value} {Z : State} {t : Term} {x : Addr} {cl : Cell} {ty : FieldType} {v : Int32} (ht : t.eval args Z none [] Z = some (.ref x)) (ha : Arr Z Z.heap x cl ty) (h : (Term.length t).eval args Z none [] Z = some (.int v)) : cl.slots.size < 2 ^ 31 ∧ cl.slots.size.toInt32 = v := by
  have q := ha.fin (Vm.Alike.refl _)
  simpa [Term.eval, ht, q] using h
theorem own_arv {Z : State} {a : Addr} {cl : Cell} {ty : FieldType} {z : Int32} {dv : Value} (hf : Fit Z) (A : Arr Z Z.heap a cl ty) (q : cl.slots.size < 2 ^ 31) (e : cl.slots.size.toInt32 = z) (hz : ¬ z < 0) : Arv Z Z.heap a cl.cls ty z cl.slots.toList dv := by
  refine Arv.start hf A q e hz ?_ ?_
  · rw [← e, Array.length_toList, Int32.toNatClampNeg, len_toInt q]
    simp
  · have g : ∀ (l : List Value) (i : Nat), (∀ j, j < l.length → cl.slots[i + j]? = l[j]?) → HasL cl i l := by
      intro l
      induction l with
      | nil => intro i _; trivial
      | cons v r ih =>
        intro i h
        refine ⟨by simpa using h 0 (by simp), ih (i + 1) (fun j hj => ?_)⟩
        have := h (j + 1) (by simpa using hj)
        rw [show i + 1 + j = i + (j + 1) from by omega]
        simpa using this
    refine g _ 0 (fun j hj => ?_)
    simp
theorem own_box {args : Array Value} {Z : State} {t : Term} {a : Addr} {c : Cell} {K : String} {B : Jvm.Cond} (et : ∀ idx, t.eval args Z none idx Z = some (.ref a)) (A : Arr Z Z.heap a c (.object K)) (n : c.slots.size.toInt32 = 256) (q : c.slots.size < 2 ^ 31) (h : (Jvm.Cond.all t (.and (.exactly (.elem t (.index 0)) K) B)).value args Z none Z [] = some true) : ∃ b, c.slots.toList.getD (129 : Int32).toNatClampNeg .null = .ref b ∧ Exa Z Z.heap b K := by
  have hs : c.slots.size = 256 := by
    have e := len_toInt q
    rw [n] at e
    have z : (256 : Int32).toInt = 256 := rfl
    omega
  obtain ⟨u1, u2⟩ := and_e (Cond.all_elim (et []) (A.fin (Vm.Alike.refl _)) h (129 : Int32).toNatClampNeg (by rw [hs]; decide))
  obtain ⟨box, eb⟩ := exa_v u1
  have g := (elem_f (et _) (idx_at (j := (129 : Int32)) (by decide)) (A.fin (Vm.Alike.refl _)) (by decide)).symm.trans eb
  refine ⟨box, ?_, exa_at eb u1⟩
  rw [List.getD_eq_getElem?_getD, Array.getElem?_toList, g]
  rfl

abbrev sN0 : String := "com/example/theuth/theuth/io/Followed$Offsets"
abbrev sN1 : String := "com/example/theuth/theuth/io/Followed$Chunk"
abbrev sN2 : String := "com/example/theuth/theuth/io/Followed"
abbrev sN3 : String := "[Lcom/example/theuth/theuth/io/Followed$Chunk;"
abbrev sN4 : String := "Lcom/example/theuth/theuth/io/Followed$Offsets;"
abbrev sN5 : String := "(JIILjava/lang/Object;)V"
abbrev sN6 : String := "(IILjava/lang/Object;)Z"
theorem ef_rmChunk1 (m : MethodId) (x0 : Addr) (x1 : Int32) : entryFrame m #[(.ref x0), (.int x1)] 2 = mkF m 0 #[rv x0, iv x1] [] := by first | (simp [entryFrame, mkF, argsToLocals, Value.category]; done) | rfl
def Q_rmChunk1 (Z : State) (a1 : Addr) (u1 : Value) (u2 : Value) (u3 : Value) (h0 : Heap) (n0 : Nat) (v : Option Value) (h : Heap) (L : List Loc) : Prop := ∃ sa : Addr, ∃ kst : ClassId, ∃ en : Addr, ∃ ken : ClassId, ∃ it : Addr, ∃ kit : ClassId, v = none ∧ Fr n0 L ∧ Keep h0 h [a1] ∧ (Fld Z h a1 sN1 "starts" "[I" (.ref sa)) ∧ (Fld Z h a1 sN1 "ends" "[I" (.ref en)) ∧ (Fld Z h a1 sN1 "items" "[Ljava/lang/Object;" (.ref it)) ∧ (Fld Z h a1 sN1 "size" "I" (.int (0 : Int32))) ∧ (Arv Z h sa kst .int (256 : Int32) [(.int (0 : Int32)), (.int (0 : Int32)), (.int (0 : Int32))] (.int (0 : Int32))) ∧ (h0.size ≤ sa) ∧ (Arv Z h en ken .int (256 : Int32) [(.int (0 : Int32)), (.int (0 : Int32)), (.int (0 : Int32))] (.int (0 : Int32))) ∧ (Arv Z h it kit (.object "java/lang/Object") (256 : Int32) [.null, .null, .null] .null) ∧ (h0.size ≤ en) ∧ (h0.size ≤ it) ∧ (sa ≠ en) ∧ (sa ≠ it) ∧ (en ≠ it) ∧ (Ovr Z kit "java/lang/Object")
set_option maxRecDepth 65536 in
set_option maxHeartbeats 40000000 in
theorem rmChunk1 (l : Launch) (Z : State) (a0 : Array Value) (hw : ∀ d ∈ tables_1, d.before a0 Z = true) (ws : List Jvm.Cond) (a1 : Addr) (u1 : Value) (u2 : Value) (u3 : Value) (h0 : Heap) (n0 : Nat) (Z0 : n0 ≤ h0.size) (E_a1 : Exa Z h0 a1 sN1) (F_starts_a1 : Fld Z h0 a1 sN1 "starts" "[I" u1) (F_ends_a1 : Fld Z h0 a1 sN1 "ends" "[I" u2) (F_items_a1 : Fld Z h0 a1 sN1 "items" "[Ljava/lang/Object;" u3) (F_size_a1 : Fld Z h0 a1 sN1 "size" "I" (.int (0 : Int32))) (g_a1 : n0 ≤ a1) :
    own_M l (⟨sN1, "<init>", "(Z)V"⟩ : MethodName) (Jvm.Cond.code (⟨sN1, "<init>", "(Z)V"⟩ : MethodName) prog_117_method_1_code 2 none :: ws) ({ frames := 1, cells := 3, slots := 768, locals := 12 } : Room) #[(.ref a1), (.int (1 : Int32))] Z h0 (Q_rmChunk1 Z a1 u1 u2 u3 h0 n0) := by
  refine MetFree.of_bodySF (plainFor_of_name pn_0) hisR ?_
  intro p e s m args below meth c s₁ Bd hml0 hP hK
  obtain ⟨rfl, hZ, hh⟩ := hP
  have hx := Bd.exec
  have hby := Bd.bytes
  have hml : c.maxLocals = 2 := hml0
  have hown : s.vm.findClass sN1 = some m.cls := findClass_of_methodNamed Bd.named
  have hnm := (name_of_methodNamed Bd.named Bd.method).1
  have X0 : Stand p l e ({ frames := 1, cells := 3, slots := 768, locals := 12 } : Room) s m #[(.ref a1), (.int (1 : Int32))] below meth c s₁ [] 0 0 := Stand.of_body Bd
  have hU : ∀ (i : Nat) (d : Jvm.Cond), tables_1[i]? = some d → d.before a0 Z = true := fun i d h => hw d (List.mem_of_getElem? h)
  have e0 : s₁.heap = h0 := by rw [← hh, Bd.state]; rfl
  have N0 := Fr.nil n0
  obtain ⟨f0, hf0⟩ : ∃ f : JFrame, f = mkF m 0 #[rv a1, iv (1 : Int32)] [] := ⟨_, rfl⟩
  have pre0 : ∀ t, own_S p e below s₁ f0 t → Steps p.tables e below (s₁.setTop (entryFrame m #[(.ref a1), (.int (1 : Int32))] 2)) t := fun t k => castTop ((ef_rmChunk1 m a1 (1 : Int32)).trans hf0.symm) k
  have R0 : ∀ t, own_S p e below s₁ (mkF m 0 #[rv a1, iv (1 : Int32)] []) t → own_S p e below s₁ f0 t := by rw [hf0]; exact fun t k => k
  have R1 : ∀ t, own_S p e below s₁ (mkF m 1 #[rv a1, iv (1 : Int32)] [(.ref a1)]) t → own_S p e below s₁ f0 t := fun t k => R0 t (by
    refine XS.aloadN X0.here hx rfl (hb hby d4_0) rfl rfl ?_
    exact k)
  obtain ⟨T2, X2, e2, st2⟩ := initO X0 hx hZ hown (hU 33 _ rfl) (hU 10 _ rfl) (hU 11 _ rfl) e0 (g := (mkF m 1 #[rv a1, iv (1 : Int32)] [(.ref a1)])) rfl (by rw [hml]; rfl) rfl (hb hby d4_1) (by decide) (W := 0) (Nat.le_of_eq rfl) (by decide)
  have R3 := fun t k => R1 t (st2 t k)
  have R4 : ∀ t, own_S p e below T2 (mkF m 8 #[rv a1, iv (1 : Int32)] [(.int (256 : Int32)), (.ref a1)]) t → own_S p e below s₁ f0 t := fun t k => R3 t (by
    refine XS.aloadN X2.here hx rfl (hb hby d4_4) rfl rfl ?_
    refine XS.sipush X2.here hx rfl (hb hby d4_5) ?_
    exact k)
  obtain ⟨T5, h5, k5, X5, e5, E5, A5, st5⟩ := newP X2 hx hZ (hU 19 _ rfl) e2 (g := (mkF m 8 #[rv a1, iv (1 : Int32)] [(.int (256 : Int32)), (.ref a1)])) rfl (hb hby d4_8) rfl (by decide) (cap := 256) (by decide) (by decide) (by decide) (by decide)
  obtain ⟨b5, g5⟩ : ∃ z, z = h0.size := ⟨_, rfl⟩
  rw [← g5] at A5 st5
  have g_b5 : n0 ≤ b5 := Nat.le_trans Z0 (Nat.le_of_eq g5.symm)
  have sz_b5 : h0.size ≤ b5 := Nat.le_trans (Keep.refl h0 [a1]).1 (Nat.le_of_eq g5.symm)
  have ne_a1_b5 : a1 ≠ b5 := Nat.ne_of_lt (Nat.lt_of_lt_of_le E_a1.lt (Nat.le_of_eq g5.symm))
  have f5_E_a1 := E_a1.ext E5
  have f5_F_starts_a1 := F_starts_a1.ext E5
  have f5_F_ends_a1 := F_ends_a1.ext E5
  have f5_F_items_a1 := F_items_a1.ext E5
  have f5_F_size_a1 := F_size_a1.ext E5
  have z5 : n0 ≤ h5.size := Nat.le_trans Z0 E5.1
  have K5 : Keep h0 h5 [a1] := (Keep.refl h0 [a1]).ext E5
  have v5 : Arv Z h5 b5 k5 .int (256 : Int32) [(.int (0 : Int32)), (.int (0 : Int32)), (.int (0 : Int32))] (.int (0 : Int32)) := (Arv.new A5 (by decide)).pad (pad_rep [] (.int (0 : Int32)) 3)
  have R6 := fun t k => R4 t (st5 t k)
  obtain ⟨T7, h7, X7, e7, W7, st7⟩ := putF X5 hx hZ hown (host := "") (Or.inl (hU 34 _ rfl)) Via.refl e5 f5_F_starts_a1 f5_E_a1 (Or.inr ⟨(hU 35 _ rfl), rfl, hnm⟩) (hU 28 _ rfl) (ty := (.array .int)) (by decide) rfl rfl (g := (mkF m 10 #[rv a1, iv (1 : Int32)] [(.ref b5), (.ref a1)])) rfl rfl (hb hby d4_10)
  have fw7 : Fld Z h7 a1 sN1 "starts" "[I" (.ref b5) := f5_F_starts_a1.same W7
  have f7_E_a1 := f5_E_a1.wr W7
  have f7_F_ends_a1 := f5_F_ends_a1.other W7 (Or.inr (slot_ne (Or.inr (hU 37 _ rfl)) (Or.inr (hU 35 _ rfl)) (by decide) (t := (.array .int)) (t' := (.array .int)) (by decide) (by decide)))
  have f7_F_items_a1 := f5_F_items_a1.other W7 (Or.inr (slot_ne (Or.inr (hU 41 _ rfl)) (Or.inr (hU 35 _ rfl)) (by decide) (t := (.array (.object "java/lang/Object"))) (t' := (.array .int)) (by decide) (by decide)))
  have f7_F_size_a1 := f5_F_size_a1.other W7 (Or.inr (slot_ne (Or.inl (hU 67 _ rfl)) (Or.inr (hU 35 _ rfl)) (by decide) (t := .int) (t' := (.array .int)) (by decide) (by decide)))
  have f7_A_b5 := v5.other W7 (Ne.symm ne_a1_b5)
  have z7 : n0 ≤ h7.size := by rw [W7.size]; exact z5
  have K7 : Keep h0 h7 [a1] := K5.wr W7 (Or.inl (List.mem_of_getElem? (i := 0) rfl))
  have N7 := Fr.snoc X7 N0 g_a1
  have R8 := fun t k => R6 t (st7 t k)
  have R9 : ∀ t, own_S p e below T7 (mkF m 21 #[rv a1, iv (1 : Int32)] [(.int (256 : Int32)), (.ref a1)]) t → own_S p e below s₁ f0 t := fun t k => R8 t (by
    refine XS.aloadN X7.here hx rfl (hb hby d4_13) rfl rfl ?_
    refine XS.iloadN X7.here hx rfl (hb hby d4_14) rfl  ?_
    refine XS.ifNo X7.here hx rfl (hb hby d4_15) rfl ((if0 _ _).trans (feq (by decide : ¬ ((1 : Int32) = (0 : Int32)))).1) ?_
    refine XS.sipush X7.here hx rfl (hb hby d4_18) ?_
    exact k)
  obtain ⟨T10, h10, k10, X10, e10, E10, A10, st10⟩ := newP X7 hx hZ (hU 19 _ rfl) e7 (g := (mkF m 21 #[rv a1, iv (1 : Int32)] [(.int (256 : Int32)), (.ref a1)])) rfl (hb hby d4_21) rfl (by decide) (cap := 256) (by decide) (by decide) (by decide) (by decide)
  obtain ⟨b10, g10⟩ : ∃ z, z = h7.size := ⟨_, rfl⟩
  rw [← g10] at A10 st10
  have g_b10 : n0 ≤ b10 := Nat.le_trans z7 (Nat.le_of_eq g10.symm)
  have sz_b10 : h0.size ≤ b10 := Nat.le_trans K7.1 (Nat.le_of_eq g10.symm)
  have ne_a1_b10 : a1 ≠ b10 := Nat.ne_of_lt (Nat.lt_of_lt_of_le f7_E_a1.lt (Nat.le_of_eq g10.symm))
  have ne_b5_b10 : b5 ≠ b10 := Nat.ne_of_lt (Nat.lt_of_lt_of_le f7_A_b5.lt (Nat.le_of_eq g10.symm))
  have f10_E_a1 := f7_E_a1.ext E10
  have f10_F_starts_a1 := fw7.ext E10
  have f10_F_ends_a1 := f7_F_ends_a1.ext E10
  have f10_F_items_a1 := f7_F_items_a1.ext E10
  have f10_F_size_a1 := f7_F_size_a1.ext E10
  have f10_A_b5 := f7_A_b5.ext E10
  have z10 : n0 ≤ h10.size := Nat.le_trans z7 E10.1
  have K10 : Keep h0 h10 [a1] := K7.ext E10
  have v10 : Arv Z h10 b10 k10 .int (256 : Int32) [(.int (0 : Int32)), (.int (0 : Int32)), (.int (0 : Int32))] (.int (0 : Int32)) := (Arv.new A10 (by decide)).pad (pad_rep [] (.int (0 : Int32)) 3)
  have R11 := fun t k => R9 t (st10 t k)
  have R12 : ∀ t, own_S p e below T10 (mkF m 27 #[rv a1, iv (1 : Int32)] [(.ref b10), (.ref a1)]) t → own_S p e below s₁ f0 t := fun t k => R11 t (by
    refine XS.goto X10.here hx rfl (pc0 := 23) (pc' := 27) rfl (hb hby d4_23) (by decide) (by decide) ?_
    exact k)
  obtain ⟨T13, h13, X13, e13, W13, st13⟩ := putF X10 hx hZ hown (host := "") (Or.inl (hU 36 _ rfl)) Via.refl e10 f10_F_ends_a1 f10_E_a1 (Or.inr ⟨(hU 37 _ rfl), rfl, hnm⟩) (hU 28 _ rfl) (ty := (.array .int)) (by decide) rfl rfl (g := (mkF m 27 #[rv a1, iv (1 : Int32)] [(.ref b10), (.ref a1)])) rfl rfl (hb hby d4_27)
  have fw13 : Fld Z h13 a1 sN1 "ends" "[I" (.ref b10) := f10_F_ends_a1.same W13
  have f13_E_a1 := f10_E_a1.wr W13
  have f13_F_starts_a1 := f10_F_starts_a1.other W13 (Or.inr (slot_ne (Or.inr (hU 35 _ rfl)) (Or.inr (hU 37 _ rfl)) (by decide) (t := (.array .int)) (t' := (.array .int)) (by decide) (by decide)))
  have f13_F_items_a1 := f10_F_items_a1.other W13 (Or.inr (slot_ne (Or.inr (hU 41 _ rfl)) (Or.inr (hU 37 _ rfl)) (by decide) (t := (.array (.object "java/lang/Object"))) (t' := (.array .int)) (by decide) (by decide)))
  have f13_F_size_a1 := f10_F_size_a1.other W13 (Or.inr (slot_ne (Or.inl (hU 67 _ rfl)) (Or.inr (hU 37 _ rfl)) (by decide) (t := .int) (t' := (.array .int)) (by decide) (by decide)))
  have f13_A_b5 := f10_A_b5.other W13 (Ne.symm ne_a1_b5)
  have f13_A_b10 := v10.other W13 (Ne.symm ne_a1_b10)
  have z13 : n0 ≤ h13.size := by rw [W13.size]; exact z10
  have K13 : Keep h0 h13 [a1] := K10.wr W13 (Or.inl (List.mem_of_getElem? (i := 0) rfl))
  have N13 := Fr.snoc X13 N7 g_a1
  have R14 := fun t k => R12 t (st13 t k)
  have R15 : ∀ t, own_S p e below T13 (mkF m 38 #[rv a1, iv (1 : Int32)] [(.int (256 : Int32)), (.ref a1)]) t → own_S p e below s₁ f0 t := fun t k => R14 t (by
    refine XS.aloadN X13.here hx rfl (hb hby d4_30) rfl rfl ?_
    refine XS.iloadN X13.here hx rfl (hb hby d4_31) rfl  ?_
    refine XS.ifNo X13.here hx rfl (hb hby d4_32) rfl ((if0 _ _).trans (feq (by decide : ¬ ((1 : Int32) = (0 : Int32)))).1) ?_
    refine XS.sipush X13.here hx rfl (hb hby d4_35) ?_
    exact k)
  obtain ⟨T16, h16, k16, X16, e16, E16, A16, O16, st16⟩ := newR X13 hx hZ hown (hU 38 _ rfl) (hU 39 _ rfl) e13 (g := (mkF m 38 #[rv a1, iv (1 : Int32)] [(.int (256 : Int32)), (.ref a1)])) rfl (hb hby d4_38) rfl (by decide) (cap := 256) (by decide) (by decide) (by decide) (by decide)
  obtain ⟨b16, g16⟩ : ∃ z, z = h13.size := ⟨_, rfl⟩
  rw [← g16] at A16 st16
  have g_b16 : n0 ≤ b16 := Nat.le_trans z13 (Nat.le_of_eq g16.symm)
  have sz_b16 : h0.size ≤ b16 := Nat.le_trans K13.1 (Nat.le_of_eq g16.symm)
  have ne_a1_b16 : a1 ≠ b16 := Nat.ne_of_lt (Nat.lt_of_lt_of_le f13_E_a1.lt (Nat.le_of_eq g16.symm))
  have ne_b5_b16 : b5 ≠ b16 := Nat.ne_of_lt (Nat.lt_of_lt_of_le f13_A_b5.lt (Nat.le_of_eq g16.symm))
  have ne_b10_b16 : b10 ≠ b16 := Nat.ne_of_lt (Nat.lt_of_lt_of_le f13_A_b10.lt (Nat.le_of_eq g16.symm))
  have f16_E_a1 := f13_E_a1.ext E16
  have f16_F_starts_a1 := f13_F_starts_a1.ext E16
  have f16_F_ends_a1 := fw13.ext E16
  have f16_F_items_a1 := f13_F_items_a1.ext E16
  have f16_F_size_a1 := f13_F_size_a1.ext E16
  have f16_A_b5 := f13_A_b5.ext E16
  have f16_A_b10 := f13_A_b10.ext E16
  have z16 : n0 ≤ h16.size := Nat.le_trans z13 E16.1
  have K16 : Keep h0 h16 [a1] := K13.ext E16
  have v16 : Arv Z h16 b16 k16 (.object "java/lang/Object") (256 : Int32) [.null, .null, .null] .null := (Arv.new A16 (by decide)).pad (pad_rep [] .null 3)
  have R17 := fun t k => R15 t (st16 t k)
  have R18 : ∀ t, own_S p e below T16 (mkF m 45 #[rv a1, iv (1 : Int32)] [(.ref b16), (.ref a1)]) t → own_S p e below s₁ f0 t := fun t k => R17 t (by
    refine XS.goto X16.here hx rfl (pc0 := 41) (pc' := 45) rfl (hb hby d4_41) (by decide) (by decide) ?_
    exact k)
  obtain ⟨T19, h19, X19, e19, W19, st19⟩ := putF X16 hx hZ hown (host := "") (Or.inl (hU 40 _ rfl)) Via.refl e16 f16_F_items_a1 f16_E_a1 (Or.inr ⟨(hU 41 _ rfl), rfl, hnm⟩) (hU 28 _ rfl) (ty := (.array (.object "java/lang/Object"))) (by decide) rfl rfl (g := (mkF m 45 #[rv a1, iv (1 : Int32)] [(.ref b16), (.ref a1)])) rfl rfl (hb hby d4_45)
  have fw19 : Fld Z h19 a1 sN1 "items" "[Ljava/lang/Object;" (.ref b16) := f16_F_items_a1.same W19
  have f19_E_a1 := f16_E_a1.wr W19
  have f19_F_starts_a1 := f16_F_starts_a1.other W19 (Or.inr (slot_ne (Or.inr (hU 35 _ rfl)) (Or.inr (hU 41 _ rfl)) (by decide) (t := (.array .int)) (t' := (.array (.object "java/lang/Object"))) (by decide) (by decide)))
  have f19_F_ends_a1 := f16_F_ends_a1.other W19 (Or.inr (slot_ne (Or.inr (hU 37 _ rfl)) (Or.inr (hU 41 _ rfl)) (by decide) (t := (.array .int)) (t' := (.array (.object "java/lang/Object"))) (by decide) (by decide)))
  have f19_F_size_a1 := f16_F_size_a1.other W19 (Or.inr (slot_ne (Or.inl (hU 67 _ rfl)) (Or.inr (hU 41 _ rfl)) (by decide) (t := .int) (t' := (.array (.object "java/lang/Object"))) (by decide) (by decide)))
  have f19_A_b5 := f16_A_b5.other W19 (Ne.symm ne_a1_b5)
  have f19_A_b10 := f16_A_b10.other W19 (Ne.symm ne_a1_b10)
  have f19_A_b16 := v16.other W19 (Ne.symm ne_a1_b16)
  have z19 : n0 ≤ h19.size := by rw [W19.size]; exact z16
  have K19 : Keep h0 h19 [a1] := K16.wr W19 (Or.inl (List.mem_of_getElem? (i := 0) rfl))
  have N19 := Fr.snoc X19 N13 g_a1
  have R20 := fun t k => R18 t (st19 t k)
  obtain ⟨fs, hr, hrun, hended, hW, hsame⟩ := X19.leave (v := none) (fun _ => rfl)
  refine ⟨_, _, pre0 _ (R20 _ ?_), hrun, hended, _, _, rfl, ?_, ⟨_, rfl⟩, hW, hsame.mono (by decide) (by decide)⟩
  · show own_S p e below T19 (mkF m 48 #[rv a1, iv (1 : Int32)] []) _
    exact X19.returnOut hx Bd.returns (hb hby d4_48) hr
  · show Q_rmChunk1 Z a1 u1 u2 u3 h0 n0 _ T19.heap _
    rw [e19]
    exact ⟨b5, k5, b10, k10, b16, k16, rfl, N19, K19, f19_F_starts_a1, f19_F_ends_a1, fw19, f19_F_size_a1, f19_A_b5, sz_b5, f19_A_b10, f19_A_b16, sz_b10, sz_b16, ne_b5_b10, ne_b5_b16, ne_b10_b16, O16⟩
theorem ef_rmChunk0 (m : MethodId) (x0 : Addr) (x1 : Int32) : entryFrame m #[(.ref x0), (.int x1)] 2 = mkF m 0 #[rv x0, iv x1] [] := by first | (simp [entryFrame, mkF, argsToLocals, Value.category]; done) | rfl
def Q_rmChunk0 (Z : State) (a1 : Addr) (u1 : Value) (u2 : Value) (u3 : Value) (h0 : Heap) (n0 : Nat) (v : Option Value) (h : Heap) (L : List Loc) : Prop := ∃ sa : Addr, ∃ kst : ClassId, v = none ∧ Fr n0 L ∧ Keep h0 h [a1] ∧ (Fld Z h a1 sN1 "starts" "[I" (.ref sa)) ∧ (Fld Z h a1 sN1 "ends" "[I" .null) ∧ (Fld Z h a1 sN1 "items" "[Ljava/lang/Object;" .null) ∧ (Fld Z h a1 sN1 "size" "I" (.int (0 : Int32))) ∧ (Arv Z h sa kst .int (256 : Int32) [(.int (0 : Int32)), (.int (0 : Int32)), (.int (0 : Int32))] (.int (0 : Int32))) ∧ (h0.size ≤ sa)
set_option maxRecDepth 65536 in
set_option maxHeartbeats 40000000 in
theorem rmChunk0 (l : Launch) (Z : State) (a0 : Array Value) (hw : ∀ d ∈ tables_1, d.before a0 Z = true) (ws : List Jvm.Cond) (a1 : Addr) (u1 : Value) (u2 : Value) (u3 : Value) (h0 : Heap) (n0 : Nat) (Z0 : n0 ≤ h0.size) (E_a1 : Exa Z h0 a1 sN1) (F_starts_a1 : Fld Z h0 a1 sN1 "starts" "[I" u1) (F_ends_a1 : Fld Z h0 a1 sN1 "ends" "[I" u2) (F_items_a1 : Fld Z h0 a1 sN1 "items" "[Ljava/lang/Object;" u3) (F_size_a1 : Fld Z h0 a1 sN1 "size" "I" (.int (0 : Int32))) (g_a1 : n0 ≤ a1) :
    own_M l (⟨sN1, "<init>", "(Z)V"⟩ : MethodName) (Jvm.Cond.code (⟨sN1, "<init>", "(Z)V"⟩ : MethodName) prog_117_method_1_code 2 none :: ws) ({ frames := 1, cells := 1, slots := 256, locals := 12 } : Room) #[(.ref a1), (.int (0 : Int32))] Z h0 (Q_rmChunk0 Z a1 u1 u2 u3 h0 n0) := by
  refine MetFree.of_bodySF (plainFor_of_name pn_0) hisR ?_
  intro p e s m args below meth c s₁ Bd hml0 hP hK
  obtain ⟨rfl, hZ, hh⟩ := hP
  have hx := Bd.exec
  have hby := Bd.bytes
  have hml : c.maxLocals = 2 := hml0
  have hown : s.vm.findClass sN1 = some m.cls := findClass_of_methodNamed Bd.named
  have hnm := (name_of_methodNamed Bd.named Bd.method).1
  have X0 : Stand p l e ({ frames := 1, cells := 1, slots := 256, locals := 12 } : Room) s m #[(.ref a1), (.int (0 : Int32))] below meth c s₁ [] 0 0 := Stand.of_body Bd
  have hU : ∀ (i : Nat) (d : Jvm.Cond), tables_1[i]? = some d → d.before a0 Z = true := fun i d h => hw d (List.mem_of_getElem? h)
  have e0 : s₁.heap = h0 := by rw [← hh, Bd.state]; rfl
  have N0 := Fr.nil n0
  obtain ⟨f0, hf0⟩ : ∃ f : JFrame, f = mkF m 0 #[rv a1, iv (0 : Int32)] [] := ⟨_, rfl⟩
  have pre0 : ∀ t, own_S p e below s₁ f0 t → Steps p.tables e below (s₁.setTop (entryFrame m #[(.ref a1), (.int (0 : Int32))] 2)) t := fun t k => castTop ((ef_rmChunk0 m a1 (0 : Int32)).trans hf0.symm) k
  have R0 : ∀ t, own_S p e below s₁ (mkF m 0 #[rv a1, iv (0 : Int32)] []) t → own_S p e below s₁ f0 t := by rw [hf0]; exact fun t k => k
  have R1 : ∀ t, own_S p e below s₁ (mkF m 1 #[rv a1, iv (0 : Int32)] [(.ref a1)]) t → own_S p e below s₁ f0 t := fun t k => R0 t (by
    refine XS.aloadN X0.here hx rfl (hb hby d4_0) rfl rfl ?_
    exact k)
  obtain ⟨T2, X2, e2, st2⟩ := initO X0 hx hZ hown (hU 33 _ rfl) (hU 10 _ rfl) (hU 11 _ rfl) e0 (g := (mkF m 1 #[rv a1, iv (0 : Int32)] [(.ref a1)])) rfl (by rw [hml]; rfl) rfl (hb hby d4_1) (by decide) (W := 0) (Nat.le_of_eq rfl) (by decide)
  have R3 := fun t k => R1 t (st2 t k)
  have R4 : ∀ t, own_S p e below T2 (mkF m 8 #[rv a1, iv (0 : Int32)] [(.int (256 : Int32)), (.ref a1)]) t → own_S p e below s₁ f0 t := fun t k => R3 t (by
    refine XS.aloadN X2.here hx rfl (hb hby d4_4) rfl rfl ?_
    refine XS.sipush X2.here hx rfl (hb hby d4_5) ?_
    exact k)
  obtain ⟨T5, h5, k5, X5, e5, E5, A5, st5⟩ := newP X2 hx hZ (hU 19 _ rfl) e2 (g := (mkF m 8 #[rv a1, iv (0 : Int32)] [(.int (256 : Int32)), (.ref a1)])) rfl (hb hby d4_8) rfl (by decide) (cap := 256) (by decide) (by decide) (by decide) (by decide)
  obtain ⟨b5, g5⟩ : ∃ z, z = h0.size := ⟨_, rfl⟩
  rw [← g5] at A5 st5
  have g_b5 : n0 ≤ b5 := Nat.le_trans Z0 (Nat.le_of_eq g5.symm)
  have sz_b5 : h0.size ≤ b5 := Nat.le_trans (Keep.refl h0 [a1]).1 (Nat.le_of_eq g5.symm)
  have ne_a1_b5 : a1 ≠ b5 := Nat.ne_of_lt (Nat.lt_of_lt_of_le E_a1.lt (Nat.le_of_eq g5.symm))
  have f5_E_a1 := E_a1.ext E5
  have f5_F_starts_a1 := F_starts_a1.ext E5
  have f5_F_ends_a1 := F_ends_a1.ext E5
  have f5_F_items_a1 := F_items_a1.ext E5
  have f5_F_size_a1 := F_size_a1.ext E5
  have z5 : n0 ≤ h5.size := Nat.le_trans Z0 E5.1
  have K5 : Keep h0 h5 [a1] := (Keep.refl h0 [a1]).ext E5
  have v5 : Arv Z h5 b5 k5 .int (256 : Int32) [(.int (0 : Int32)), (.int (0 : Int32)), (.int (0 : Int32))] (.int (0 : Int32)) := (Arv.new A5 (by decide)).pad (pad_rep [] (.int (0 : Int32)) 3)
  have R6 := fun t k => R4 t (st5 t k)
  obtain ⟨T7, h7, X7, e7, W7, st7⟩ := putF X5 hx hZ hown (host := "") (Or.inl (hU 34 _ rfl)) Via.refl e5 f5_F_starts_a1 f5_E_a1 (Or.inr ⟨(hU 35 _ rfl), rfl, hnm⟩) (hU 28 _ rfl) (ty := (.array .int)) (by decide) rfl rfl (g := (mkF m 10 #[rv a1, iv (0 : Int32)] [(.ref b5), (.ref a1)])) rfl rfl (hb hby d4_10)
  have fw7 : Fld Z h7 a1 sN1 "starts" "[I" (.ref b5) := f5_F_starts_a1.same W7
  have f7_E_a1 := f5_E_a1.wr W7
  have f7_F_ends_a1 := f5_F_ends_a1.other W7 (Or.inr (slot_ne (Or.inr (hU 37 _ rfl)) (Or.inr (hU 35 _ rfl)) (by decide) (t := (.array .int)) (t' := (.array .int)) (by decide) (by decide)))
  have f7_F_items_a1 := f5_F_items_a1.other W7 (Or.inr (slot_ne (Or.inr (hU 41 _ rfl)) (Or.inr (hU 35 _ rfl)) (by decide) (t := (.array (.object "java/lang/Object"))) (t' := (.array .int)) (by decide) (by decide)))
  have f7_F_size_a1 := f5_F_size_a1.other W7 (Or.inr (slot_ne (Or.inl (hU 67 _ rfl)) (Or.inr (hU 35 _ rfl)) (by decide) (t := .int) (t' := (.array .int)) (by decide) (by decide)))
  have f7_A_b5 := v5.other W7 (Ne.symm ne_a1_b5)
  have z7 : n0 ≤ h7.size := by rw [W7.size]; exact z5
  have K7 : Keep h0 h7 [a1] := K5.wr W7 (Or.inl (List.mem_of_getElem? (i := 0) rfl))
  have N7 := Fr.snoc X7 N0 g_a1
  have R8 := fun t k => R6 t (st7 t k)
  have R9 : ∀ t, own_S p e below T7 (mkF m 27 #[rv a1, iv (0 : Int32)] [.null, (.ref a1)]) t → own_S p e below s₁ f0 t := fun t k => R8 t (by
    refine XS.aloadN X7.here hx rfl (hb hby d4_13) rfl rfl ?_
    refine XS.iloadN X7.here hx rfl (hb hby d4_14) rfl  ?_
    refine XS.ifYes X7.here hx rfl (pc0 := 15) (pc' := 26) rfl (hb hby d4_15) rfl ((if0 _ _).trans (teq (by decide : (0 : Int32) = (0 : Int32))).1) (by decide) (by decide) ?_
    refine XS.aconstNull X7.here hx rfl (hb hby d4_26) ?_
    exact k)
  obtain ⟨T10, h10, X10, e10, W10, st10⟩ := putF X7 hx hZ hown (host := "") (Or.inl (hU 36 _ rfl)) Via.refl e7 f7_F_ends_a1 f7_E_a1 (Or.inr ⟨(hU 37 _ rfl), rfl, hnm⟩) (hU 28 _ rfl) (ty := (.array .int)) (by decide) rfl rfl (g := (mkF m 27 #[rv a1, iv (0 : Int32)] [.null, (.ref a1)])) rfl rfl (hb hby d4_27)
  have fw10 : Fld Z h10 a1 sN1 "ends" "[I" .null := f7_F_ends_a1.same W10
  have f10_E_a1 := f7_E_a1.wr W10
  have f10_F_starts_a1 := fw7.other W10 (Or.inr (slot_ne (Or.inr (hU 35 _ rfl)) (Or.inr (hU 37 _ rfl)) (by decide) (t := (.array .int)) (t' := (.array .int)) (by decide) (by decide)))
  have f10_F_items_a1 := f7_F_items_a1.other W10 (Or.inr (slot_ne (Or.inr (hU 41 _ rfl)) (Or.inr (hU 37 _ rfl)) (by decide) (t := (.array (.object "java/lang/Object"))) (t' := (.array .int)) (by decide) (by decide)))
  have f10_F_size_a1 := f7_F_size_a1.other W10 (Or.inr (slot_ne (Or.inl (hU 67 _ rfl)) (Or.inr (hU 37 _ rfl)) (by decide) (t := .int) (t' := (.array .int)) (by decide) (by decide)))
  have f10_A_b5 := f7_A_b5.other W10 (Ne.symm ne_a1_b5)
  have z10 : n0 ≤ h10.size := by rw [W10.size]; exact z7
  have K10 : Keep h0 h10 [a1] := K7.wr W10 (Or.inl (List.mem_of_getElem? (i := 0) rfl))
  have N10 := Fr.snoc X10 N7 g_a1
  have R11 := fun t k => R9 t (st10 t k)
  have R12 : ∀ t, own_S p e below T10 (mkF m 45 #[rv a1, iv (0 : Int32)] [.null, (.ref a1)]) t → own_S p e below s₁ f0 t := fun t k => R11 t (by
    refine XS.aloadN X10.here hx rfl (hb hby d4_30) rfl rfl ?_
    refine XS.iloadN X10.here hx rfl (hb hby d4_31) rfl  ?_
    refine XS.ifYes X10.here hx rfl (pc0 := 32) (pc' := 44) rfl (hb hby d4_32) rfl ((if0 _ _).trans (teq (by decide : (0 : Int32) = (0 : Int32))).1) (by decide) (by decide) ?_
    refine XS.aconstNull X10.here hx rfl (hb hby d4_44) ?_
    exact k)
  obtain ⟨T13, h13, X13, e13, W13, st13⟩ := putF X10 hx hZ hown (host := "") (Or.inl (hU 40 _ rfl)) Via.refl e10 f10_F_items_a1 f10_E_a1 (Or.inr ⟨(hU 41 _ rfl), rfl, hnm⟩) (hU 28 _ rfl) (ty := (.array (.object "java/lang/Object"))) (by decide) rfl rfl (g := (mkF m 45 #[rv a1, iv (0 : Int32)] [.null, (.ref a1)])) rfl rfl (hb hby d4_45)
  have fw13 : Fld Z h13 a1 sN1 "items" "[Ljava/lang/Object;" .null := f10_F_items_a1.same W13
  have f13_E_a1 := f10_E_a1.wr W13
  have f13_F_starts_a1 := f10_F_starts_a1.other W13 (Or.inr (slot_ne (Or.inr (hU 35 _ rfl)) (Or.inr (hU 41 _ rfl)) (by decide) (t := (.array .int)) (t' := (.array (.object "java/lang/Object"))) (by decide) (by decide)))
  have f13_F_ends_a1 := fw10.other W13 (Or.inr (slot_ne (Or.inr (hU 37 _ rfl)) (Or.inr (hU 41 _ rfl)) (by decide) (t := (.array .int)) (t' := (.array (.object "java/lang/Object"))) (by decide) (by decide)))
  have f13_F_size_a1 := f10_F_size_a1.other W13 (Or.inr (slot_ne (Or.inl (hU 67 _ rfl)) (Or.inr (hU 41 _ rfl)) (by decide) (t := .int) (t' := (.array (.object "java/lang/Object"))) (by decide) (by decide)))
  have f13_A_b5 := f10_A_b5.other W13 (Ne.symm ne_a1_b5)
  have z13 : n0 ≤ h13.size := by rw [W13.size]; exact z10
  have K13 : Keep h0 h13 [a1] := K10.wr W13 (Or.inl (List.mem_of_getElem? (i := 0) rfl))
  have N13 := Fr.snoc X13 N10 g_a1
  have R14 := fun t k => R12 t (st13 t k)
  obtain ⟨fs, hr, hrun, hended, hW, hsame⟩ := X13.leave (v := none) (fun _ => rfl)
  refine ⟨_, _, pre0 _ (R14 _ ?_), hrun, hended, _, _, rfl, ?_, ⟨_, rfl⟩, hW, hsame.mono (by decide) (by decide)⟩
  · show own_S p e below T13 (mkF m 48 #[rv a1, iv (0 : Int32)] []) _
    exact X13.returnOut hx Bd.returns (hb hby d4_48) hr
  · show Q_rmChunk0 Z a1 u1 u2 u3 h0 n0 _ T13.heap _
    rw [e13]
    exact ⟨b5, k5, rfl, N13, K13, f13_F_starts_a1, f13_F_ends_a1, fw13, f13_F_size_a1, f13_A_b5, sz_b5⟩
theorem ef_rmOffs1 (m : MethodId) (x0 : Addr) (x1 : Int32) : entryFrame m #[(.ref x0), (.int x1)] 2 = mkF m 0 #[rv x0, iv x1] [] := by first | (simp [entryFrame, mkF, argsToLocals, Value.category]; done) | rfl
def Q_rmOffs1 (Z : State) (a1 : Addr) (u1 : Value) (u2 : Value) (u3 : Value) (u4 : Value) (h0 : Heap) (n0 : Nat) (v : Option Value) (h : Heap) (L : List Loc) : Prop := ∃ fi : Addr, ∃ kfi : ClassId, ∃ ck : Addr, ∃ kck : ClassId, ∃ kk : Addr, ∃ sa : Addr, ∃ kst : ClassId, ∃ en : Addr, ∃ ken : ClassId, ∃ it : Addr, ∃ kit : ClassId, v = none ∧ Fr n0 L ∧ Keep h0 h [a1] ∧ (Fld Z h a1 sN0 "withItems" "Z" (.int (1 : Int32))) ∧ (Fld Z h a1 sN0 "chunks" sN3 (.ref ck)) ∧ (Fld Z h a1 sN0 "firsts" "[I" (.ref fi)) ∧ (Fld Z h a1 sN0 "chunkCount" "I" (.int (1 : Int32))) ∧ (Arv Z h fi kfi .int (1 : Int32) [(.int (0 : Int32))] (.int (0 : Int32))) ∧ (Arv Z h ck kck (.object sN1) (1 : Int32) [(.ref kk)] .null) ∧ (Exa Z h kk sN1) ∧ (Fld Z h kk sN1 "starts" "[I" (.ref sa)) ∧ (Fld Z h kk sN1 "ends" "[I" (.ref en)) ∧ (Fld Z h kk sN1 "items" "[Ljava/lang/Object;" (.ref it)) ∧ (Fld Z h kk sN1 "size" "I" (.int (0 : Int32))) ∧ (Arv Z h sa kst .int (256 : Int32) [(.int (0 : Int32)), (.int (0 : Int32)), (.int (0 : Int32))] (.int (0 : Int32))) ∧ (Arv Z h en ken .int (256 : Int32) [(.int (0 : Int32)), (.int (0 : Int32)), (.int (0 : Int32))] (.int (0 : Int32))) ∧ (Arv Z h it kit (.object "java/lang/Object") (256 : Int32) [.null, .null, .null] .null) ∧ (Ovr Z kit "java/lang/Object") ∧ (h0.size ≤ fi) ∧ (h0.size ≤ ck) ∧ (h0.size ≤ sa) ∧ (h0.size ≤ en) ∧ (h0.size ≤ it) ∧ (h0.size ≤ kk) ∧ (fi ≠ ck) ∧ (fi ≠ sa) ∧ (fi ≠ en) ∧ (fi ≠ it) ∧ (ck ≠ sa) ∧ (ck ≠ en) ∧ (ck ≠ it) ∧ (sa ≠ en) ∧ (sa ≠ it) ∧ (en ≠ it)
set_option maxRecDepth 65536 in
set_option maxHeartbeats 40000000 in
theorem rmOffs1 (l : Launch) (Z : State) (a0 : Array Value) (hw : ∀ d ∈ tables_1, d.before a0 Z = true) (ws : List Jvm.Cond) (a1 : Addr) (u1 : Value) (u2 : Value) (u3 : Value) (u4 : Value) (h0 : Heap) (n0 : Nat) (Z0 : n0 ≤ h0.size) (E_a1 : Exa Z h0 a1 sN0) (F_withItems_a1 : Fld Z h0 a1 sN0 "withItems" "Z" u1) (F_chunks_a1 : Fld Z h0 a1 sN0 "chunks" sN3 u2) (F_firsts_a1 : Fld Z h0 a1 sN0 "firsts" "[I" u3) (F_chunkCount_a1 : Fld Z h0 a1 sN0 "chunkCount" "I" u4) (g_a1 : n0 ≤ a1) :
    own_M l (⟨sN0, "<init>", "(Z)V"⟩ : MethodName) (Jvm.Cond.code (⟨sN0, "<init>", "(Z)V"⟩ : MethodName) prog_118_method_1_code 2 none :: ws) ({ frames := 2, cells := 6, slots := 774, locals := 30 } : Room) #[(.ref a1), (.int (1 : Int32))] Z h0 (Q_rmOffs1 Z a1 u1 u2 u3 u4 h0 n0) := by
  refine MetFree.of_bodySF (plainFor_of_name pn_1) hisR ?_
  intro p e s m args below meth c s₁ Bd hml0 hP hK
  obtain ⟨rfl, hZ, hh⟩ := hP
  have hx := Bd.exec
  have hby := Bd.bytes
  have hml : c.maxLocals = 2 := hml0
  have hown : s.vm.findClass sN0 = some m.cls := findClass_of_methodNamed Bd.named
  have hnm := (name_of_methodNamed Bd.named Bd.method).1
  have X0 : Stand p l e ({ frames := 2, cells := 6, slots := 774, locals := 30 } : Room) s m #[(.ref a1), (.int (1 : Int32))] below meth c s₁ [] 0 0 := Stand.of_body Bd
  have hU : ∀ (i : Nat) (d : Jvm.Cond), tables_1[i]? = some d → d.before a0 Z = true := fun i d h => hw d (List.mem_of_getElem? h)
  have e0 : s₁.heap = h0 := by rw [← hh, Bd.state]; rfl
  have N0 := Fr.nil n0
  obtain ⟨f0, hf0⟩ : ∃ f : JFrame, f = mkF m 0 #[rv a1, iv (1 : Int32)] [] := ⟨_, rfl⟩
  have pre0 : ∀ t, own_S p e below s₁ f0 t → Steps p.tables e below (s₁.setTop (entryFrame m #[(.ref a1), (.int (1 : Int32))] 2)) t := fun t k => castTop ((ef_rmOffs1 m a1 (1 : Int32)).trans hf0.symm) k
  have R0 : ∀ t, own_S p e below s₁ (mkF m 0 #[rv a1, iv (1 : Int32)] []) t → own_S p e below s₁ f0 t := by rw [hf0]; exact fun t k => k
  have R1 : ∀ t, own_S p e below s₁ (mkF m 1 #[rv a1, iv (1 : Int32)] [(.ref a1)]) t → own_S p e below s₁ f0 t := fun t k => R0 t (by
    refine XS.aloadN X0.here hx rfl (hb hby d3_0) rfl rfl ?_
    exact k)
  obtain ⟨T2, X2, e2, st2⟩ := initO X0 hx hZ hown (hU 18 _ rfl) (hU 10 _ rfl) (hU 11 _ rfl) e0 (g := (mkF m 1 #[rv a1, iv (1 : Int32)] [(.ref a1)])) rfl (by rw [hml]; rfl) rfl (hb hby d3_1) (by decide) (W := 0) (Nat.le_of_eq rfl) (by decide)
  have R3 := fun t k => R1 t (st2 t k)
  have R4 : ∀ t, own_S p e below T2 (mkF m 6 #[rv a1, iv (1 : Int32)] [(.int (1 : Int32)), (.ref a1)]) t → own_S p e below s₁ f0 t := fun t k => R3 t (by
    refine XS.aloadN X2.here hx rfl (hb hby d3_4) rfl rfl ?_
    refine XS.iconst X2.here hx rfl (hb hby d3_5) ?_
    exact k)
  obtain ⟨T5, h5, k5, X5, e5, E5, A5, st5⟩ := newP X2 hx hZ (hU 19 _ rfl) e2 (g := (mkF m 6 #[rv a1, iv (1 : Int32)] [(.int (1 : Int32)), (.ref a1)])) rfl (hb hby d3_6) rfl (by decide) (cap := 1) (by decide) (by decide) (by decide) (by decide)
  obtain ⟨b5, g5⟩ : ∃ z, z = h0.size := ⟨_, rfl⟩
  rw [← g5] at A5 st5
  have g_b5 : n0 ≤ b5 := Nat.le_trans Z0 (Nat.le_of_eq g5.symm)
  have sz_b5 : h0.size ≤ b5 := Nat.le_trans (Keep.refl h0 [a1]).1 (Nat.le_of_eq g5.symm)
  have ne_a1_b5 : a1 ≠ b5 := Nat.ne_of_lt (Nat.lt_of_lt_of_le E_a1.lt (Nat.le_of_eq g5.symm))
  have f5_E_a1 := E_a1.ext E5
  have f5_F_withItems_a1 := F_withItems_a1.ext E5
  have f5_F_chunks_a1 := F_chunks_a1.ext E5
  have f5_F_firsts_a1 := F_firsts_a1.ext E5
  have f5_F_chunkCount_a1 := F_chunkCount_a1.ext E5
  have z5 : n0 ≤ h5.size := Nat.le_trans Z0 E5.1
  have K5 : Keep h0 h5 [a1] := (Keep.refl h0 [a1]).ext E5
  have v5 : Arv Z h5 b5 k5 .int (1 : Int32) [(.int (0 : Int32))] (.int (0 : Int32)) := (Arv.new A5 (by decide)).pad (pad_rep [] (.int (0 : Int32)) 1)
  have R6 := fun t k => R4 t (st5 t k)
  obtain ⟨T7, h7, X7, e7, W7, st7⟩ := putF X5 hx hZ hown (host := "") (Or.inl (hU 20 _ rfl)) Via.refl e5 f5_F_firsts_a1 f5_E_a1 (Or.inl (hU 21 _ rfl)) (hU 13 _ rfl) (ty := (.array .int)) (by decide) rfl rfl (g := (mkF m 8 #[rv a1, iv (1 : Int32)] [(.ref b5), (.ref a1)])) rfl rfl (hb hby d3_8)
  have fw7 : Fld Z h7 a1 sN0 "firsts" "[I" (.ref b5) := f5_F_firsts_a1.same W7
  have f7_E_a1 := f5_E_a1.wr W7
  have f7_F_withItems_a1 := f5_F_withItems_a1.other W7 (Or.inr (slot_ne (Or.inr (hU 25 _ rfl)) (Or.inl (hU 21 _ rfl)) (by decide) (t := .boolean) (t' := (.array .int)) (by decide) (by decide)))
  have f7_F_chunks_a1 := f5_F_chunks_a1.other W7 (Or.inr (slot_ne (Or.inl (hU 44 _ rfl)) (Or.inl (hU 21 _ rfl)) (by decide) (t := (.array (.object sN1))) (t' := (.array .int)) (by decide) (by decide)))
  have f7_F_chunkCount_a1 := f5_F_chunkCount_a1.other W7 (Or.inr (slot_ne (Or.inl (hU 23 _ rfl)) (Or.inl (hU 21 _ rfl)) (by decide) (t := .int) (t' := (.array .int)) (by decide) (by decide)))
  have f7_A_b5 := v5.other W7 (Ne.symm ne_a1_b5)
  have z7 : n0 ≤ h7.size := by rw [W7.size]; exact z5
  have K7 : Keep h0 h7 [a1] := K5.wr W7 (Or.inl (List.mem_of_getElem? (i := 0) rfl))
  have N7 := Fr.snoc X7 N0 g_a1
  have R8 := fun t k => R6 t (st7 t k)
  have R9 : ∀ t, own_S p e below T7 (mkF m 13 #[rv a1, iv (1 : Int32)] [(.int (1 : Int32)), (.ref a1)]) t → own_S p e below s₁ f0 t := fun t k => R8 t (by
    refine XS.aloadN X7.here hx rfl (hb hby d3_11) rfl rfl ?_
    refine XS.iconst X7.here hx rfl (hb hby d3_12) ?_
    exact k)
  obtain ⟨T10, h10, X10, e10, W10, st10⟩ := putF X7 hx hZ hown (host := "") (Or.inl (hU 22 _ rfl)) Via.refl e7 f7_F_chunkCount_a1 f7_E_a1 (Or.inl (hU 23 _ rfl)) (hU 13 _ rfl) (ty := .int) (by decide) rfl rfl (g := (mkF m 13 #[rv a1, iv (1 : Int32)] [(.int (1 : Int32)), (.ref a1)])) rfl rfl (hb hby d3_13)
  have fw10 : Fld Z h10 a1 sN0 "chunkCount" "I" (.int (1 : Int32)) := f7_F_chunkCount_a1.same W10
  have f10_E_a1 := f7_E_a1.wr W10
  have f10_F_withItems_a1 := f7_F_withItems_a1.other W10 (Or.inr (slot_ne (Or.inr (hU 25 _ rfl)) (Or.inl (hU 23 _ rfl)) (by decide) (t := .boolean) (t' := .int) (by decide) (by decide)))
  have f10_F_chunks_a1 := f7_F_chunks_a1.other W10 (Or.inr (slot_ne (Or.inl (hU 44 _ rfl)) (Or.inl (hU 23 _ rfl)) (by decide) (t := (.array (.object sN1))) (t' := .int) (by decide) (by decide)))
  have f10_F_firsts_a1 := fw7.other W10 (Or.inr (slot_ne (Or.inl (hU 21 _ rfl)) (Or.inl (hU 23 _ rfl)) (by decide) (t := (.array .int)) (t' := .int) (by decide) (by decide)))
  have f10_A_b5 := f7_A_b5.other W10 (Ne.symm ne_a1_b5)
  have z10 : n0 ≤ h10.size := by rw [W10.size]; exact z7
  have K10 : Keep h0 h10 [a1] := K7.wr W10 (Or.inl (List.mem_of_getElem? (i := 0) rfl))
  have N10 := Fr.snoc X10 N7 g_a1
  have R11 := fun t k => R9 t (st10 t k)
  have R12 : ∀ t, own_S p e below T10 (mkF m 18 #[rv a1, iv (1 : Int32)] [(.int (1 : Int32)), (.ref a1)]) t → own_S p e below s₁ f0 t := fun t k => R11 t (by
    refine XS.aloadN X10.here hx rfl (hb hby d3_16) rfl rfl ?_
    refine XS.iloadN X10.here hx rfl (hb hby d3_17) rfl  ?_
    exact k)
  obtain ⟨T13, h13, X13, e13, W13, st13⟩ := putFN X10 hx hZ hown (hU 24 _ rfl) Via.refl e10 f10_F_withItems_a1 f10_E_a1 (Or.inr ⟨(hU 25 _ rfl), rfl, hnm⟩) (hU 13 _ rfl) (ty := .boolean) (v' := (.int (1 : Int32))) (by decide) rfl rfl (g := (mkF m 18 #[rv a1, iv (1 : Int32)] [(.int (1 : Int32)), (.ref a1)])) rfl rfl (hb hby d3_18)
  have fw13 : Fld Z h13 a1 sN0 "withItems" "Z" (.int (1 : Int32)) := f10_F_withItems_a1.same W13
  have f13_E_a1 := f10_E_a1.wr W13
  have f13_F_chunks_a1 := f10_F_chunks_a1.other W13 (Or.inr (slot_ne (Or.inl (hU 44 _ rfl)) (Or.inr (hU 25 _ rfl)) (by decide) (t := (.array (.object sN1))) (t' := .boolean) (by decide) (by decide)))
  have f13_F_firsts_a1 := f10_F_firsts_a1.other W13 (Or.inr (slot_ne (Or.inl (hU 21 _ rfl)) (Or.inr (hU 25 _ rfl)) (by decide) (t := (.array .int)) (t' := .boolean) (by decide) (by decide)))
  have f13_F_chunkCount_a1 := fw10.other W13 (Or.inr (slot_ne (Or.inl (hU 23 _ rfl)) (Or.inr (hU 25 _ rfl)) (by decide) (t := .int) (t' := .boolean) (by decide) (by decide)))
  have f13_A_b5 := f10_A_b5.other W13 (Ne.symm ne_a1_b5)
  have z13 : n0 ≤ h13.size := by rw [W13.size]; exact z10
  have K13 : Keep h0 h13 [a1] := K10.wr W13 (Or.inl (List.mem_of_getElem? (i := 0) rfl))
  have N13 := Fr.snoc X13 N10 g_a1
  have R14 := fun t k => R12 t (st13 t k)
  have R15 : ∀ t, own_S p e below T13 (mkF m 23 #[rv a1, iv (1 : Int32)] [(.int (1 : Int32)), (.ref a1)]) t → own_S p e below s₁ f0 t := fun t k => R14 t (by
    refine XS.aloadN X13.here hx rfl (hb hby d3_21) rfl rfl ?_
    refine XS.iconst X13.here hx rfl (hb hby d3_22) ?_
    exact k)
  obtain ⟨T16, h16, k16, X16, e16, E16, A16, O16, st16⟩ := newR X13 hx hZ hown (hU 26 _ rfl) (hU 27 _ rfl) e13 (g := (mkF m 23 #[rv a1, iv (1 : Int32)] [(.int (1 : Int32)), (.ref a1)])) rfl (hb hby d3_23) rfl (by decide) (cap := 1) (by decide) (by decide) (by decide) (by decide)
  obtain ⟨b16, g16⟩ : ∃ z, z = h13.size := ⟨_, rfl⟩
  rw [← g16] at A16 st16
  have g_b16 : n0 ≤ b16 := Nat.le_trans z13 (Nat.le_of_eq g16.symm)
  have sz_b16 : h0.size ≤ b16 := Nat.le_trans K13.1 (Nat.le_of_eq g16.symm)
  have ne_a1_b16 : a1 ≠ b16 := Nat.ne_of_lt (Nat.lt_of_lt_of_le f13_E_a1.lt (Nat.le_of_eq g16.symm))
  have ne_b5_b16 : b5 ≠ b16 := Nat.ne_of_lt (Nat.lt_of_lt_of_le f13_A_b5.lt (Nat.le_of_eq g16.symm))
  have f16_E_a1 := f13_E_a1.ext E16
  have f16_F_withItems_a1 := fw13.ext E16
  have f16_F_chunks_a1 := f13_F_chunks_a1.ext E16
  have f16_F_firsts_a1 := f13_F_firsts_a1.ext E16
  have f16_F_chunkCount_a1 := f13_F_chunkCount_a1.ext E16
  have f16_A_b5 := f13_A_b5.ext E16
  have z16 : n0 ≤ h16.size := Nat.le_trans z13 E16.1
  have K16 : Keep h0 h16 [a1] := K13.ext E16
  have v16 : Arv Z h16 b16 k16 (.object sN1) (1 : Int32) [.null] .null := (Arv.new A16 (by decide)).pad (pad_rep [] .null 1)
  have R17 := fun t k => R15 t (st16 t k)
  have R18 : ∀ t, own_S p e below T16 (mkF m 28 #[rv a1, iv (1 : Int32)] [(.int (0 : Int32)), (.ref b16), (.ref b16), (.ref a1)]) t → own_S p e below s₁ f0 t := fun t k => R17 t (by
    refine XS.dup X16.here hx rfl (hb hby d3_26) rfl rfl ?_
    refine XS.iconst X16.here hx rfl (hb hby d3_27) ?_
    exact k)
  obtain ⟨T19, h19, X19, e19, E19, A19, D19, -, st19⟩ := newO X16 hx hZ hown (hU 26 _ rfl) (hU 28 _ rfl) (hU 29 _ rfl) e16 (g := (mkF m 28 #[rv a1, iv (1 : Int32)] [(.int (0 : Int32)), (.ref b16), (.ref b16), (.ref a1)])) rfl (hb hby d3_28) (by decide) (by decide)
  obtain ⟨b19, g19⟩ : ∃ z, z = h16.size := ⟨_, rfl⟩
  rw [← g19] at A19 D19 st19
  have g_b19 : n0 ≤ b19 := Nat.le_trans z16 (Nat.le_of_eq g19.symm)
  have sz_b19 : h0.size ≤ b19 := Nat.le_trans K16.1 (Nat.le_of_eq g19.symm)
  have ne_a1_b19 : a1 ≠ b19 := Nat.ne_of_lt (Nat.lt_of_lt_of_le f16_E_a1.lt (Nat.le_of_eq g19.symm))
  have ne_b5_b19 : b5 ≠ b19 := Nat.ne_of_lt (Nat.lt_of_lt_of_le f16_A_b5.lt (Nat.le_of_eq g19.symm))
  have ne_b16_b19 : b16 ≠ b19 := Nat.ne_of_lt (Nat.lt_of_lt_of_le v16.lt (Nat.le_of_eq g19.symm))
  have f19_E_a1 := f16_E_a1.ext E19
  have f19_F_withItems_a1 := f16_F_withItems_a1.ext E19
  have f19_F_chunks_a1 := f16_F_chunks_a1.ext E19
  have f19_F_firsts_a1 := f16_F_firsts_a1.ext E19
  have f19_F_chunkCount_a1 := f16_F_chunkCount_a1.ext E19
  have f19_A_b5 := f16_A_b5.ext E19
  have f19_A_b16 := v16.ext E19
  have z19 : n0 ≤ h19.size := Nat.le_trans z16 E19.1
  have K19 : Keep h0 h19 [a1] := K16.ext E19
  have d19_starts : Fld Z h19 b19 sN1 "starts" "[I" .null := D19 (Or.inr (hU 35 _ rfl)) (ty := (.array .int)) (by decide)
  have d19_ends : Fld Z h19 b19 sN1 "ends" "[I" .null := D19 (Or.inr (hU 37 _ rfl)) (ty := (.array .int)) (by decide)
  have d19_items : Fld Z h19 b19 sN1 "items" "[Ljava/lang/Object;" .null := D19 (Or.inr (hU 41 _ rfl)) (ty := (.array (.object "java/lang/Object"))) (by decide)
  have d19_size : Fld Z h19 b19 sN1 "size" "I" (.int (0 : Int32)) := D19 (Or.inl (hU 67 _ rfl)) (ty := .int) (by decide)
  have R20 := fun t k => R18 t (st19 t k)
  have R21 : ∀ t, own_S p e below T19 (mkF m 33 #[rv a1, iv (1 : Int32)] [(.int (1 : Int32)), (.ref b19), (.ref b19), (.int (0 : Int32)), (.ref b16), (.ref b16), (.ref a1)]) t → own_S p e below s₁ f0 t := fun t k => R20 t (by
    refine XS.dup X19.here hx rfl (hb hby d3_31) rfl rfl ?_
    refine XS.iloadN X19.here hx rfl (hb hby d3_32) rfl  ?_
    exact k)
  obtain ⟨_, _, ⟨T22, L22, k22, n22⟩, -, X22, ⟨Lc22, hQ22, l22, y22, z22⟩, st22⟩ := X19.specialBack hx (y := (⟨sN1, "<init>", "(Z)V"⟩ : MethodName)) rfl hown (mvT hZ (hU 30 _ rfl)) (mvT hZ (hU 31 _ rfl)) (mvT hZ (hU 32 _ rfl)) (by decide) (backOf (W := 5) (rmChunk1 l Z a0 hw [] b19 .null .null .null h19 n0 z19 A19 d19_starts d19_ends d19_items d19_size g_b19) hZ (hU 32 _ rfl) (hU 29 _ rfl) (by decide) (by decide)) (g := (mkF m 33 #[rv a1, iv (1 : Int32)] [(.int (1 : Int32)), (.ref b19), (.ref b19), (.int (0 : Int32)), (.ref b16), (.ref b16), (.ref a1)])) rfl (by rw [hml]; rfl) (Steps.refl _) (a := b19) (argsL := [(.int (1 : Int32))]) (rest := [(.ref b19), (.int (0 : Int32)), (.ref b16), (.ref b16), (.ref a1)]) (lenOf pd_2 rfl) rfl (Nat.le_of_eq rfl) (hb hby d3_33) (fun _ _ => ⟨rfl, e19, (by decide : 3 + 3 ≤ _), (by decide : 6 + 768 ≤ _)⟩)
  dsimp only [Pt.U, Pt.locs, Pt.cells, Pt.slots] at X22 l22 y22 z22 st22 hQ22
  subst l22 y22 z22
  obtain ⟨sa_22, kst_22, en_22, ken_22, it_22, kit_22, rfl, N22q, p22_0, p22_1, p22_2, p22_3, p22_4, p22_5, p22_6, p22_7, p22_8, p22_9, p22_10, p22_11, p22_12, p22_13, p22_14⟩ := hQ22
  have N22 := Fr.app N13 N22q
  have f22_E_a1 := f19_E_a1.keep p22_0
  have f22_F_withItems_a1 := f19_F_withItems_a1.keep p22_0 (ninS ne_a1_b19 nin0)
  have f22_F_chunks_a1 := f19_F_chunks_a1.keep p22_0 (ninS ne_a1_b19 nin0)
  have f22_F_firsts_a1 := f19_F_firsts_a1.keep p22_0 (ninS ne_a1_b19 nin0)
  have f22_F_chunkCount_a1 := f19_F_chunkCount_a1.keep p22_0 (ninS ne_a1_b19 nin0)
  have f22_A_b5 := f19_A_b5.keep p22_0 (ninS ne_b5_b19 nin0)
  have f22_A_b16 := f19_A_b16.keep p22_0 (ninS ne_b16_b19 nin0)
  have f22_E_b19 := A19.keep p22_0
  have z22 : n0 ≤ T22.heap.size := Nat.le_trans z19 p22_0.1
  have K22 : Keep h0 T22.heap [a1] := K19.trans p22_0 (allS (Or.inr sz_b19) all0)
  have g_sa_22 : n0 ≤ sa_22 := Nat.le_trans z19 p22_6
  have sz_sa_22 : h0.size ≤ sa_22 := Nat.le_trans K19.1 p22_6
  have ne_a1_sa_22 : a1 ≠ sa_22 := Nat.ne_of_lt (Nat.lt_of_lt_of_le f19_F_withItems_a1.lt p22_6)
  have ne_b5_sa_22 : b5 ≠ sa_22 := Nat.ne_of_lt (Nat.lt_of_lt_of_le f19_A_b5.lt p22_6)
  have ne_b16_sa_22 : b16 ≠ sa_22 := Nat.ne_of_lt (Nat.lt_of_lt_of_le f19_A_b16.lt p22_6)
  have ne_b19_sa_22 : b19 ≠ sa_22 := Nat.ne_of_lt (Nat.lt_of_lt_of_le d19_starts.lt p22_6)
  have g_en_22 : n0 ≤ en_22 := Nat.le_trans z19 p22_9
  have sz_en_22 : h0.size ≤ en_22 := Nat.le_trans K19.1 p22_9
  have ne_a1_en_22 : a1 ≠ en_22 := Nat.ne_of_lt (Nat.lt_of_lt_of_le f19_F_withItems_a1.lt p22_9)
  have ne_b5_en_22 : b5 ≠ en_22 := Nat.ne_of_lt (Nat.lt_of_lt_of_le f19_A_b5.lt p22_9)
  have ne_b16_en_22 : b16 ≠ en_22 := Nat.ne_of_lt (Nat.lt_of_lt_of_le f19_A_b16.lt p22_9)
  have ne_b19_en_22 : b19 ≠ en_22 := Nat.ne_of_lt (Nat.lt_of_lt_of_le d19_starts.lt p22_9)
  have g_it_22 : n0 ≤ it_22 := Nat.le_trans z19 p22_10
  have sz_it_22 : h0.size ≤ it_22 := Nat.le_trans K19.1 p22_10
  have ne_a1_it_22 : a1 ≠ it_22 := Nat.ne_of_lt (Nat.lt_of_lt_of_le f19_F_withItems_a1.lt p22_10)
  have ne_b5_it_22 : b5 ≠ it_22 := Nat.ne_of_lt (Nat.lt_of_lt_of_le f19_A_b5.lt p22_10)
  have ne_b16_it_22 : b16 ≠ it_22 := Nat.ne_of_lt (Nat.lt_of_lt_of_le f19_A_b16.lt p22_10)
  have ne_b19_it_22 : b19 ≠ it_22 := Nat.ne_of_lt (Nat.lt_of_lt_of_le d19_starts.lt p22_10)
  have R23 := fun t k => R21 t (st22.trans k)
  obtain ⟨cl24, Ar24, q24, S24, n24_, H24, G24⟩ := id f22_A_b16
  have hin24 : ¬ ((0 : Int32) < 0 ∨ cl24.slots.size ≤ ((0 : Int32)).toNatClampNeg) := inb_of S24 ⟨by decide, by decide⟩
  obtain ⟨T24, h24, X24, e24, W24, st24⟩ := stR X22 hx hZ rfl Ar24 (j := (0 : Int32)) hin24 rfl (Sto.ofV Ar24 q24 O16 (Ins.self f22_E_b19)) (g := (mkF m 36 #[rv a1, iv (1 : Int32)] [(.ref b19), (.int (0 : Int32)), (.ref b16), (.ref b16), (.ref a1)])) rfl rfl (hb hby d3_36)
  have f24_E_a1 := f22_E_a1.wr W24
  have f24_F_withItems_a1 := f22_F_withItems_a1.other W24 (Or.inl ne_a1_b16)
  have f24_F_chunks_a1 := f22_F_chunks_a1.other W24 (Or.inl ne_a1_b16)
  have f24_F_firsts_a1 := f22_F_firsts_a1.other W24 (Or.inl ne_a1_b16)
  have f24_F_chunkCount_a1 := f22_F_chunkCount_a1.other W24 (Or.inl ne_a1_b16)
  have f24_A_b5 := f22_A_b5.other W24 ne_b5_b16
  have f24_E_b19 := f22_E_b19.wr W24
  have f24_F_starts_b19 := p22_1.other W24 (Or.inl (Ne.symm ne_b16_b19))
  have f24_F_ends_b19 := p22_2.other W24 (Or.inl (Ne.symm ne_b16_b19))
  have f24_F_items_b19 := p22_3.other W24 (Or.inl (Ne.symm ne_b16_b19))
  have f24_F_size_b19 := p22_4.other W24 (Or.inl (Ne.symm ne_b16_b19))
  have f24_A_sa_22 := p22_5.other W24 (Ne.symm ne_b16_sa_22)
  have f24_A_en_22 := p22_7.other W24 (Ne.symm ne_b16_en_22)
  have f24_A_it_22 := p22_8.other W24 (Ne.symm ne_b16_it_22)
  have z24 : n0 ≤ h24.size := by rw [W24.size]; exact z22
  have K24 : Keep h0 h24 [a1] := K22.wr W24 (Or.inr sz_b16)
  have v24 : Arv Z h24 b16 k16 (.object sN1) (1 : Int32) [(.ref b19)] .null := Arv.set Ar24 q24 S24 n24_ H24 G24 rfl W24 0 rfl (Nat.le_of_ble_eq_true rfl)
  have N24 := Fr.snoc X24 N22 g_b16
  have R25 := fun t k => R23 t (st24 t k)
  obtain ⟨T26, h26, X26, e26, W26, st26⟩ := putF X24 hx hZ hown (host := "") (Or.inl (hU 43 _ rfl)) Via.refl e24 f24_F_chunks_a1 f24_E_a1 (Or.inl (hU 44 _ rfl)) (hU 13 _ rfl) (ty := (.array (.object sN1))) (by decide) rfl rfl (g := (mkF m 37 #[rv a1, iv (1 : Int32)] [(.ref b16), (.ref a1)])) rfl rfl (hb hby d3_37)
  have fw26 : Fld Z h26 a1 sN0 "chunks" sN3 (.ref b16) := f24_F_chunks_a1.same W26
  have f26_E_a1 := f24_E_a1.wr W26
  have f26_F_withItems_a1 := f24_F_withItems_a1.other W26 (Or.inr (slot_ne (Or.inr (hU 25 _ rfl)) (Or.inl (hU 44 _ rfl)) (by decide) (t := .boolean) (t' := (.array (.object sN1))) (by decide) (by decide)))
  have f26_F_firsts_a1 := f24_F_firsts_a1.other W26 (Or.inr (slot_ne (Or.inl (hU 21 _ rfl)) (Or.inl (hU 44 _ rfl)) (by decide) (t := (.array .int)) (t' := (.array (.object sN1))) (by decide) (by decide)))
  have f26_F_chunkCount_a1 := f24_F_chunkCount_a1.other W26 (Or.inr (slot_ne (Or.inl (hU 23 _ rfl)) (Or.inl (hU 44 _ rfl)) (by decide) (t := .int) (t' := (.array (.object sN1))) (by decide) (by decide)))
  have f26_A_b5 := f24_A_b5.other W26 (Ne.symm ne_a1_b5)
  have f26_A_b16 := v24.other W26 (Ne.symm ne_a1_b16)
  have f26_E_b19 := f24_E_b19.wr W26
  have f26_F_starts_b19 := f24_F_starts_b19.other W26 (Or.inl (Ne.symm ne_a1_b19))
  have f26_F_ends_b19 := f24_F_ends_b19.other W26 (Or.inl (Ne.symm ne_a1_b19))
  have f26_F_items_b19 := f24_F_items_b19.other W26 (Or.inl (Ne.symm ne_a1_b19))
  have f26_F_size_b19 := f24_F_size_b19.other W26 (Or.inl (Ne.symm ne_a1_b19))
  have f26_A_sa_22 := f24_A_sa_22.other W26 (Ne.symm ne_a1_sa_22)
  have f26_A_en_22 := f24_A_en_22.other W26 (Ne.symm ne_a1_en_22)
  have f26_A_it_22 := f24_A_it_22.other W26 (Ne.symm ne_a1_it_22)
  have z26 : n0 ≤ h26.size := by rw [W26.size]; exact z24
  have K26 : Keep h0 h26 [a1] := K24.wr W26 (Or.inl (List.mem_of_getElem? (i := 0) rfl))
  have N26 := Fr.snoc X26 N24 g_a1
  have R27 := fun t k => R25 t (st26 t k)
  obtain ⟨fs, hr, hrun, hended, hW, hsame⟩ := X26.leave (v := none) (fun _ => rfl)
  refine ⟨_, _, pre0 _ (R27 _ ?_), hrun, hended, _, _, rfl, ?_, ⟨_, rfl⟩, hW, hsame.mono (by decide) (by decide)⟩
  · show own_S p e below T26 (mkF m 40 #[rv a1, iv (1 : Int32)] []) _
    exact X26.returnOut hx Bd.returns (hb hby d3_40) hr
  · show Q_rmOffs1 Z a1 u1 u2 u3 u4 h0 n0 _ T26.heap _
    rw [e26]
    exact ⟨b5, k5, b16, k16, b19, sa_22, kst_22, en_22, ken_22, it_22, kit_22, rfl, N26, K26, f26_F_withItems_a1, fw26, f26_F_firsts_a1, f26_F_chunkCount_a1, f26_A_b5, f26_A_b16, f26_E_b19, f26_F_starts_b19, f26_F_ends_b19, f26_F_items_b19, f26_F_size_b19, f26_A_sa_22, f26_A_en_22, f26_A_it_22, p22_14, sz_b5, sz_b16, sz_sa_22, sz_en_22, sz_it_22, sz_b19, ne_b5_b16, ne_b5_sa_22, ne_b5_en_22, ne_b5_it_22, ne_b16_sa_22, ne_b16_en_22, ne_b16_it_22, p22_11, p22_12, p22_13⟩
theorem ef_rmOffs0 (m : MethodId) (x0 : Addr) (x1 : Int32) : entryFrame m #[(.ref x0), (.int x1)] 2 = mkF m 0 #[rv x0, iv x1] [] := by first | (simp [entryFrame, mkF, argsToLocals, Value.category]; done) | rfl
def Q_rmOffs0 (Z : State) (a1 : Addr) (u1 : Value) (u2 : Value) (u3 : Value) (u4 : Value) (h0 : Heap) (n0 : Nat) (v : Option Value) (h : Heap) (L : List Loc) : Prop := ∃ fi : Addr, ∃ kfi : ClassId, ∃ ck : Addr, ∃ kck : ClassId, ∃ kk : Addr, ∃ sa : Addr, ∃ kst : ClassId, v = none ∧ Fr n0 L ∧ Keep h0 h [a1] ∧ (Fld Z h a1 sN0 "withItems" "Z" (.int (0 : Int32))) ∧ (Fld Z h a1 sN0 "chunks" sN3 (.ref ck)) ∧ (Fld Z h a1 sN0 "firsts" "[I" (.ref fi)) ∧ (Fld Z h a1 sN0 "chunkCount" "I" (.int (1 : Int32))) ∧ (Arv Z h fi kfi .int (1 : Int32) [(.int (0 : Int32))] (.int (0 : Int32))) ∧ (Arv Z h ck kck (.object sN1) (1 : Int32) [(.ref kk)] .null) ∧ (Exa Z h kk sN1) ∧ (Fld Z h kk sN1 "starts" "[I" (.ref sa)) ∧ (Fld Z h kk sN1 "ends" "[I" .null) ∧ (Fld Z h kk sN1 "items" "[Ljava/lang/Object;" .null) ∧ (Fld Z h kk sN1 "size" "I" (.int (0 : Int32))) ∧ (Arv Z h sa kst .int (256 : Int32) [(.int (0 : Int32)), (.int (0 : Int32)), (.int (0 : Int32))] (.int (0 : Int32))) ∧ (h0.size ≤ fi) ∧ (h0.size ≤ ck) ∧ (h0.size ≤ sa) ∧ (h0.size ≤ kk) ∧ (fi ≠ ck) ∧ (fi ≠ sa) ∧ (ck ≠ sa)
set_option maxRecDepth 65536 in
set_option maxHeartbeats 40000000 in
theorem rmOffs0 (l : Launch) (Z : State) (a0 : Array Value) (hw : ∀ d ∈ tables_1, d.before a0 Z = true) (ws : List Jvm.Cond) (a1 : Addr) (u1 : Value) (u2 : Value) (u3 : Value) (u4 : Value) (h0 : Heap) (n0 : Nat) (Z0 : n0 ≤ h0.size) (E_a1 : Exa Z h0 a1 sN0) (F_withItems_a1 : Fld Z h0 a1 sN0 "withItems" "Z" u1) (F_chunks_a1 : Fld Z h0 a1 sN0 "chunks" sN3 u2) (F_firsts_a1 : Fld Z h0 a1 sN0 "firsts" "[I" u3) (F_chunkCount_a1 : Fld Z h0 a1 sN0 "chunkCount" "I" u4) (g_a1 : n0 ≤ a1) :
    own_M l (⟨sN0, "<init>", "(Z)V"⟩ : MethodName) (Jvm.Cond.code (⟨sN0, "<init>", "(Z)V"⟩ : MethodName) prog_118_method_1_code 2 none :: ws) ({ frames := 2, cells := 4, slots := 262, locals := 30 } : Room) #[(.ref a1), (.int (0 : Int32))] Z h0 (Q_rmOffs0 Z a1 u1 u2 u3 u4 h0 n0) := by
  refine MetFree.of_bodySF (plainFor_of_name pn_1) hisR ?_
  intro p e s m args below meth c s₁ Bd hml0 hP hK
  obtain ⟨rfl, hZ, hh⟩ := hP
  have hx := Bd.exec
  have hby := Bd.bytes
  have hml : c.maxLocals = 2 := hml0
  have hown : s.vm.findClass sN0 = some m.cls := findClass_of_methodNamed Bd.named
  have hnm := (name_of_methodNamed Bd.named Bd.method).1
  have X0 : Stand p l e ({ frames := 2, cells := 4, slots := 262, locals := 30 } : Room) s m #[(.ref a1), (.int (0 : Int32))] below meth c s₁ [] 0 0 := Stand.of_body Bd
  have hU : ∀ (i : Nat) (d : Jvm.Cond), tables_1[i]? = some d → d.before a0 Z = true := fun i d h => hw d (List.mem_of_getElem? h)
  have e0 : s₁.heap = h0 := by rw [← hh, Bd.state]; rfl
  have N0 := Fr.nil n0
  obtain ⟨f0, hf0⟩ : ∃ f : JFrame, f = mkF m 0 #[rv a1, iv (0 : Int32)] [] := ⟨_, rfl⟩
  have pre0 : ∀ t, own_S p e below s₁ f0 t → Steps p.tables e below (s₁.setTop (entryFrame m #[(.ref a1), (.int (0 : Int32))] 2)) t := fun t k => castTop ((ef_rmOffs0 m a1 (0 : Int32)).trans hf0.symm) k
  have R0 : ∀ t, own_S p e below s₁ (mkF m 0 #[rv a1, iv (0 : Int32)] []) t → own_S p e below s₁ f0 t := by rw [hf0]; exact fun t k => k
  have R1 : ∀ t, own_S p e below s₁ (mkF m 1 #[rv a1, iv (0 : Int32)] [(.ref a1)]) t → own_S p e below s₁ f0 t := fun t k => R0 t (by
    refine XS.aloadN X0.here hx rfl (hb hby d3_0) rfl rfl ?_
    exact k)
  obtain ⟨T2, X2, e2, st2⟩ := initO X0 hx hZ hown (hU 18 _ rfl) (hU 10 _ rfl) (hU 11 _ rfl) e0 (g := (mkF m 1 #[rv a1, iv (0 : Int32)] [(.ref a1)])) rfl (by rw [hml]; rfl) rfl (hb hby d3_1) (by decide) (W := 0) (Nat.le_of_eq rfl) (by decide)
  have R3 := fun t k => R1 t (st2 t k)
  have R4 : ∀ t, own_S p e below T2 (mkF m 6 #[rv a1, iv (0 : Int32)] [(.int (1 : Int32)), (.ref a1)]) t → own_S p e below s₁ f0 t := fun t k => R3 t (by
    refine XS.aloadN X2.here hx rfl (hb hby d3_4) rfl rfl ?_
    refine XS.iconst X2.here hx rfl (hb hby d3_5) ?_
    exact k)
  obtain ⟨T5, h5, k5, X5, e5, E5, A5, st5⟩ := newP X2 hx hZ (hU 19 _ rfl) e2 (g := (mkF m 6 #[rv a1, iv (0 : Int32)] [(.int (1 : Int32)), (.ref a1)])) rfl (hb hby d3_6) rfl (by decide) (cap := 1) (by decide) (by decide) (by decide) (by decide)
  obtain ⟨b5, g5⟩ : ∃ z, z = h0.size := ⟨_, rfl⟩
  rw [← g5] at A5 st5
  have g_b5 : n0 ≤ b5 := Nat.le_trans Z0 (Nat.le_of_eq g5.symm)
  have sz_b5 : h0.size ≤ b5 := Nat.le_trans (Keep.refl h0 [a1]).1 (Nat.le_of_eq g5.symm)
  have ne_a1_b5 : a1 ≠ b5 := Nat.ne_of_lt (Nat.lt_of_lt_of_le E_a1.lt (Nat.le_of_eq g5.symm))
  have f5_E_a1 := E_a1.ext E5
  have f5_F_withItems_a1 := F_withItems_a1.ext E5
  have f5_F_chunks_a1 := F_chunks_a1.ext E5
  have f5_F_firsts_a1 := F_firsts_a1.ext E5
  have f5_F_chunkCount_a1 := F_chunkCount_a1.ext E5
  have z5 : n0 ≤ h5.size := Nat.le_trans Z0 E5.1
  have K5 : Keep h0 h5 [a1] := (Keep.refl h0 [a1]).ext E5
  have v5 : Arv Z h5 b5 k5 .int (1 : Int32) [(.int (0 : Int32))] (.int (0 : Int32)) := (Arv.new A5 (by decide)).pad (pad_rep [] (.int (0 : Int32)) 1)
  have R6 := fun t k => R4 t (st5 t k)
  obtain ⟨T7, h7, X7, e7, W7, st7⟩ := putF X5 hx hZ hown (host := "") (Or.inl (hU 20 _ rfl)) Via.refl e5 f5_F_firsts_a1 f5_E_a1 (Or.inl (hU 21 _ rfl)) (hU 13 _ rfl) (ty := (.array .int)) (by decide) rfl rfl (g := (mkF m 8 #[rv a1, iv (0 : Int32)] [(.ref b5), (.ref a1)])) rfl rfl (hb hby d3_8)
  have fw7 : Fld Z h7 a1 sN0 "firsts" "[I" (.ref b5) := f5_F_firsts_a1.same W7
  have f7_E_a1 := f5_E_a1.wr W7
  have f7_F_withItems_a1 := f5_F_withItems_a1.other W7 (Or.inr (slot_ne (Or.inr (hU 25 _ rfl)) (Or.inl (hU 21 _ rfl)) (by decide) (t := .boolean) (t' := (.array .int)) (by decide) (by decide)))
  have f7_F_chunks_a1 := f5_F_chunks_a1.other W7 (Or.inr (slot_ne (Or.inl (hU 44 _ rfl)) (Or.inl (hU 21 _ rfl)) (by decide) (t := (.array (.object sN1))) (t' := (.array .int)) (by decide) (by decide)))
  have f7_F_chunkCount_a1 := f5_F_chunkCount_a1.other W7 (Or.inr (slot_ne (Or.inl (hU 23 _ rfl)) (Or.inl (hU 21 _ rfl)) (by decide) (t := .int) (t' := (.array .int)) (by decide) (by decide)))
  have f7_A_b5 := v5.other W7 (Ne.symm ne_a1_b5)
  have z7 : n0 ≤ h7.size := by rw [W7.size]; exact z5
  have K7 : Keep h0 h7 [a1] := K5.wr W7 (Or.inl (List.mem_of_getElem? (i := 0) rfl))
  have N7 := Fr.snoc X7 N0 g_a1
  have R8 := fun t k => R6 t (st7 t k)
  have R9 : ∀ t, own_S p e below T7 (mkF m 13 #[rv a1, iv (0 : Int32)] [(.int (1 : Int32)), (.ref a1)]) t → own_S p e below s₁ f0 t := fun t k => R8 t (by
    refine XS.aloadN X7.here hx rfl (hb hby d3_11) rfl rfl ?_
    refine XS.iconst X7.here hx rfl (hb hby d3_12) ?_
    exact k)
  obtain ⟨T10, h10, X10, e10, W10, st10⟩ := putF X7 hx hZ hown (host := "") (Or.inl (hU 22 _ rfl)) Via.refl e7 f7_F_chunkCount_a1 f7_E_a1 (Or.inl (hU 23 _ rfl)) (hU 13 _ rfl) (ty := .int) (by decide) rfl rfl (g := (mkF m 13 #[rv a1, iv (0 : Int32)] [(.int (1 : Int32)), (.ref a1)])) rfl rfl (hb hby d3_13)
  have fw10 : Fld Z h10 a1 sN0 "chunkCount" "I" (.int (1 : Int32)) := f7_F_chunkCount_a1.same W10
  have f10_E_a1 := f7_E_a1.wr W10
  have f10_F_withItems_a1 := f7_F_withItems_a1.other W10 (Or.inr (slot_ne (Or.inr (hU 25 _ rfl)) (Or.inl (hU 23 _ rfl)) (by decide) (t := .boolean) (t' := .int) (by decide) (by decide)))
  have f10_F_chunks_a1 := f7_F_chunks_a1.other W10 (Or.inr (slot_ne (Or.inl (hU 44 _ rfl)) (Or.inl (hU 23 _ rfl)) (by decide) (t := (.array (.object sN1))) (t' := .int) (by decide) (by decide)))
  have f10_F_firsts_a1 := fw7.other W10 (Or.inr (slot_ne (Or.inl (hU 21 _ rfl)) (Or.inl (hU 23 _ rfl)) (by decide) (t := (.array .int)) (t' := .int) (by decide) (by decide)))
  have f10_A_b5 := f7_A_b5.other W10 (Ne.symm ne_a1_b5)
  have z10 : n0 ≤ h10.size := by rw [W10.size]; exact z7
  have K10 : Keep h0 h10 [a1] := K7.wr W10 (Or.inl (List.mem_of_getElem? (i := 0) rfl))
  have N10 := Fr.snoc X10 N7 g_a1
  have R11 := fun t k => R9 t (st10 t k)
  have R12 : ∀ t, own_S p e below T10 (mkF m 18 #[rv a1, iv (0 : Int32)] [(.int (0 : Int32)), (.ref a1)]) t → own_S p e below s₁ f0 t := fun t k => R11 t (by
    refine XS.aloadN X10.here hx rfl (hb hby d3_16) rfl rfl ?_
    refine XS.iloadN X10.here hx rfl (hb hby d3_17) rfl  ?_
    exact k)
  obtain ⟨T13, h13, X13, e13, W13, st13⟩ := putFN X10 hx hZ hown (hU 24 _ rfl) Via.refl e10 f10_F_withItems_a1 f10_E_a1 (Or.inr ⟨(hU 25 _ rfl), rfl, hnm⟩) (hU 13 _ rfl) (ty := .boolean) (v' := (.int (0 : Int32))) (by decide) rfl rfl (g := (mkF m 18 #[rv a1, iv (0 : Int32)] [(.int (0 : Int32)), (.ref a1)])) rfl rfl (hb hby d3_18)
  have fw13 : Fld Z h13 a1 sN0 "withItems" "Z" (.int (0 : Int32)) := f10_F_withItems_a1.same W13
  have f13_E_a1 := f10_E_a1.wr W13
  have f13_F_chunks_a1 := f10_F_chunks_a1.other W13 (Or.inr (slot_ne (Or.inl (hU 44 _ rfl)) (Or.inr (hU 25 _ rfl)) (by decide) (t := (.array (.object sN1))) (t' := .boolean) (by decide) (by decide)))
  have f13_F_firsts_a1 := f10_F_firsts_a1.other W13 (Or.inr (slot_ne (Or.inl (hU 21 _ rfl)) (Or.inr (hU 25 _ rfl)) (by decide) (t := (.array .int)) (t' := .boolean) (by decide) (by decide)))
  have f13_F_chunkCount_a1 := fw10.other W13 (Or.inr (slot_ne (Or.inl (hU 23 _ rfl)) (Or.inr (hU 25 _ rfl)) (by decide) (t := .int) (t' := .boolean) (by decide) (by decide)))
  have f13_A_b5 := f10_A_b5.other W13 (Ne.symm ne_a1_b5)
  have z13 : n0 ≤ h13.size := by rw [W13.size]; exact z10
  have K13 : Keep h0 h13 [a1] := K10.wr W13 (Or.inl (List.mem_of_getElem? (i := 0) rfl))
  have N13 := Fr.snoc X13 N10 g_a1
  have R14 := fun t k => R12 t (st13 t k)
  have R15 : ∀ t, own_S p e below T13 (mkF m 23 #[rv a1, iv (0 : Int32)] [(.int (1 : Int32)), (.ref a1)]) t → own_S p e below s₁ f0 t := fun t k => R14 t (by
    refine XS.aloadN X13.here hx rfl (hb hby d3_21) rfl rfl ?_
    refine XS.iconst X13.here hx rfl (hb hby d3_22) ?_
    exact k)
  obtain ⟨T16, h16, k16, X16, e16, E16, A16, O16, st16⟩ := newR X13 hx hZ hown (hU 26 _ rfl) (hU 27 _ rfl) e13 (g := (mkF m 23 #[rv a1, iv (0 : Int32)] [(.int (1 : Int32)), (.ref a1)])) rfl (hb hby d3_23) rfl (by decide) (cap := 1) (by decide) (by decide) (by decide) (by decide)
  obtain ⟨b16, g16⟩ : ∃ z, z = h13.size := ⟨_, rfl⟩
  rw [← g16] at A16 st16
  have g_b16 : n0 ≤ b16 := Nat.le_trans z13 (Nat.le_of_eq g16.symm)
  have sz_b16 : h0.size ≤ b16 := Nat.le_trans K13.1 (Nat.le_of_eq g16.symm)
  have ne_a1_b16 : a1 ≠ b16 := Nat.ne_of_lt (Nat.lt_of_lt_of_le f13_E_a1.lt (Nat.le_of_eq g16.symm))
  have ne_b5_b16 : b5 ≠ b16 := Nat.ne_of_lt (Nat.lt_of_lt_of_le f13_A_b5.lt (Nat.le_of_eq g16.symm))
  have f16_E_a1 := f13_E_a1.ext E16
  have f16_F_withItems_a1 := fw13.ext E16
  have f16_F_chunks_a1 := f13_F_chunks_a1.ext E16
  have f16_F_firsts_a1 := f13_F_firsts_a1.ext E16
  have f16_F_chunkCount_a1 := f13_F_chunkCount_a1.ext E16
  have f16_A_b5 := f13_A_b5.ext E16
  have z16 : n0 ≤ h16.size := Nat.le_trans z13 E16.1
  have K16 : Keep h0 h16 [a1] := K13.ext E16
  have v16 : Arv Z h16 b16 k16 (.object sN1) (1 : Int32) [.null] .null := (Arv.new A16 (by decide)).pad (pad_rep [] .null 1)
  have R17 := fun t k => R15 t (st16 t k)
  have R18 : ∀ t, own_S p e below T16 (mkF m 28 #[rv a1, iv (0 : Int32)] [(.int (0 : Int32)), (.ref b16), (.ref b16), (.ref a1)]) t → own_S p e below s₁ f0 t := fun t k => R17 t (by
    refine XS.dup X16.here hx rfl (hb hby d3_26) rfl rfl ?_
    refine XS.iconst X16.here hx rfl (hb hby d3_27) ?_
    exact k)
  obtain ⟨T19, h19, X19, e19, E19, A19, D19, -, st19⟩ := newO X16 hx hZ hown (hU 26 _ rfl) (hU 28 _ rfl) (hU 29 _ rfl) e16 (g := (mkF m 28 #[rv a1, iv (0 : Int32)] [(.int (0 : Int32)), (.ref b16), (.ref b16), (.ref a1)])) rfl (hb hby d3_28) (by decide) (by decide)
  obtain ⟨b19, g19⟩ : ∃ z, z = h16.size := ⟨_, rfl⟩
  rw [← g19] at A19 D19 st19
  have g_b19 : n0 ≤ b19 := Nat.le_trans z16 (Nat.le_of_eq g19.symm)
  have sz_b19 : h0.size ≤ b19 := Nat.le_trans K16.1 (Nat.le_of_eq g19.symm)
  have ne_a1_b19 : a1 ≠ b19 := Nat.ne_of_lt (Nat.lt_of_lt_of_le f16_E_a1.lt (Nat.le_of_eq g19.symm))
  have ne_b5_b19 : b5 ≠ b19 := Nat.ne_of_lt (Nat.lt_of_lt_of_le f16_A_b5.lt (Nat.le_of_eq g19.symm))
  have ne_b16_b19 : b16 ≠ b19 := Nat.ne_of_lt (Nat.lt_of_lt_of_le v16.lt (Nat.le_of_eq g19.symm))
  have f19_E_a1 := f16_E_a1.ext E19
  have f19_F_withItems_a1 := f16_F_withItems_a1.ext E19
  have f19_F_chunks_a1 := f16_F_chunks_a1.ext E19
  have f19_F_firsts_a1 := f16_F_firsts_a1.ext E19
  have f19_F_chunkCount_a1 := f16_F_chunkCount_a1.ext E19
  have f19_A_b5 := f16_A_b5.ext E19
  have f19_A_b16 := v16.ext E19
  have z19 : n0 ≤ h19.size := Nat.le_trans z16 E19.1
  have K19 : Keep h0 h19 [a1] := K16.ext E19
  have d19_starts : Fld Z h19 b19 sN1 "starts" "[I" .null := D19 (Or.inr (hU 35 _ rfl)) (ty := (.array .int)) (by decide)
  have d19_ends : Fld Z h19 b19 sN1 "ends" "[I" .null := D19 (Or.inr (hU 37 _ rfl)) (ty := (.array .int)) (by decide)
  have d19_items : Fld Z h19 b19 sN1 "items" "[Ljava/lang/Object;" .null := D19 (Or.inr (hU 41 _ rfl)) (ty := (.array (.object "java/lang/Object"))) (by decide)
  have d19_size : Fld Z h19 b19 sN1 "size" "I" (.int (0 : Int32)) := D19 (Or.inl (hU 67 _ rfl)) (ty := .int) (by decide)
  have R20 := fun t k => R18 t (st19 t k)
  have R21 : ∀ t, own_S p e below T19 (mkF m 33 #[rv a1, iv (0 : Int32)] [(.int (0 : Int32)), (.ref b19), (.ref b19), (.int (0 : Int32)), (.ref b16), (.ref b16), (.ref a1)]) t → own_S p e below s₁ f0 t := fun t k => R20 t (by
    refine XS.dup X19.here hx rfl (hb hby d3_31) rfl rfl ?_
    refine XS.iloadN X19.here hx rfl (hb hby d3_32) rfl  ?_
    exact k)
  obtain ⟨_, _, ⟨T22, L22, k22, n22⟩, -, X22, ⟨Lc22, hQ22, l22, y22, z22⟩, st22⟩ := X19.specialBack hx (y := (⟨sN1, "<init>", "(Z)V"⟩ : MethodName)) rfl hown (mvT hZ (hU 30 _ rfl)) (mvT hZ (hU 31 _ rfl)) (mvT hZ (hU 32 _ rfl)) (by decide) (backOf (W := 5) (rmChunk0 l Z a0 hw [] b19 .null .null .null h19 n0 z19 A19 d19_starts d19_ends d19_items d19_size g_b19) hZ (hU 32 _ rfl) (hU 29 _ rfl) (by decide) (by decide)) (g := (mkF m 33 #[rv a1, iv (0 : Int32)] [(.int (0 : Int32)), (.ref b19), (.ref b19), (.int (0 : Int32)), (.ref b16), (.ref b16), (.ref a1)])) rfl (by rw [hml]; rfl) (Steps.refl _) (a := b19) (argsL := [(.int (0 : Int32))]) (rest := [(.ref b19), (.int (0 : Int32)), (.ref b16), (.ref b16), (.ref a1)]) (lenOf pd_2 rfl) rfl (Nat.le_of_eq rfl) (hb hby d3_33) (fun _ _ => ⟨rfl, e19, (by decide : 3 + 1 ≤ _), (by decide : 6 + 256 ≤ _)⟩)
  dsimp only [Pt.U, Pt.locs, Pt.cells, Pt.slots] at X22 l22 y22 z22 st22 hQ22
  subst l22 y22 z22
  obtain ⟨sa_22, kst_22, rfl, N22q, p22_0, p22_1, p22_2, p22_3, p22_4, p22_5, p22_6⟩ := hQ22
  have N22 := Fr.app N13 N22q
  have f22_E_a1 := f19_E_a1.keep p22_0
  have f22_F_withItems_a1 := f19_F_withItems_a1.keep p22_0 (ninS ne_a1_b19 nin0)
  have f22_F_chunks_a1 := f19_F_chunks_a1.keep p22_0 (ninS ne_a1_b19 nin0)
  have f22_F_firsts_a1 := f19_F_firsts_a1.keep p22_0 (ninS ne_a1_b19 nin0)
  have f22_F_chunkCount_a1 := f19_F_chunkCount_a1.keep p22_0 (ninS ne_a1_b19 nin0)
  have f22_A_b5 := f19_A_b5.keep p22_0 (ninS ne_b5_b19 nin0)
  have f22_A_b16 := f19_A_b16.keep p22_0 (ninS ne_b16_b19 nin0)
  have f22_E_b19 := A19.keep p22_0
  have z22 : n0 ≤ T22.heap.size := Nat.le_trans z19 p22_0.1
  have K22 : Keep h0 T22.heap [a1] := K19.trans p22_0 (allS (Or.inr sz_b19) all0)
  have g_sa_22 : n0 ≤ sa_22 := Nat.le_trans z19 p22_6
  have sz_sa_22 : h0.size ≤ sa_22 := Nat.le_trans K19.1 p22_6
  have ne_a1_sa_22 : a1 ≠ sa_22 := Nat.ne_of_lt (Nat.lt_of_lt_of_le f19_F_withItems_a1.lt p22_6)
  have ne_b5_sa_22 : b5 ≠ sa_22 := Nat.ne_of_lt (Nat.lt_of_lt_of_le f19_A_b5.lt p22_6)
  have ne_b16_sa_22 : b16 ≠ sa_22 := Nat.ne_of_lt (Nat.lt_of_lt_of_le f19_A_b16.lt p22_6)
  have ne_b19_sa_22 : b19 ≠ sa_22 := Nat.ne_of_lt (Nat.lt_of_lt_of_le d19_starts.lt p22_6)
  have R23 := fun t k => R21 t (st22.trans k)
  obtain ⟨cl24, Ar24, q24, S24, n24_, H24, G24⟩ := id f22_A_b16
  have hin24 : ¬ ((0 : Int32) < 0 ∨ cl24.slots.size ≤ ((0 : Int32)).toNatClampNeg) := inb_of S24 ⟨by decide, by decide⟩
  obtain ⟨T24, h24, X24, e24, W24, st24⟩ := stR X22 hx hZ rfl Ar24 (j := (0 : Int32)) hin24 rfl (Sto.ofV Ar24 q24 O16 (Ins.self f22_E_b19)) (g := (mkF m 36 #[rv a1, iv (0 : Int32)] [(.ref b19), (.int (0 : Int32)), (.ref b16), (.ref b16), (.ref a1)])) rfl rfl (hb hby d3_36)
  have f24_E_a1 := f22_E_a1.wr W24
  have f24_F_withItems_a1 := f22_F_withItems_a1.other W24 (Or.inl ne_a1_b16)
  have f24_F_chunks_a1 := f22_F_chunks_a1.other W24 (Or.inl ne_a1_b16)
  have f24_F_firsts_a1 := f22_F_firsts_a1.other W24 (Or.inl ne_a1_b16)
  have f24_F_chunkCount_a1 := f22_F_chunkCount_a1.other W24 (Or.inl ne_a1_b16)
  have f24_A_b5 := f22_A_b5.other W24 ne_b5_b16
  have f24_E_b19 := f22_E_b19.wr W24
  have f24_F_starts_b19 := p22_1.other W24 (Or.inl (Ne.symm ne_b16_b19))
  have f24_F_ends_b19 := p22_2.other W24 (Or.inl (Ne.symm ne_b16_b19))
  have f24_F_items_b19 := p22_3.other W24 (Or.inl (Ne.symm ne_b16_b19))
  have f24_F_size_b19 := p22_4.other W24 (Or.inl (Ne.symm ne_b16_b19))
  have f24_A_sa_22 := p22_5.other W24 (Ne.symm ne_b16_sa_22)
  have z24 : n0 ≤ h24.size := by rw [W24.size]; exact z22
  have K24 : Keep h0 h24 [a1] := K22.wr W24 (Or.inr sz_b16)
  have v24 : Arv Z h24 b16 k16 (.object sN1) (1 : Int32) [(.ref b19)] .null := Arv.set Ar24 q24 S24 n24_ H24 G24 rfl W24 0 rfl (Nat.le_of_ble_eq_true rfl)
  have N24 := Fr.snoc X24 N22 g_b16
  have R25 := fun t k => R23 t (st24 t k)
  obtain ⟨T26, h26, X26, e26, W26, st26⟩ := putF X24 hx hZ hown (host := "") (Or.inl (hU 43 _ rfl)) Via.refl e24 f24_F_chunks_a1 f24_E_a1 (Or.inl (hU 44 _ rfl)) (hU 13 _ rfl) (ty := (.array (.object sN1))) (by decide) rfl rfl (g := (mkF m 37 #[rv a1, iv (0 : Int32)] [(.ref b16), (.ref a1)])) rfl rfl (hb hby d3_37)
  have fw26 : Fld Z h26 a1 sN0 "chunks" sN3 (.ref b16) := f24_F_chunks_a1.same W26
  have f26_E_a1 := f24_E_a1.wr W26
  have f26_F_withItems_a1 := f24_F_withItems_a1.other W26 (Or.inr (slot_ne (Or.inr (hU 25 _ rfl)) (Or.inl (hU 44 _ rfl)) (by decide) (t := .boolean) (t' := (.array (.object sN1))) (by decide) (by decide)))
  have f26_F_firsts_a1 := f24_F_firsts_a1.other W26 (Or.inr (slot_ne (Or.inl (hU 21 _ rfl)) (Or.inl (hU 44 _ rfl)) (by decide) (t := (.array .int)) (t' := (.array (.object sN1))) (by decide) (by decide)))
  have f26_F_chunkCount_a1 := f24_F_chunkCount_a1.other W26 (Or.inr (slot_ne (Or.inl (hU 23 _ rfl)) (Or.inl (hU 44 _ rfl)) (by decide) (t := .int) (t' := (.array (.object sN1))) (by decide) (by decide)))
  have f26_A_b5 := f24_A_b5.other W26 (Ne.symm ne_a1_b5)
  have f26_A_b16 := v24.other W26 (Ne.symm ne_a1_b16)
  have f26_E_b19 := f24_E_b19.wr W26
  have f26_F_starts_b19 := f24_F_starts_b19.other W26 (Or.inl (Ne.symm ne_a1_b19))
  have f26_F_ends_b19 := f24_F_ends_b19.other W26 (Or.inl (Ne.symm ne_a1_b19))
  have f26_F_items_b19 := f24_F_items_b19.other W26 (Or.inl (Ne.symm ne_a1_b19))
  have f26_F_size_b19 := f24_F_size_b19.other W26 (Or.inl (Ne.symm ne_a1_b19))
  have f26_A_sa_22 := f24_A_sa_22.other W26 (Ne.symm ne_a1_sa_22)
  have z26 : n0 ≤ h26.size := by rw [W26.size]; exact z24
  have K26 : Keep h0 h26 [a1] := K24.wr W26 (Or.inl (List.mem_of_getElem? (i := 0) rfl))
  have N26 := Fr.snoc X26 N24 g_a1
  have R27 := fun t k => R25 t (st26 t k)
  obtain ⟨fs, hr, hrun, hended, hW, hsame⟩ := X26.leave (v := none) (fun _ => rfl)
  refine ⟨_, _, pre0 _ (R27 _ ?_), hrun, hended, _, _, rfl, ?_, ⟨_, rfl⟩, hW, hsame.mono (by decide) (by decide)⟩
  · show own_S p e below T26 (mkF m 40 #[rv a1, iv (0 : Int32)] []) _
    exact X26.returnOut hx Bd.returns (hb hby d3_40) hr
  · show Q_rmOffs0 Z a1 u1 u2 u3 u4 h0 n0 _ T26.heap _
    rw [e26]
    exact ⟨b5, k5, b16, k16, b19, sa_22, kst_22, rfl, N26, K26, f26_F_withItems_a1, fw26, f26_F_firsts_a1, f26_F_chunkCount_a1, f26_A_b5, f26_A_b16, f26_E_b19, f26_F_starts_b19, f26_F_ends_b19, f26_F_items_b19, f26_F_size_b19, f26_A_sa_22, sz_b5, sz_b16, sz_sa_22, sz_b19, ne_b5_b16, ne_b5_sa_22, ne_b16_sa_22⟩
theorem ef_rmFol (m : MethodId) (x0 : Addr) : entryFrame m #[(.ref x0)] 1 = mkF m 0 #[rv x0] [] := by first | (simp [entryFrame, mkF, argsToLocals, Value.category]; done) | rfl
def Q_rmFol (Z : State) (a1 : Addr) (u1 : Value) (u2 : Value) (h0 : Heap) (n0 : Nat) (v : Option Value) (h : Heap) (L : List Loc) : Prop := ∃ oR : Addr, ∃ fiR : Addr, ∃ kfiR : ClassId, ∃ ckR : Addr, ∃ kckR : ClassId, ∃ kkR : Addr, ∃ saR : Addr, ∃ kstR : ClassId, ∃ enR : Addr, ∃ kenR : ClassId, ∃ itR : Addr, ∃ kitR : ClassId, ∃ oU : Addr, ∃ ckU : Addr, ∃ kckU : ClassId, ∃ kkU : Addr, v = none ∧ Fr n0 L ∧ Keep h0 h [a1] ∧ (Fld Z h a1 sN2 "read" sN4 (.ref oR)) ∧ (Fld Z h a1 sN2 "unread" sN4 (.ref oU)) ∧ (Exa Z h oR sN0) ∧ (Fld Z h oR sN0 "chunks" sN3 (.ref ckR)) ∧ (Fld Z h oR sN0 "chunkCount" "I" (.int (1 : Int32))) ∧ (Fld Z h oR sN0 "firsts" "[I" (.ref fiR)) ∧ (Fld Z h oR sN0 "withItems" "Z" (.int (1 : Int32))) ∧ (Arv Z h ckR kckR (.object sN1) (1 : Int32) [(.ref kkR)] .null) ∧ (Exa Z h kkR sN1) ∧ (Fld Z h kkR sN1 "size" "I" (.int (0 : Int32))) ∧ (Fld Z h kkR sN1 "starts" "[I" (.ref saR)) ∧ (Arv Z h fiR kfiR .int (1 : Int32) [(.int (0 : Int32))] (.int (0 : Int32))) ∧ (Arv Z h saR kstR .int (256 : Int32) [(.int (0 : Int32)), (.int (0 : Int32)), (.int (0 : Int32))] (.int (0 : Int32))) ∧ (Fld Z h kkR sN1 "ends" "[I" (.ref enR)) ∧ (Fld Z h kkR sN1 "items" "[Ljava/lang/Object;" (.ref itR)) ∧ (Arv Z h enR kenR .int (256 : Int32) [(.int (0 : Int32)), (.int (0 : Int32)), (.int (0 : Int32))] (.int (0 : Int32))) ∧ (Arv Z h itR kitR (.object "java/lang/Object") (256 : Int32) [.null, .null, .null] .null) ∧ (Exa Z h oU sN0) ∧ (Fld Z h oU sN0 "chunks" sN3 (.ref ckU)) ∧ (Arv Z h ckU kckU (.object sN1) (1 : Int32) [(.ref kkU)] .null) ∧ (Exa Z h kkU sN1) ∧ (Fld Z h kkU sN1 "size" "I" (.int (0 : Int32))) ∧ (Ovr Z kitR "java/lang/Object") ∧ (h0.size ≤ fiR) ∧ (h0.size ≤ ckR) ∧ (h0.size ≤ saR) ∧ (h0.size ≤ enR) ∧ (h0.size ≤ itR) ∧ (h0.size ≤ kkR) ∧ (h0.size ≤ oR) ∧ (h0.size ≤ oU) ∧ (h0.size ≤ ckU) ∧ (h0.size ≤ kkU) ∧ (fiR ≠ ckR) ∧ (fiR ≠ saR) ∧ (fiR ≠ enR) ∧ (fiR ≠ itR) ∧ (ckR ≠ saR) ∧ (ckR ≠ enR) ∧ (ckR ≠ itR) ∧ (saR ≠ enR) ∧ (saR ≠ itR) ∧ (enR ≠ itR) ∧ (ckU ≠ saR) ∧ (ckU ≠ enR) ∧ (ckU ≠ itR) ∧ (ckU ≠ fiR) ∧ (kkU ≠ kkR) ∧ (oR ≠ oU)
set_option maxRecDepth 65536 in
set_option maxHeartbeats 40000000 in
theorem rmFol (l : Launch) (Z : State) (a0 : Array Value) (hw : ∀ d ∈ tables_1, d.before a0 Z = true) (ws : List Jvm.Cond) (a1 : Addr) (u1 : Value) (u2 : Value) (h0 : Heap) (n0 : Nat) (Z0 : n0 ≤ h0.size) (E_a1 : Exa Z h0 a1 sN2) (F_read_a1 : Fld Z h0 a1 sN2 "read" sN4 u1) (F_unread_a1 : Fld Z h0 a1 sN2 "unread" sN4 u2) (g_a1 : n0 ≤ a1) :
    own_M l (⟨sN2, "<init>", "()V"⟩ : MethodName) (Jvm.Cond.code (⟨sN2, "<init>", "()V"⟩ : MethodName) prog_116_method_1_code 1 none :: ws) ({ frames := 3, cells := 12, slots := 1044, locals := 45 } : Room) #[(.ref a1)] Z h0 (Q_rmFol Z a1 u1 u2 h0 n0) := by
  refine MetFree.of_bodySF (plainFor_of_name pn_3) hisR ?_
  intro p e s m args below meth c s₁ Bd hml0 hP hK
  obtain ⟨rfl, hZ, hh⟩ := hP
  have hx := Bd.exec
  have hby := Bd.bytes
  have hml : c.maxLocals = 1 := hml0
  have hown : s.vm.findClass sN2 = some m.cls := findClass_of_methodNamed Bd.named
  have hnm := (name_of_methodNamed Bd.named Bd.method).1
  have X0 : Stand p l e ({ frames := 3, cells := 12, slots := 1044, locals := 45 } : Room) s m #[(.ref a1)] below meth c s₁ [] 0 0 := Stand.of_body Bd
  have hU : ∀ (i : Nat) (d : Jvm.Cond), tables_1[i]? = some d → d.before a0 Z = true := fun i d h => hw d (List.mem_of_getElem? h)
  have e0 : s₁.heap = h0 := by rw [← hh, Bd.state]; rfl
  have N0 := Fr.nil n0
  obtain ⟨f0, hf0⟩ : ∃ f : JFrame, f = mkF m 0 #[rv a1] [] := ⟨_, rfl⟩
  have pre0 : ∀ t, own_S p e below s₁ f0 t → Steps p.tables e below (s₁.setTop (entryFrame m #[(.ref a1)] 1)) t := fun t k => castTop ((ef_rmFol m a1).trans hf0.symm) k
  have R0 : ∀ t, own_S p e below s₁ (mkF m 0 #[rv a1] []) t → own_S p e below s₁ f0 t := by rw [hf0]; exact fun t k => k
  have R1 : ∀ t, own_S p e below s₁ (mkF m 1 #[rv a1] [(.ref a1)]) t → own_S p e below s₁ f0 t := fun t k => R0 t (by
    refine XS.aloadN X0.here hx rfl (hb hby d1_0) rfl rfl ?_
    exact k)
  obtain ⟨T2, X2, e2, st2⟩ := initO X0 hx hZ hown (hU 9 _ rfl) (hU 10 _ rfl) (hU 11 _ rfl) e0 (g := (mkF m 1 #[rv a1] [(.ref a1)])) rfl (by rw [hml]; rfl) rfl (hb hby d1_1) (by decide) (W := 0) (Nat.le_of_eq rfl) (by decide)
  have R3 := fun t k => R1 t (st2 t k)
  have R4 : ∀ t, own_S p e below T2 (mkF m 5 #[rv a1] [(.ref a1)]) t → own_S p e below s₁ f0 t := fun t k => R3 t (by
    refine XS.aloadN X2.here hx rfl (hb hby d1_4) rfl rfl ?_
    exact k)
  obtain ⟨T5, h5, X5, e5, E5, A5, D5, -, st5⟩ := newO X2 hx hZ hown (hU 12 _ rfl) (hU 13 _ rfl) (hU 14 _ rfl) e2 (g := (mkF m 5 #[rv a1] [(.ref a1)])) rfl (hb hby d1_5) (by decide) (by decide)
  obtain ⟨b5, g5⟩ : ∃ z, z = h0.size := ⟨_, rfl⟩
  rw [← g5] at A5 D5 st5
  have g_b5 : n0 ≤ b5 := Nat.le_trans Z0 (Nat.le_of_eq g5.symm)
  have sz_b5 : h0.size ≤ b5 := Nat.le_trans (Keep.refl h0 [a1]).1 (Nat.le_of_eq g5.symm)
  have ne_a1_b5 : a1 ≠ b5 := Nat.ne_of_lt (Nat.lt_of_lt_of_le E_a1.lt (Nat.le_of_eq g5.symm))
  have f5_E_a1 := E_a1.ext E5
  have f5_F_read_a1 := F_read_a1.ext E5
  have f5_F_unread_a1 := F_unread_a1.ext E5
  have z5 : n0 ≤ h5.size := Nat.le_trans Z0 E5.1
  have K5 : Keep h0 h5 [a1] := (Keep.refl h0 [a1]).ext E5
  have d5_firsts : Fld Z h5 b5 sN0 "firsts" "[I" .null := D5 (Or.inl (hU 21 _ rfl)) (ty := (.array .int)) (by decide)
  have d5_chunkCount : Fld Z h5 b5 sN0 "chunkCount" "I" (.int (0 : Int32)) := D5 (Or.inl (hU 23 _ rfl)) (ty := .int) (by decide)
  have d5_withItems : Fld Z h5 b5 sN0 "withItems" "Z" (.int (0 : Int32)) := D5 (Or.inr (hU 25 _ rfl)) (ty := .boolean) (by decide)
  have d5_chunks : Fld Z h5 b5 sN0 "chunks" sN3 .null := D5 (Or.inl (hU 44 _ rfl)) (ty := (.array (.object sN1))) (by decide)
  have R6 := fun t k => R4 t (st5 t k)
  have R7 : ∀ t, own_S p e below T5 (mkF m 10 #[rv a1] [(.int (1 : Int32)), (.ref b5), (.ref b5), (.ref a1)]) t → own_S p e below s₁ f0 t := fun t k => R6 t (by
    refine XS.dup X5.here hx rfl (hb hby d1_8) rfl rfl ?_
    refine XS.iconst X5.here hx rfl (hb hby d1_9) ?_
    exact k)
  obtain ⟨_, _, ⟨T8, L8, k8, n8⟩, -, X8, ⟨Lc8, hQ8, l8, y8, z8⟩, st8⟩ := X5.specialBack hx (y := (⟨sN0, "<init>", "(Z)V"⟩ : MethodName)) rfl hown (mvT hZ (hU 15 _ rfl)) (mvT hZ (hU 16 _ rfl)) (mvT hZ (hU 17 _ rfl)) (by decide) (backOf (W := 2) (rmOffs1 l Z a0 hw [] b5 (.int (0 : Int32)) .null .null (.int (0 : Int32)) h5 n0 z5 A5 d5_withItems d5_chunks d5_firsts d5_chunkCount g_b5) hZ (hU 17 _ rfl) (hU 14 _ rfl) (by decide) (by decide)) (g := (mkF m 10 #[rv a1] [(.int (1 : Int32)), (.ref b5), (.ref b5), (.ref a1)])) rfl (by rw [hml]; rfl) (Steps.refl _) (a := b5) (argsL := [(.int (1 : Int32))]) (rest := [(.ref b5), (.ref a1)]) (lenOf pd_2 rfl) rfl (Nat.le_of_eq rfl) (hb hby d1_10) (fun _ _ => ⟨rfl, e5, (by decide : 1 + 6 ≤ _), (by decide : 4 + 774 ≤ _)⟩)
  dsimp only [Pt.U, Pt.locs, Pt.cells, Pt.slots] at X8 l8 y8 z8 st8 hQ8
  subst l8 y8 z8
  obtain ⟨fi_8, kfi_8, ck_8, kck_8, kk_8, sa_8, kst_8, en_8, ken_8, it_8, kit_8, rfl, N8q, p8_0, p8_1, p8_2, p8_3, p8_4, p8_5, p8_6, p8_7, p8_8, p8_9, p8_10, p8_11, p8_12, p8_13, p8_14, p8_15, p8_16, p8_17, p8_18, p8_19, p8_20, p8_21, p8_22, p8_23, p8_24, p8_25, p8_26, p8_27, p8_28, p8_29, p8_30, p8_31⟩ := hQ8
  have N8 := Fr.app N0 N8q
  have f8_E_a1 := f5_E_a1.keep p8_0
  have f8_F_read_a1 := f5_F_read_a1.keep p8_0 (ninS ne_a1_b5 nin0)
  have f8_F_unread_a1 := f5_F_unread_a1.keep p8_0 (ninS ne_a1_b5 nin0)
  have f8_E_b5 := A5.keep p8_0
  have z8 : n0 ≤ T8.heap.size := Nat.le_trans z5 p8_0.1
  have K8 : Keep h0 T8.heap [a1] := K5.trans p8_0 (allS (Or.inr sz_b5) all0)
  have g_fi_8 : n0 ≤ fi_8 := Nat.le_trans z5 p8_16
  have sz_fi_8 : h0.size ≤ fi_8 := Nat.le_trans K5.1 p8_16
  have ne_a1_fi_8 : a1 ≠ fi_8 := Nat.ne_of_lt (Nat.lt_of_lt_of_le f5_F_read_a1.lt p8_16)
  have ne_b5_fi_8 : b5 ≠ fi_8 := Nat.ne_of_lt (Nat.lt_of_lt_of_le d5_firsts.lt p8_16)
  have g_ck_8 : n0 ≤ ck_8 := Nat.le_trans z5 p8_17
  have sz_ck_8 : h0.size ≤ ck_8 := Nat.le_trans K5.1 p8_17
  have ne_a1_ck_8 : a1 ≠ ck_8 := Nat.ne_of_lt (Nat.lt_of_lt_of_le f5_F_read_a1.lt p8_17)
  have ne_b5_ck_8 : b5 ≠ ck_8 := Nat.ne_of_lt (Nat.lt_of_lt_of_le d5_firsts.lt p8_17)
  have g_sa_8 : n0 ≤ sa_8 := Nat.le_trans z5 p8_18
  have sz_sa_8 : h0.size ≤ sa_8 := Nat.le_trans K5.1 p8_18
  have ne_a1_sa_8 : a1 ≠ sa_8 := Nat.ne_of_lt (Nat.lt_of_lt_of_le f5_F_read_a1.lt p8_18)
  have ne_b5_sa_8 : b5 ≠ sa_8 := Nat.ne_of_lt (Nat.lt_of_lt_of_le d5_firsts.lt p8_18)
  have g_en_8 : n0 ≤ en_8 := Nat.le_trans z5 p8_19
  have sz_en_8 : h0.size ≤ en_8 := Nat.le_trans K5.1 p8_19
  have ne_a1_en_8 : a1 ≠ en_8 := Nat.ne_of_lt (Nat.lt_of_lt_of_le f5_F_read_a1.lt p8_19)
  have ne_b5_en_8 : b5 ≠ en_8 := Nat.ne_of_lt (Nat.lt_of_lt_of_le d5_firsts.lt p8_19)
  have g_it_8 : n0 ≤ it_8 := Nat.le_trans z5 p8_20
  have sz_it_8 : h0.size ≤ it_8 := Nat.le_trans K5.1 p8_20
  have ne_a1_it_8 : a1 ≠ it_8 := Nat.ne_of_lt (Nat.lt_of_lt_of_le f5_F_read_a1.lt p8_20)
  have ne_b5_it_8 : b5 ≠ it_8 := Nat.ne_of_lt (Nat.lt_of_lt_of_le d5_firsts.lt p8_20)
  have g_kk_8 : n0 ≤ kk_8 := Nat.le_trans z5 p8_21
  have sz_kk_8 : h0.size ≤ kk_8 := Nat.le_trans K5.1 p8_21
  have ne_a1_kk_8 : a1 ≠ kk_8 := Nat.ne_of_lt (Nat.lt_of_lt_of_le f5_F_read_a1.lt p8_21)
  have ne_b5_kk_8 : b5 ≠ kk_8 := Nat.ne_of_lt (Nat.lt_of_lt_of_le d5_firsts.lt p8_21)
  have R9 := fun t k => R7 t (st8.trans k)
  obtain ⟨T10, h10, X10, e10, W10, st10⟩ := putF X8 hx hZ hown (host := "") (Or.inl (hU 45 _ rfl)) Via.refl rfl f8_F_read_a1 f8_E_a1 (Or.inr ⟨(hU 46 _ rfl), rfl, hnm⟩) (hU 4 _ rfl) (ty := (.object sN0)) (by decide) rfl rfl (g := (mkF m 13 #[rv a1] [(.ref b5), (.ref a1)])) rfl rfl (hb hby d1_13)
  have fw10 : Fld Z h10 a1 sN2 "read" sN4 (.ref b5) := f8_F_read_a1.same W10
  have f10_E_a1 := f8_E_a1.wr W10
  have f10_F_unread_a1 := f8_F_unread_a1.other W10 (Or.inr (slot_ne (Or.inr (hU 48 _ rfl)) (Or.inr (hU 46 _ rfl)) (by decide) (t := (.object sN0)) (t' := (.object sN0)) (by decide) (by decide)))
  have f10_E_b5 := f8_E_b5.wr W10
  have f10_F_withItems_b5 := p8_1.other W10 (Or.inl (Ne.symm ne_a1_b5))
  have f10_F_chunks_b5 := p8_2.other W10 (Or.inl (Ne.symm ne_a1_b5))
  have f10_F_firsts_b5 := p8_3.other W10 (Or.inl (Ne.symm ne_a1_b5))
  have f10_F_chunkCount_b5 := p8_4.other W10 (Or.inl (Ne.symm ne_a1_b5))
  have f10_A_fi_8 := p8_5.other W10 (Ne.symm ne_a1_fi_8)
  have f10_A_ck_8 := p8_6.other W10 (Ne.symm ne_a1_ck_8)
  have f10_E_kk_8 := p8_7.wr W10
  have f10_F_starts_kk_8 := p8_8.other W10 (Or.inl (Ne.symm ne_a1_kk_8))
  have f10_F_ends_kk_8 := p8_9.other W10 (Or.inl (Ne.symm ne_a1_kk_8))
  have f10_F_items_kk_8 := p8_10.other W10 (Or.inl (Ne.symm ne_a1_kk_8))
  have f10_F_size_kk_8 := p8_11.other W10 (Or.inl (Ne.symm ne_a1_kk_8))
  have f10_A_sa_8 := p8_12.other W10 (Ne.symm ne_a1_sa_8)
  have f10_A_en_8 := p8_13.other W10 (Ne.symm ne_a1_en_8)
  have f10_A_it_8 := p8_14.other W10 (Ne.symm ne_a1_it_8)
  have z10 : n0 ≤ h10.size := by rw [W10.size]; exact z8
  have K10 : Keep h0 h10 [a1] := K8.wr W10 (Or.inl (List.mem_of_getElem? (i := 0) rfl))
  have N10 := Fr.snoc X10 N8 g_a1
  have R11 := fun t k => R9 t (st10 t k)
  have R12 : ∀ t, own_S p e below T10 (mkF m 17 #[rv a1] [(.ref a1)]) t → own_S p e below s₁ f0 t := fun t k => R11 t (by
    refine XS.aloadN X10.here hx rfl (hb hby d1_16) rfl rfl ?_
    exact k)
  obtain ⟨T13, h13, X13, e13, E13, A13, D13, -, st13⟩ := newO X10 hx hZ hown (hU 12 _ rfl) (hU 13 _ rfl) (hU 14 _ rfl) e10 (g := (mkF m 17 #[rv a1] [(.ref a1)])) rfl (hb hby d1_17) (by decide) (by decide)
  obtain ⟨b13, g13⟩ : ∃ z, z = h10.size := ⟨_, rfl⟩
  rw [← g13] at A13 D13 st13
  have g_b13 : n0 ≤ b13 := Nat.le_trans z10 (Nat.le_of_eq g13.symm)
  have sz_b13 : h0.size ≤ b13 := Nat.le_trans K10.1 (Nat.le_of_eq g13.symm)
  have ne_a1_b13 : a1 ≠ b13 := Nat.ne_of_lt (Nat.lt_of_lt_of_le f10_E_a1.lt (Nat.le_of_eq g13.symm))
  have ne_b5_b13 : b5 ≠ b13 := Nat.ne_of_lt (Nat.lt_of_lt_of_le f10_E_b5.lt (Nat.le_of_eq g13.symm))
  have ne_fi_8_b13 : fi_8 ≠ b13 := Nat.ne_of_lt (Nat.lt_of_lt_of_le f10_A_fi_8.lt (Nat.le_of_eq g13.symm))
  have ne_ck_8_b13 : ck_8 ≠ b13 := Nat.ne_of_lt (Nat.lt_of_lt_of_le f10_A_ck_8.lt (Nat.le_of_eq g13.symm))
  have ne_kk_8_b13 : kk_8 ≠ b13 := Nat.ne_of_lt (Nat.lt_of_lt_of_le f10_E_kk_8.lt (Nat.le_of_eq g13.symm))
  have ne_sa_8_b13 : sa_8 ≠ b13 := Nat.ne_of_lt (Nat.lt_of_lt_of_le f10_A_sa_8.lt (Nat.le_of_eq g13.symm))
  have ne_en_8_b13 : en_8 ≠ b13 := Nat.ne_of_lt (Nat.lt_of_lt_of_le f10_A_en_8.lt (Nat.le_of_eq g13.symm))
  have ne_it_8_b13 : it_8 ≠ b13 := Nat.ne_of_lt (Nat.lt_of_lt_of_le f10_A_it_8.lt (Nat.le_of_eq g13.symm))
  have f13_E_a1 := f10_E_a1.ext E13
  have f13_F_read_a1 := fw10.ext E13
  have f13_F_unread_a1 := f10_F_unread_a1.ext E13
  have f13_E_b5 := f10_E_b5.ext E13
  have f13_F_withItems_b5 := f10_F_withItems_b5.ext E13
  have f13_F_chunks_b5 := f10_F_chunks_b5.ext E13
  have f13_F_firsts_b5 := f10_F_firsts_b5.ext E13
  have f13_F_chunkCount_b5 := f10_F_chunkCount_b5.ext E13
  have f13_A_fi_8 := f10_A_fi_8.ext E13
  have f13_A_ck_8 := f10_A_ck_8.ext E13
  have f13_E_kk_8 := f10_E_kk_8.ext E13
  have f13_F_starts_kk_8 := f10_F_starts_kk_8.ext E13
  have f13_F_ends_kk_8 := f10_F_ends_kk_8.ext E13
  have f13_F_items_kk_8 := f10_F_items_kk_8.ext E13
  have f13_F_size_kk_8 := f10_F_size_kk_8.ext E13
  have f13_A_sa_8 := f10_A_sa_8.ext E13
  have f13_A_en_8 := f10_A_en_8.ext E13
  have f13_A_it_8 := f10_A_it_8.ext E13
  have z13 : n0 ≤ h13.size := Nat.le_trans z10 E13.1
  have K13 : Keep h0 h13 [a1] := K10.ext E13
  have d13_firsts : Fld Z h13 b13 sN0 "firsts" "[I" .null := D13 (Or.inl (hU 21 _ rfl)) (ty := (.array .int)) (by decide)
  have d13_chunkCount : Fld Z h13 b13 sN0 "chunkCount" "I" (.int (0 : Int32)) := D13 (Or.inl (hU 23 _ rfl)) (ty := .int) (by decide)
  have d13_withItems : Fld Z h13 b13 sN0 "withItems" "Z" (.int (0 : Int32)) := D13 (Or.inr (hU 25 _ rfl)) (ty := .boolean) (by decide)
  have d13_chunks : Fld Z h13 b13 sN0 "chunks" sN3 .null := D13 (Or.inl (hU 44 _ rfl)) (ty := (.array (.object sN1))) (by decide)
  have R14 := fun t k => R12 t (st13 t k)
  have R15 : ∀ t, own_S p e below T13 (mkF m 22 #[rv a1] [(.int (0 : Int32)), (.ref b13), (.ref b13), (.ref a1)]) t → own_S p e below s₁ f0 t := fun t k => R14 t (by
    refine XS.dup X13.here hx rfl (hb hby d1_20) rfl rfl ?_
    refine XS.iconst X13.here hx rfl (hb hby d1_21) ?_
    exact k)
  obtain ⟨_, _, ⟨T16, L16, k16, n16⟩, -, X16, ⟨Lc16, hQ16, l16, y16, z16⟩, st16⟩ := X13.specialBack hx (y := (⟨sN0, "<init>", "(Z)V"⟩ : MethodName)) rfl hown (mvT hZ (hU 15 _ rfl)) (mvT hZ (hU 16 _ rfl)) (mvT hZ (hU 17 _ rfl)) (by decide) (backOf (W := 2) (rmOffs0 l Z a0 hw [] b13 (.int (0 : Int32)) .null .null (.int (0 : Int32)) h13 n0 z13 A13 d13_withItems d13_chunks d13_firsts d13_chunkCount g_b13) hZ (hU 17 _ rfl) (hU 14 _ rfl) (by decide) (by decide)) (g := (mkF m 22 #[rv a1] [(.int (0 : Int32)), (.ref b13), (.ref b13), (.ref a1)])) rfl (by rw [hml]; rfl) (Steps.refl _) (a := b13) (argsL := [(.int (0 : Int32))]) (rest := [(.ref b13), (.ref a1)]) (lenOf pd_2 rfl) rfl (Nat.le_of_eq rfl) (hb hby d1_22) (fun _ _ => ⟨rfl, e13, (by decide : 8 + 4 ≤ _), (by decide : 782 + 262 ≤ _)⟩)
  dsimp only [Pt.U, Pt.locs, Pt.cells, Pt.slots] at X16 l16 y16 z16 st16 hQ16
  subst l16 y16 z16
  obtain ⟨fi_16, kfi_16, ck_16, kck_16, kk_16, sa_16, kst_16, rfl, N16q, p16_0, p16_1, p16_2, p16_3, p16_4, p16_5, p16_6, p16_7, p16_8, p16_9, p16_10, p16_11, p16_12, p16_13, p16_14, p16_15, p16_16, p16_17, p16_18, p16_19⟩ := hQ16
  have N16 := Fr.app N10 N16q
  have f16_E_a1 := f13_E_a1.keep p16_0
  have f16_F_read_a1 := f13_F_read_a1.keep p16_0 (ninS ne_a1_b13 nin0)
  have f16_F_unread_a1 := f13_F_unread_a1.keep p16_0 (ninS ne_a1_b13 nin0)
  have f16_E_b5 := f13_E_b5.keep p16_0
  have f16_F_withItems_b5 := f13_F_withItems_b5.keep p16_0 (ninS ne_b5_b13 nin0)
  have f16_F_chunks_b5 := f13_F_chunks_b5.keep p16_0 (ninS ne_b5_b13 nin0)
  have f16_F_firsts_b5 := f13_F_firsts_b5.keep p16_0 (ninS ne_b5_b13 nin0)
  have f16_F_chunkCount_b5 := f13_F_chunkCount_b5.keep p16_0 (ninS ne_b5_b13 nin0)
  have f16_A_fi_8 := f13_A_fi_8.keep p16_0 (ninS ne_fi_8_b13 nin0)
  have f16_A_ck_8 := f13_A_ck_8.keep p16_0 (ninS ne_ck_8_b13 nin0)
  have f16_E_kk_8 := f13_E_kk_8.keep p16_0
  have f16_F_starts_kk_8 := f13_F_starts_kk_8.keep p16_0 (ninS ne_kk_8_b13 nin0)
  have f16_F_ends_kk_8 := f13_F_ends_kk_8.keep p16_0 (ninS ne_kk_8_b13 nin0)
  have f16_F_items_kk_8 := f13_F_items_kk_8.keep p16_0 (ninS ne_kk_8_b13 nin0)
  have f16_F_size_kk_8 := f13_F_size_kk_8.keep p16_0 (ninS ne_kk_8_b13 nin0)
  have f16_A_sa_8 := f13_A_sa_8.keep p16_0 (ninS ne_sa_8_b13 nin0)
  have f16_A_en_8 := f13_A_en_8.keep p16_0 (ninS ne_en_8_b13 nin0)
  have f16_A_it_8 := f13_A_it_8.keep p16_0 (ninS ne_it_8_b13 nin0)
  have f16_E_b13 := A13.keep p16_0
  have z16 : n0 ≤ T16.heap.size := Nat.le_trans z13 p16_0.1
  have K16 : Keep h0 T16.heap [a1] := K13.trans p16_0 (allS (Or.inr sz_b13) all0)
  have g_fi_16 : n0 ≤ fi_16 := Nat.le_trans z13 p16_13
  have sz_fi_16 : h0.size ≤ fi_16 := Nat.le_trans K13.1 p16_13
  have ne_a1_fi_16 : a1 ≠ fi_16 := Nat.ne_of_lt (Nat.lt_of_lt_of_le f13_F_read_a1.lt p16_13)
  have ne_b5_fi_16 : b5 ≠ fi_16 := Nat.ne_of_lt (Nat.lt_of_lt_of_le f13_F_withItems_b5.lt p16_13)
  have ne_fi_8_fi_16 : fi_8 ≠ fi_16 := Nat.ne_of_lt (Nat.lt_of_lt_of_le f13_A_fi_8.lt p16_13)
  have ne_ck_8_fi_16 : ck_8 ≠ fi_16 := Nat.ne_of_lt (Nat.lt_of_lt_of_le f13_A_ck_8.lt p16_13)
  have ne_kk_8_fi_16 : kk_8 ≠ fi_16 := Nat.ne_of_lt (Nat.lt_of_lt_of_le f13_F_starts_kk_8.lt p16_13)
  have ne_sa_8_fi_16 : sa_8 ≠ fi_16 := Nat.ne_of_lt (Nat.lt_of_lt_of_le f13_A_sa_8.lt p16_13)
  have ne_en_8_fi_16 : en_8 ≠ fi_16 := Nat.ne_of_lt (Nat.lt_of_lt_of_le f13_A_en_8.lt p16_13)
  have ne_it_8_fi_16 : it_8 ≠ fi_16 := Nat.ne_of_lt (Nat.lt_of_lt_of_le f13_A_it_8.lt p16_13)
  have ne_b13_fi_16 : b13 ≠ fi_16 := Nat.ne_of_lt (Nat.lt_of_lt_of_le d13_firsts.lt p16_13)
  have g_ck_16 : n0 ≤ ck_16 := Nat.le_trans z13 p16_14
  have sz_ck_16 : h0.size ≤ ck_16 := Nat.le_trans K13.1 p16_14
  have ne_a1_ck_16 : a1 ≠ ck_16 := Nat.ne_of_lt (Nat.lt_of_lt_of_le f13_F_read_a1.lt p16_14)
  have ne_b5_ck_16 : b5 ≠ ck_16 := Nat.ne_of_lt (Nat.lt_of_lt_of_le f13_F_withItems_b5.lt p16_14)
  have ne_fi_8_ck_16 : fi_8 ≠ ck_16 := Nat.ne_of_lt (Nat.lt_of_lt_of_le f13_A_fi_8.lt p16_14)
  have ne_ck_8_ck_16 : ck_8 ≠ ck_16 := Nat.ne_of_lt (Nat.lt_of_lt_of_le f13_A_ck_8.lt p16_14)
  have ne_kk_8_ck_16 : kk_8 ≠ ck_16 := Nat.ne_of_lt (Nat.lt_of_lt_of_le f13_F_starts_kk_8.lt p16_14)
  have ne_sa_8_ck_16 : sa_8 ≠ ck_16 := Nat.ne_of_lt (Nat.lt_of_lt_of_le f13_A_sa_8.lt p16_14)
  have ne_en_8_ck_16 : en_8 ≠ ck_16 := Nat.ne_of_lt (Nat.lt_of_lt_of_le f13_A_en_8.lt p16_14)
  have ne_it_8_ck_16 : it_8 ≠ ck_16 := Nat.ne_of_lt (Nat.lt_of_lt_of_le f13_A_it_8.lt p16_14)
  have ne_b13_ck_16 : b13 ≠ ck_16 := Nat.ne_of_lt (Nat.lt_of_lt_of_le d13_firsts.lt p16_14)
  have g_sa_16 : n0 ≤ sa_16 := Nat.le_trans z13 p16_15
  have sz_sa_16 : h0.size ≤ sa_16 := Nat.le_trans K13.1 p16_15
  have ne_a1_sa_16 : a1 ≠ sa_16 := Nat.ne_of_lt (Nat.lt_of_lt_of_le f13_F_read_a1.lt p16_15)
  have ne_b5_sa_16 : b5 ≠ sa_16 := Nat.ne_of_lt (Nat.lt_of_lt_of_le f13_F_withItems_b5.lt p16_15)
  have ne_fi_8_sa_16 : fi_8 ≠ sa_16 := Nat.ne_of_lt (Nat.lt_of_lt_of_le f13_A_fi_8.lt p16_15)
  have ne_ck_8_sa_16 : ck_8 ≠ sa_16 := Nat.ne_of_lt (Nat.lt_of_lt_of_le f13_A_ck_8.lt p16_15)
  have ne_kk_8_sa_16 : kk_8 ≠ sa_16 := Nat.ne_of_lt (Nat.lt_of_lt_of_le f13_F_starts_kk_8.lt p16_15)
  have ne_sa_8_sa_16 : sa_8 ≠ sa_16 := Nat.ne_of_lt (Nat.lt_of_lt_of_le f13_A_sa_8.lt p16_15)
  have ne_en_8_sa_16 : en_8 ≠ sa_16 := Nat.ne_of_lt (Nat.lt_of_lt_of_le f13_A_en_8.lt p16_15)
  have ne_it_8_sa_16 : it_8 ≠ sa_16 := Nat.ne_of_lt (Nat.lt_of_lt_of_le f13_A_it_8.lt p16_15)
  have ne_b13_sa_16 : b13 ≠ sa_16 := Nat.ne_of_lt (Nat.lt_of_lt_of_le d13_firsts.lt p16_15)
  have g_kk_16 : n0 ≤ kk_16 := Nat.le_trans z13 p16_16
  have sz_kk_16 : h0.size ≤ kk_16 := Nat.le_trans K13.1 p16_16
  have ne_a1_kk_16 : a1 ≠ kk_16 := Nat.ne_of_lt (Nat.lt_of_lt_of_le f13_F_read_a1.lt p16_16)
  have ne_b5_kk_16 : b5 ≠ kk_16 := Nat.ne_of_lt (Nat.lt_of_lt_of_le f13_F_withItems_b5.lt p16_16)
  have ne_fi_8_kk_16 : fi_8 ≠ kk_16 := Nat.ne_of_lt (Nat.lt_of_lt_of_le f13_A_fi_8.lt p16_16)
  have ne_ck_8_kk_16 : ck_8 ≠ kk_16 := Nat.ne_of_lt (Nat.lt_of_lt_of_le f13_A_ck_8.lt p16_16)
  have ne_kk_8_kk_16 : kk_8 ≠ kk_16 := Nat.ne_of_lt (Nat.lt_of_lt_of_le f13_F_starts_kk_8.lt p16_16)
  have ne_sa_8_kk_16 : sa_8 ≠ kk_16 := Nat.ne_of_lt (Nat.lt_of_lt_of_le f13_A_sa_8.lt p16_16)
  have ne_en_8_kk_16 : en_8 ≠ kk_16 := Nat.ne_of_lt (Nat.lt_of_lt_of_le f13_A_en_8.lt p16_16)
  have ne_it_8_kk_16 : it_8 ≠ kk_16 := Nat.ne_of_lt (Nat.lt_of_lt_of_le f13_A_it_8.lt p16_16)
  have ne_b13_kk_16 : b13 ≠ kk_16 := Nat.ne_of_lt (Nat.lt_of_lt_of_le d13_firsts.lt p16_16)
  have R17 := fun t k => R15 t (st16.trans k)
  obtain ⟨T18, h18, X18, e18, W18, st18⟩ := putF X16 hx hZ hown (host := "") (Or.inl (hU 47 _ rfl)) Via.refl rfl f16_F_unread_a1 f16_E_a1 (Or.inr ⟨(hU 48 _ rfl), rfl, hnm⟩) (hU 4 _ rfl) (ty := (.object sN0)) (by decide) rfl rfl (g := (mkF m 25 #[rv a1] [(.ref b13), (.ref a1)])) rfl rfl (hb hby d1_25)
  have fw18 : Fld Z h18 a1 sN2 "unread" sN4 (.ref b13) := f16_F_unread_a1.same W18
  have f18_E_a1 := f16_E_a1.wr W18
  have f18_F_read_a1 := f16_F_read_a1.other W18 (Or.inr (slot_ne (Or.inr (hU 46 _ rfl)) (Or.inr (hU 48 _ rfl)) (by decide) (t := (.object sN0)) (t' := (.object sN0)) (by decide) (by decide)))
  have f18_E_b5 := f16_E_b5.wr W18
  have f18_F_withItems_b5 := f16_F_withItems_b5.other W18 (Or.inl (Ne.symm ne_a1_b5))
  have f18_F_chunks_b5 := f16_F_chunks_b5.other W18 (Or.inl (Ne.symm ne_a1_b5))
  have f18_F_firsts_b5 := f16_F_firsts_b5.other W18 (Or.inl (Ne.symm ne_a1_b5))
  have f18_F_chunkCount_b5 := f16_F_chunkCount_b5.other W18 (Or.inl (Ne.symm ne_a1_b5))
  have f18_A_fi_8 := f16_A_fi_8.other W18 (Ne.symm ne_a1_fi_8)
  have f18_A_ck_8 := f16_A_ck_8.other W18 (Ne.symm ne_a1_ck_8)
  have f18_E_kk_8 := f16_E_kk_8.wr W18
  have f18_F_starts_kk_8 := f16_F_starts_kk_8.other W18 (Or.inl (Ne.symm ne_a1_kk_8))
  have f18_F_ends_kk_8 := f16_F_ends_kk_8.other W18 (Or.inl (Ne.symm ne_a1_kk_8))
  have f18_F_items_kk_8 := f16_F_items_kk_8.other W18 (Or.inl (Ne.symm ne_a1_kk_8))
  have f18_F_size_kk_8 := f16_F_size_kk_8.other W18 (Or.inl (Ne.symm ne_a1_kk_8))
  have f18_A_sa_8 := f16_A_sa_8.other W18 (Ne.symm ne_a1_sa_8)
  have f18_A_en_8 := f16_A_en_8.other W18 (Ne.symm ne_a1_en_8)
  have f18_A_it_8 := f16_A_it_8.other W18 (Ne.symm ne_a1_it_8)
  have f18_E_b13 := f16_E_b13.wr W18
  have f18_F_withItems_b13 := p16_1.other W18 (Or.inl (Ne.symm ne_a1_b13))
  have f18_F_chunks_b13 := p16_2.other W18 (Or.inl (Ne.symm ne_a1_b13))
  have f18_F_firsts_b13 := p16_3.other W18 (Or.inl (Ne.symm ne_a1_b13))
  have f18_F_chunkCount_b13 := p16_4.other W18 (Or.inl (Ne.symm ne_a1_b13))
  have f18_A_fi_16 := p16_5.other W18 (Ne.symm ne_a1_fi_16)
  have f18_A_ck_16 := p16_6.other W18 (Ne.symm ne_a1_ck_16)
  have f18_E_kk_16 := p16_7.wr W18
  have f18_F_starts_kk_16 := p16_8.other W18 (Or.inl (Ne.symm ne_a1_kk_16))
  have f18_F_ends_kk_16 := p16_9.other W18 (Or.inl (Ne.symm ne_a1_kk_16))
  have f18_F_items_kk_16 := p16_10.other W18 (Or.inl (Ne.symm ne_a1_kk_16))
  have f18_F_size_kk_16 := p16_11.other W18 (Or.inl (Ne.symm ne_a1_kk_16))
  have f18_A_sa_16 := p16_12.other W18 (Ne.symm ne_a1_sa_16)
  have z18 : n0 ≤ h18.size := by rw [W18.size]; exact z16
  have K18 : Keep h0 h18 [a1] := K16.wr W18 (Or.inl (List.mem_of_getElem? (i := 0) rfl))
  have N18 := Fr.snoc X18 N16 g_a1
  have R19 := fun t k => R17 t (st18 t k)
  obtain ⟨fs, hr, hrun, hended, hW, hsame⟩ := X18.leave (v := none) (fun _ => rfl)
  refine ⟨_, _, pre0 _ (R19 _ ?_), hrun, hended, _, _, rfl, ?_, ⟨_, rfl⟩, hW, hsame.mono (by decide) (by decide)⟩
  · show own_S p e below T18 (mkF m 28 #[rv a1] []) _
    exact X18.returnOut hx Bd.returns (hb hby d1_28) hr
  · show Q_rmFol Z a1 u1 u2 h0 n0 _ T18.heap _
    rw [e18]
    exact ⟨b5, fi_8, kfi_8, ck_8, kck_8, kk_8, sa_8, kst_8, en_8, ken_8, it_8, kit_8, b13, ck_16, kck_16, kk_16, rfl, N18, K18, f18_F_read_a1, fw18, f18_E_b5, f18_F_chunks_b5, f18_F_chunkCount_b5, f18_F_firsts_b5, f18_F_withItems_b5, f18_A_ck_8, f18_E_kk_8, f18_F_size_kk_8, f18_F_starts_kk_8, f18_A_fi_8, f18_A_sa_8, f18_F_ends_kk_8, f18_F_items_kk_8, f18_A_en_8, f18_A_it_8, f18_E_b13, f18_F_chunks_b13, f18_A_ck_16, f18_E_kk_16, f18_F_size_kk_16, p8_15, sz_fi_8, sz_ck_8, sz_sa_8, sz_en_8, sz_it_8, sz_kk_8, sz_b5, sz_b13, sz_ck_16, sz_kk_16, p8_22, p8_23, p8_24, p8_25, p8_26, p8_27, p8_28, p8_29, p8_30, p8_31, (Ne.symm ne_sa_8_ck_16), (Ne.symm ne_en_8_ck_16), (Ne.symm ne_it_8_ck_16), (Ne.symm ne_fi_8_ck_16), (Ne.symm ne_kk_8_kk_16), ne_b5_b13⟩
theorem ef_rmVal (m : MethodId) (x0 : Int32) : entryFrame m #[(.int x0)] 1 = mkF m 0 #[iv x0] [] := by first | (simp [entryFrame, mkF, argsToLocals, Value.category]; done) | rfl
def Q_rmVal (Z : State) (ca : Addr) (kca : ClassId) (vsc : List Value) (iv_ : Addr) (h0 : Heap) (n0 : Nat) (v : Option Value) (h : Heap) (L : List Loc) : Prop := v = some (.ref iv_) ∧ Fr n0 L ∧ h = h0
set_option maxRecDepth 65536 in
set_option maxHeartbeats 40000000 in
theorem rmVal (l : Launch) (Z : State) (a0 : Array Value) (hw : ∀ d ∈ tables_1, d.before a0 Z = true) (ws : List Jvm.Cond) (ca : Addr) (kca : ClassId) (vsc : List Value) (iv_ : Addr) (h0 : Heap) (n0 : Nat) (Z0 : n0 ≤ h0.size) (S_Integer_IntegerCache_high : Sta Z h0 "java/lang/Integer$IntegerCache" "high" "I" (.int (127 : Int32))) (S_Integer_IntegerCache_cache : Sta Z h0 "java/lang/Integer$IntegerCache" "cache" "[Ljava/lang/Integer;" (.ref ca)) (A_ca : Arv Z h0 ca kca (.object "java/lang/Integer") (256 : Int32) vsc .null) (hat : vsc.getD (129 : Int32).toNatClampNeg .null = .ref iv_) :
    own_M l (⟨"java/lang/Integer", "valueOf", "(I)Ljava/lang/Integer;"⟩ : MethodName) (Jvm.Cond.code (⟨"java/lang/Integer", "valueOf", "(I)Ljava/lang/Integer;"⟩ : MethodName) jdk_33_method_22_code 1 (some (.object "java/lang/Integer")) :: ws) ({ frames := 0, cells := 0, slots := 0, locals := 0 } : Room) #[(.int (1 : Int32))] Z h0 (Q_rmVal Z ca kca vsc iv_ h0 n0) := by
  refine MetFree.of_bodySF (plainFor_of_name pn_4) hisR ?_
  intro p e s m args below meth c s₁ Bd hml0 hP hK
  obtain ⟨rfl, hZ, hh⟩ := hP
  have hx := Bd.exec
  have hby := Bd.bytes
  have hml : c.maxLocals = 1 := hml0
  have hown : s.vm.findClass "java/lang/Integer" = some m.cls := findClass_of_methodNamed Bd.named
  have hnm := (name_of_methodNamed Bd.named Bd.method).1
  have X0 : Stand p l e ({ frames := 0, cells := 0, slots := 0, locals := 0 } : Room) s m #[(.int (1 : Int32))] below meth c s₁ [] 0 0 := Stand.of_body Bd
  have hU : ∀ (i : Nat) (d : Jvm.Cond), tables_1[i]? = some d → d.before a0 Z = true := fun i d h => hw d (List.mem_of_getElem? h)
  have e0 : s₁.heap = h0 := by rw [← hh, Bd.state]; rfl
  have N0 := Fr.nil n0
  obtain ⟨f0, hf0⟩ : ∃ f : JFrame, f = mkF m 0 #[iv (1 : Int32)] [] := ⟨_, rfl⟩
  have pre0 : ∀ t, own_S p e below s₁ f0 t → Steps p.tables e below (s₁.setTop (entryFrame m #[(.int (1 : Int32))] 1)) t := fun t k => castTop ((ef_rmVal m (1 : Int32)).trans hf0.symm) k
  have R0 : ∀ t, own_S p e below s₁ (mkF m 0 #[iv (1 : Int32)] []) t → own_S p e below s₁ f0 t := by rw [hf0]; exact fun t k => k
  have R1 : ∀ t, own_S p e below s₁ (mkF m 7 #[iv (1 : Int32)] [(.int (1 : Int32))]) t → own_S p e below s₁ f0 t := fun t k => R0 t (by
    refine XS.iloadN X0.here hx rfl (hb hby d5_0) rfl  ?_
    refine XS.bipush X0.here hx rfl (hb hby d5_1) ?_
    refine XS.icmpNo X0.here hx rfl (hb hby d5_3) rfl (flt (by decide : ¬ ((1 : Int32) < (-128 : Int32)))).1 ?_
    refine XS.iloadN X0.here hx rfl (hb hby d5_6) rfl  ?_
    exact k)
  obtain ⟨T2, X2, e2, st2⟩ := getS2 X0 hx hZ hown (host := "") (Or.inl (hU 53 _ rfl)) Via.refl e0 S_Integer_IntegerCache_high (g := (mkF m 7 #[iv (1 : Int32)] [(.int (1 : Int32))])) rfl (hb hby d5_7)
  have R3 := fun t k => R1 t (st2 t k)
  have R4 : ∀ t, own_S p e below T2 (mkF m 13 #[iv (1 : Int32)] []) t → own_S p e below s₁ f0 t := fun t k => R3 t (by
    refine XS.icmpNo X2.here hx rfl (hb hby d5_10) rfl (flt (by decide : ¬ ((127 : Int32) < (1 : Int32)))).2.2.1 ?_
    exact k)
  obtain ⟨T5, X5, e5, st5⟩ := getS2 X2 hx hZ hown (host := "") (Or.inl (hU 55 _ rfl)) Via.refl e2 S_Integer_IntegerCache_cache (g := (mkF m 13 #[iv (1 : Int32)] [])) rfl (hb hby d5_13)
  have R6 := fun t k => R4 t (st5 t k)
  have R7 : ∀ t, own_S p e below T5 (mkF m 21 #[iv (1 : Int32)] [(.int (129 : Int32)), (.ref ca)]) t → own_S p e below s₁ f0 t := fun t k => R6 t (by
    refine XS.iloadN X5.here hx rfl (hb hby d5_16) rfl  ?_
    refine XS.sipush X5.here hx rfl (hb hby d5_17) ?_
    refine XS.iadd X5.here hx rfl (hb hby d5_20) rfl ?_
    exact k)
  obtain ⟨cl8, Ar8, q8, S8, n8_, H8, G8⟩ := id A_ca
  have hin8 : ¬ ((129 : Int32) < 0 ∨ cl8.slots.size ≤ ((129 : Int32)).toNatClampNeg) := inb_of S8 ⟨by decide, by decide⟩
  have hat8 : cl8.slots[((129 : Int32)).toNatClampNeg]? = some (.ref iv_) := Has.at H8 hin8 hat
  have R9 : ∀ t, own_S p e below T5 (mkF m 22 #[iv (1 : Int32)] [(.ref iv_)]) t → own_S p e below s₁ f0 t := fun t k => R7 t (X5.aaload hx (j := (129 : Int32)) (v := (.ref iv_)) (by rw [e5]; exact Ar8.1) (State.isArrayOf_alike hZ.alike Ar8.2.1) rfl Ar8.2.2 hin8 hat8 (g := (mkF m 21 #[iv (1 : Int32)] [(.int (129 : Int32)), (.ref ca)])) rfl rfl (hb hby d5_21) _ k)
  obtain ⟨fs, hr, hrun, hended, hW, hsame⟩ := X5.leave (v := some (.ref iv_)) (fun h => by rw [Bd.returns] at h; cases h)
  refine ⟨_, _, pre0 _ (R9 _ ?_), hrun, hended, _, _, rfl, ?_, ⟨_, rfl⟩, hW, hsame.mono (by decide) (by decide)⟩
  · show own_S p e below T5 (mkF m 22 #[iv (1 : Int32)] [(.ref iv_)]) _
    exact retOut X5 hx (t := (.object "java/lang/Integer")) Bd.returns rfl (Or.inr (Or.inr (Or.inr (Or.inr ⟨rfl, rfl, rfl⟩)))) (hb hby d5_22) hr
  · show Q_rmVal Z ca kca vsc iv_ h0 n0 _ T5.heap _
    rw [e5]
    exact ⟨rfl, N0, rfl⟩
theorem ef_rmFind0_0 (m : MethodId) (x0 : Addr) (x1 : Int32) : entryFrame m #[(.ref x0), (.int x1)] 6 = mkF m 0 #[rv x0, iv x1, .unset, .unset, .unset, .unset] [] := by first | (simp [entryFrame, mkF, argsToLocals, Value.category]; done) | rfl
def Q_rmFind0_0 (Z : State) (oR : Addr) (p2 : Int32) (ckR : Addr) (kckR : ClassId) (kkR : Addr) (h0 : Heap) (n0 : Nat) (v : Option Value) (h : Heap) (L : List Loc) : Prop := v = some (.long (256 : Int64)) ∧ Fr n0 L ∧ h = h0
set_option maxRecDepth 65536 in
set_option maxHeartbeats 40000000 in
theorem rmFind0_0 (l : Launch) (Z : State) (a0 : Array Value) (hw : ∀ d ∈ tables_1, d.before a0 Z = true) (ws : List Jvm.Cond) (oR : Addr) (p2 : Int32) (ckR : Addr) (kckR : ClassId) (kkR : Addr) (h0 : Heap) (n0 : Nat) (Z0 : n0 ≤ h0.size) (F_chunks_oR : Fld Z h0 oR sN0 "chunks" sN3 (.ref ckR)) (F_chunkCount_oR : Fld Z h0 oR sN0 "chunkCount" "I" (.int (1 : Int32))) (A_ckR : Arv Z h0 ckR kckR (.object sN1) (1 : Int32) [(.ref kkR)] .null) (F_size_kkR : Fld Z h0 kkR sN1 "size" "I" (.int (0 : Int32))) :
    own_M l (⟨sN0, "find", "(I)J"⟩ : MethodName) (Jvm.Cond.code (⟨sN0, "find", "(I)J"⟩ : MethodName) prog_118_method_2_code 6 (some .long) :: ws) ({ frames := 0, cells := 0, slots := 0, locals := 0 } : Room) #[(.ref oR), (.int p2)] Z h0 (Q_rmFind0_0 Z oR p2 ckR kckR kkR h0 n0) := by
  refine MetFree.of_bodySF (plainFor_of_name pn_1) hisR ?_
  intro p e s m args below meth c s₁ Bd hml0 hP hK
  obtain ⟨rfl, hZ, hh⟩ := hP
  have hx := Bd.exec
  have hby := Bd.bytes
  have hml : c.maxLocals = 6 := hml0
  have hown : s.vm.findClass sN0 = some m.cls := findClass_of_methodNamed Bd.named
  have hnm := (name_of_methodNamed Bd.named Bd.method).1
  have X0 : Stand p l e ({ frames := 0, cells := 0, slots := 0, locals := 0 } : Room) s m #[(.ref oR), (.int p2)] below meth c s₁ [] 0 0 := Stand.of_body Bd
  have hU : ∀ (i : Nat) (d : Jvm.Cond), tables_1[i]? = some d → d.before a0 Z = true := fun i d h => hw d (List.mem_of_getElem? h)
  have e0 : s₁.heap = h0 := by rw [← hh, Bd.state]; rfl
  have N0 := Fr.nil n0
  obtain ⟨f0, hf0⟩ : ∃ f : JFrame, f = mkF m 0 #[rv oR, iv p2, .unset, .unset, .unset, .unset] [] := ⟨_, rfl⟩
  have pre0 : ∀ t, own_S p e below s₁ f0 t → Steps p.tables e below (s₁.setTop (entryFrame m #[(.ref oR), (.int p2)] 6)) t := fun t k => castTop ((ef_rmFind0_0 m oR p2).trans hf0.symm) k
  have R0 : ∀ t, own_S p e below s₁ (mkF m 0 #[rv oR, iv p2, .unset, .unset, .unset, .unset] []) t → own_S p e below s₁ f0 t := by rw [hf0]; exact fun t k => k
  have R1 : ∀ t, own_S p e below s₁ (mkF m 1 #[rv oR, iv p2, .unset, .unset, .unset, .unset] [(.ref oR)]) t → own_S p e below s₁ f0 t := fun t k => R0 t (by
    refine XS.aloadN X0.here hx rfl (hb hby d7_0) rfl rfl ?_
    exact k)
  obtain ⟨T2, X2, e2, st2⟩ := getF X0 hx hZ hown (host := "") (Or.inl (hU 43 _ rfl)) Via.refl e0 F_chunks_oR (g := (mkF m 1 #[rv oR, iv p2, .unset, .unset, .unset, .unset] [(.ref oR)])) rfl rfl (hb hby d7_1)
  have R3 := fun t k => R1 t (st2 t k)
  have R4 : ∀ t, own_S p e below T2 (mkF m 5 #[rv oR, iv p2, .unset, .unset, .unset, .unset] [(.ref oR), (.ref ckR)]) t → own_S p e below s₁ f0 t := fun t k => R3 t (by
    refine XS.aloadN X2.here hx rfl (hb hby d7_4) rfl rfl ?_
    exact k)
  obtain ⟨T5, X5, e5, st5⟩ := getF X2 hx hZ hown (host := "") (Or.inl (hU 22 _ rfl)) Via.refl e2 F_chunkCount_oR (g := (mkF m 5 #[rv oR, iv p2, .unset, .unset, .unset, .unset] [(.ref oR), (.ref ckR)])) rfl rfl (hb hby d7_5)
  have R6 := fun t k => R4 t (st5 t k)
  have R7 : ∀ t, own_S p e below T5 (mkF m 10 #[rv oR, iv p2, .unset, .unset, .unset, .unset] [(.int (0 : Int32)), (.ref ckR)]) t → own_S p e below s₁ f0 t := fun t k => R6 t (by
    refine XS.iconst X5.here hx rfl (hb hby d7_8) ?_
    refine XS.isub X5.here hx rfl (hb hby d7_9) rfl ?_
    exact k)
  obtain ⟨cl8, Ar8, q8, S8, n8_, H8, G8⟩ := id A_ckR
  have hin8 : ¬ ((0 : Int32) < 0 ∨ cl8.slots.size ≤ ((0 : Int32)).toNatClampNeg) := inb_of S8 ⟨by decide, by decide⟩
  have hat8 : cl8.slots[((0 : Int32)).toNatClampNeg]? = some (.ref kkR) := Has.at H8 hin8 rfl
  have R9 : ∀ t, own_S p e below T5 (mkF m 11 #[rv oR, iv p2, .unset, .unset, .unset, .unset] [(.ref kkR)]) t → own_S p e below s₁ f0 t := fun t k => R7 t (X5.aaload hx (j := (0 : Int32)) (v := (.ref kkR)) (by rw [e5]; exact Ar8.1) (State.isArrayOf_alike hZ.alike Ar8.2.1) rfl Ar8.2.2 hin8 hat8 (g := (mkF m 10 #[rv oR, iv p2, .unset, .unset, .unset, .unset] [(.int (0 : Int32)), (.ref ckR)])) rfl rfl (hb hby d7_10) _ k)
  have R10 : ∀ t, own_S p e below T5 (mkF m 13 #[rv oR, iv p2, rv kkR, .unset, .unset, .unset] [(.ref kkR)]) t → own_S p e below s₁ f0 t := fun t k => R9 t (by
    refine XS.astoreN X5.here hx rfl (hb hby d7_11) rfl rfl (l' := #[rv oR, iv p2, rv kkR, .unset, .unset, .unset]) rfl ?_
    refine XS.aloadN X5.here hx rfl (hb hby d7_12) rfl rfl ?_
    exact k)
  obtain ⟨T11, X11, e11, st11⟩ := getF X5 hx hZ hown (Or.inr (hU 66 _ rfl)) Via.refl e5 F_size_kkR (g := (mkF m 13 #[rv oR, iv p2, rv kkR, .unset, .unset, .unset] [(.ref kkR)])) rfl rfl (hb hby d7_13)
  have R12 := fun t k => R10 t (st11 t k)
  have R13 : ∀ t, own_S p e below T11 (mkF m 35 #[rv oR, iv p2, rv kkR, .unset, .unset, .unset] [(.ref oR)]) t → own_S p e below s₁ f0 t := fun t k => R12 t (by
    refine XS.ifYes X11.here hx rfl (pc0 := 16) (pc' := 34) rfl (hb hby d7_16) rfl ((if0 _ _).trans (teq (by decide : (0 : Int32) = (0 : Int32))).1) (by decide) (by decide) ?_
    refine XS.aloadN X11.here hx rfl (hb hby d7_34) rfl rfl ?_
    exact k)
  obtain ⟨T14, X14, e14, st14⟩ := getF X11 hx hZ hown (host := "") (Or.inl (hU 22 _ rfl)) Via.refl e11 F_chunkCount_oR (g := (mkF m 35 #[rv oR, iv p2, rv kkR, .unset, .unset, .unset] [(.ref oR)])) rfl rfl (hb hby d7_35)
  have R15 := fun t k => R13 t (st14 t k)
  have R16 : ∀ t, own_S p e below T14 (mkF m 41 #[rv oR, iv p2, rv kkR, .unset, .unset, .unset] [(.long ((0 : Int32).toInt64))]) t → own_S p e below s₁ f0 t := fun t k => R15 t (by
    refine XS.iconst X14.here hx rfl (hb hby d7_38) ?_
    refine XS.isub X14.here hx rfl (hb hby d7_39) rfl ?_
    refine XS.i2l X14.here hx rfl (hb hby d7_40) rfl ?_
    exact k)
  have R17 : ∀ t, own_S p e below T14 (mkF m 41 #[rv oR, iv p2, rv kkR, .unset, .unset, .unset] [(.long (0 : Int64))]) t → own_S p e below s₁ f0 t := by have q := R16; rw [((by decide) : ((0 : Int32).toInt64) = (0 : Int64))] at q; exact q
  have R18 : ∀ t, own_S p e below T14 (mkF m 44 #[rv oR, iv p2, rv kkR, .unset, .unset, .unset] [(.long ((0 : Int64) <<< ((32 : Int32) &&& 0x3f).toInt64))]) t → own_S p e below s₁ f0 t := fun t k => R17 t (by
    refine XS.bipush X14.here hx rfl (hb hby d7_41) ?_
    refine XS.lshl X14.here hx rfl (hb hby d7_43) rfl ?_
    exact k)
  have R19 : ∀ t, own_S p e below T14 (mkF m 44 #[rv oR, iv p2, rv kkR, .unset, .unset, .unset] [(.long (0 : Int64))]) t → own_S p e below s₁ f0 t := by have q := R18; rw [((by decide) : ((0 : Int64) <<< ((32 : Int32) &&& 0x3f).toInt64) = (0 : Int64))] at q; exact q
  have R20 : ∀ t, own_S p e below T14 (mkF m 48 #[rv oR, iv p2, rv kkR, .unset, .unset, .unset] [(.ref kkR), (.int (256 : Int32)), (.long (0 : Int64))]) t → own_S p e below s₁ f0 t := fun t k => R19 t (by
    refine XS.sipush X14.here hx rfl (hb hby d7_44) ?_
    refine XS.aloadN X14.here hx rfl (hb hby d7_47) rfl rfl ?_
    exact k)
  obtain ⟨T21, X21, e21, st21⟩ := getF X14 hx hZ hown (Or.inr (hU 66 _ rfl)) Via.refl e14 F_size_kkR (g := (mkF m 48 #[rv oR, iv p2, rv kkR, .unset, .unset, .unset] [(.ref kkR), (.int (256 : Int32)), (.long (0 : Int64))])) rfl rfl (hb hby d7_48)
  have R22 := fun t k => R20 t (st21 t k)
  have R23 : ∀ t, own_S p e below T21 (mkF m 53 #[rv oR, iv p2, rv kkR, .unset, .unset, .unset] [(.long ((256 : Int32).toInt64)), (.long (0 : Int64))]) t → own_S p e below s₁ f0 t := fun t k => R22 t (by
    refine XS.iadd X21.here hx rfl (hb hby d7_51) rfl ?_
    refine XS.i2l X21.here hx rfl (hb hby d7_52) rfl ?_
    exact k)
  have R24 : ∀ t, own_S p e below T21 (mkF m 53 #[rv oR, iv p2, rv kkR, .unset, .unset, .unset] [(.long (256 : Int64)), (.long (0 : Int64))]) t → own_S p e below s₁ f0 t := by have q := R23; rw [((by decide) : ((256 : Int32).toInt64) = (256 : Int64))] at q; exact q
  have R25 : ∀ t, own_S p e below T21 (mkF m 54 #[rv oR, iv p2, rv kkR, .unset, .unset, .unset] [(.long (256 : Int64))]) t → own_S p e below s₁ f0 t := fun t k => R24 t (by
    refine XS.lor X21.here hx rfl (hb hby d7_53) rfl ?_
    exact k)
  obtain ⟨fs, hr, hrun, hended, hW, hsame⟩ := X21.leave (v := some (.long (256 : Int64))) (fun h => by rw [Bd.returns] at h; cases h)
  refine ⟨_, _, pre0 _ (R25 _ ?_), hrun, hended, _, _, rfl, ?_, ⟨_, rfl⟩, hW, hsame.mono (by decide) (by decide)⟩
  · show own_S p e below T21 (mkF m 54 #[rv oR, iv p2, rv kkR, .unset, .unset, .unset] [(.long (256 : Int64))]) _
    exact retOut X21 hx (t := .long) Bd.returns rfl (Or.inr (Or.inl ⟨rfl, rfl, _, rfl⟩)) (hb hby d7_54) hr
  · show Q_rmFind0_0 Z oR p2 ckR kckR kkR h0 n0 _ T21.heap _
    rw [e21]
    exact ⟨rfl, N0, rfl⟩
theorem ef_rmEmp0 (m : MethodId) (x0 : Addr) : entryFrame m #[(.ref x0)] 1 = mkF m 0 #[rv x0] [] := by first | (simp [entryFrame, mkF, argsToLocals, Value.category]; done) | rfl
def Q_rmEmp0 (Z : State) (a1 : Addr) (ck : Addr) (kck : ClassId) (kk : Addr) (h0 : Heap) (n0 : Nat) (v : Option Value) (h : Heap) (L : List Loc) : Prop := v = some (.int (1 : Int32)) ∧ Fr n0 L ∧ h = h0
set_option maxRecDepth 65536 in
set_option maxHeartbeats 40000000 in
theorem rmEmp0 (l : Launch) (Z : State) (a0 : Array Value) (hw : ∀ d ∈ tables_1, d.before a0 Z = true) (ws : List Jvm.Cond) (a1 : Addr) (ck : Addr) (kck : ClassId) (kk : Addr) (h0 : Heap) (n0 : Nat) (Z0 : n0 ≤ h0.size) (F_chunks_a1 : Fld Z h0 a1 sN0 "chunks" sN3 (.ref ck)) (A_ck : Arv Z h0 ck kck (.object sN1) (1 : Int32) [(.ref kk)] .null) (F_size_kk : Fld Z h0 kk sN1 "size" "I" (.int (0 : Int32))) :
    own_M l (⟨sN0, "isEmpty", "()Z"⟩ : MethodName) (Jvm.Cond.code (⟨sN0, "isEmpty", "()Z"⟩ : MethodName) prog_118_method_9_code 1 (some .boolean) :: ws) ({ frames := 0, cells := 0, slots := 0, locals := 0 } : Room) #[(.ref a1)] Z h0 (Q_rmEmp0 Z a1 ck kck kk h0 n0) := by
  refine MetFree.of_bodySF (plainFor_of_name pn_1) hisR ?_
  intro p e s m args below meth c s₁ Bd hml0 hP hK
  obtain ⟨rfl, hZ, hh⟩ := hP
  have hx := Bd.exec
  have hby := Bd.bytes
  have hml : c.maxLocals = 1 := hml0
  have hown : s.vm.findClass sN0 = some m.cls := findClass_of_methodNamed Bd.named
  have hnm := (name_of_methodNamed Bd.named Bd.method).1
  have X0 : Stand p l e ({ frames := 0, cells := 0, slots := 0, locals := 0 } : Room) s m #[(.ref a1)] below meth c s₁ [] 0 0 := Stand.of_body Bd
  have hU : ∀ (i : Nat) (d : Jvm.Cond), tables_1[i]? = some d → d.before a0 Z = true := fun i d h => hw d (List.mem_of_getElem? h)
  have e0 : s₁.heap = h0 := by rw [← hh, Bd.state]; rfl
  have N0 := Fr.nil n0
  obtain ⟨f0, hf0⟩ : ∃ f : JFrame, f = mkF m 0 #[rv a1] [] := ⟨_, rfl⟩
  have pre0 : ∀ t, own_S p e below s₁ f0 t → Steps p.tables e below (s₁.setTop (entryFrame m #[(.ref a1)] 1)) t := fun t k => castTop ((ef_rmEmp0 m a1).trans hf0.symm) k
  have R0 : ∀ t, own_S p e below s₁ (mkF m 0 #[rv a1] []) t → own_S p e below s₁ f0 t := by rw [hf0]; exact fun t k => k
  have R1 : ∀ t, own_S p e below s₁ (mkF m 1 #[rv a1] [(.ref a1)]) t → own_S p e below s₁ f0 t := fun t k => R0 t (by
    refine XS.aloadN X0.here hx rfl (hb hby d8_0) rfl rfl ?_
    exact k)
  obtain ⟨T2, X2, e2, st2⟩ := getF X0 hx hZ hown (host := "") (Or.inl (hU 43 _ rfl)) Via.refl e0 F_chunks_a1 (g := (mkF m 1 #[rv a1] [(.ref a1)])) rfl rfl (hb hby d8_1)
  have R3 := fun t k => R1 t (st2 t k)
  have R4 : ∀ t, own_S p e below T2 (mkF m 5 #[rv a1] [(.int (0 : Int32)), (.ref ck)]) t → own_S p e below s₁ f0 t := fun t k => R3 t (by
    refine XS.iconst X2.here hx rfl (hb hby d8_4) ?_
    exact k)
  obtain ⟨cl5, Ar5, q5, S5, n5_, H5, G5⟩ := id A_ck
  have hin5 : ¬ ((0 : Int32) < 0 ∨ cl5.slots.size ≤ ((0 : Int32)).toNatClampNeg) := inb_of S5 ⟨by decide, by decide⟩
  have hat5 : cl5.slots[((0 : Int32)).toNatClampNeg]? = some (.ref kk) := Has.at H5 hin5 rfl
  have R6 : ∀ t, own_S p e below T2 (mkF m 6 #[rv a1] [(.ref kk)]) t → own_S p e below s₁ f0 t := fun t k => R4 t (X2.aaload hx (j := (0 : Int32)) (v := (.ref kk)) (by rw [e2]; exact Ar5.1) (State.isArrayOf_alike hZ.alike Ar5.2.1) rfl Ar5.2.2 hin5 hat5 (g := (mkF m 5 #[rv a1] [(.int (0 : Int32)), (.ref ck)])) rfl rfl (hb hby d8_5) _ k)
  obtain ⟨T7, X7, e7, st7⟩ := getF X2 hx hZ hown (Or.inr (hU 66 _ rfl)) Via.refl e2 F_size_kk (g := (mkF m 6 #[rv a1] [(.ref kk)])) rfl rfl (hb hby d8_6)
  have R8 := fun t k => R6 t (st7 t k)
  have R9 : ∀ t, own_S p e below T7 (mkF m 17 #[rv a1] [(.int (1 : Int32))]) t → own_S p e below s₁ f0 t := fun t k => R8 t (by
    refine XS.ifNo X7.here hx rfl (hb hby d8_9) rfl ((if0 _ _).trans (teq (by decide : (0 : Int32) = (0 : Int32))).2) ?_
    refine XS.iconst X7.here hx rfl (hb hby d8_12) ?_
    refine XS.goto X7.here hx rfl (pc0 := 13) (pc' := 17) rfl (hb hby d8_13) (by decide) (by decide) ?_
    exact k)
  obtain ⟨fs, hr, hrun, hended, hW, hsame⟩ := X7.leave (v := some (.int (1 : Int32))) (fun h => by rw [Bd.returns] at h; cases h)
  refine ⟨_, _, pre0 _ (R9 _ ?_), hrun, hended, _, _, rfl, ?_, ⟨_, rfl⟩, hW, hsame.mono (by decide) (by decide)⟩
  · show own_S p e below T7 (mkF m 17 #[rv a1] [(.int (1 : Int32))]) _
    exact retN X7 hx (t := .boolean) Bd.returns (by simp) (hb hby d8_17) hr
  · show Q_rmEmp0 Z a1 ck kck kk h0 n0 _ T7.heap _
    rw [e7]
    exact ⟨rfl, N0, rfl⟩
theorem ef_rmFf0_0 (m : MethodId) (x0 : Addr) (x1 : Int32) : entryFrame m #[(.ref x0), (.int x1)] 4 = mkF m 0 #[rv x0, iv x1, .unset, .unset] [] := by first | (simp [entryFrame, mkF, argsToLocals, Value.category]; done) | rfl
def Q_rmFf0_0 (Z : State) (a1 : Addr) (p2 : Int32) (oR : Addr) (ckR : Addr) (kckR : ClassId) (kkR : Addr) (oU : Addr) (ckU : Addr) (kckU : ClassId) (kkU : Addr) (h0 : Heap) (n0 : Nat) (v : Option Value) (h : Heap) (L : List Loc) : Prop := v = some (.long (256 : Int64)) ∧ Fr n0 L ∧ h = h0
set_option maxRecDepth 65536 in
set_option maxHeartbeats 40000000 in
theorem rmFf0_0 (l : Launch) (Z : State) (a0 : Array Value) (hw : ∀ d ∈ tables_1, d.before a0 Z = true) (ws : List Jvm.Cond) (a1 : Addr) (p2 : Int32) (oR : Addr) (ckR : Addr) (kckR : ClassId) (kkR : Addr) (oU : Addr) (ckU : Addr) (kckU : ClassId) (kkU : Addr) (h0 : Heap) (n0 : Nat) (Z0 : n0 ≤ h0.size) (F_read_a1 : Fld Z h0 a1 sN2 "read" sN4 (.ref oR)) (F_unread_a1 : Fld Z h0 a1 sN2 "unread" sN4 (.ref oU)) (E_oR : Exa Z h0 oR sN0) (F_chunks_oR : Fld Z h0 oR sN0 "chunks" sN3 (.ref ckR)) (F_chunkCount_oR : Fld Z h0 oR sN0 "chunkCount" "I" (.int (1 : Int32))) (A_ckR : Arv Z h0 ckR kckR (.object sN1) (1 : Int32) [(.ref kkR)] .null) (F_size_kkR : Fld Z h0 kkR sN1 "size" "I" (.int (0 : Int32))) (E_oU : Exa Z h0 oU sN0) (F_chunks_oU : Fld Z h0 oU sN0 "chunks" sN3 (.ref ckU)) (A_ckU : Arv Z h0 ckU kckU (.object sN1) (1 : Int32) [(.ref kkU)] .null) (E_kkU : Exa Z h0 kkU sN1) (F_size_kkU : Fld Z h0 kkU sN1 "size" "I" (.int (0 : Int32))) :
    own_M l (⟨sN2, "find", "(I)J"⟩ : MethodName) (Jvm.Cond.code (⟨sN2, "find", "(I)J"⟩ : MethodName) prog_116_method_2_code 4 (some .long) :: ws) ({ frames := 1, cells := 0, slots := 0, locals := 17 } : Room) #[(.ref a1), (.int p2)] Z h0 (Q_rmFf0_0 Z a1 p2 oR ckR kckR kkR oU ckU kckU kkU h0 n0) := by
  refine MetFree.of_bodySF (plainFor_of_name pn_3) hisR ?_
  intro p e s m args below meth c s₁ Bd hml0 hP hK
  obtain ⟨rfl, hZ, hh⟩ := hP
  have hx := Bd.exec
  have hby := Bd.bytes
  have hml : c.maxLocals = 4 := hml0
  have hown : s.vm.findClass sN2 = some m.cls := findClass_of_methodNamed Bd.named
  have hnm := (name_of_methodNamed Bd.named Bd.method).1
  have X0 : Stand p l e ({ frames := 1, cells := 0, slots := 0, locals := 17 } : Room) s m #[(.ref a1), (.int p2)] below meth c s₁ [] 0 0 := Stand.of_body Bd
  have hU : ∀ (i : Nat) (d : Jvm.Cond), tables_1[i]? = some d → d.before a0 Z = true := fun i d h => hw d (List.mem_of_getElem? h)
  have e0 : s₁.heap = h0 := by rw [← hh, Bd.state]; rfl
  have N0 := Fr.nil n0
  obtain ⟨f0, hf0⟩ : ∃ f : JFrame, f = mkF m 0 #[rv a1, iv p2, .unset, .unset] [] := ⟨_, rfl⟩
  have pre0 : ∀ t, own_S p e below s₁ f0 t → Steps p.tables e below (s₁.setTop (entryFrame m #[(.ref a1), (.int p2)] 4)) t := fun t k => castTop ((ef_rmFf0_0 m a1 p2).trans hf0.symm) k
  have R0 : ∀ t, own_S p e below s₁ (mkF m 0 #[rv a1, iv p2, .unset, .unset] []) t → own_S p e below s₁ f0 t := by rw [hf0]; exact fun t k => k
  have R1 : ∀ t, own_S p e below s₁ (mkF m 1 #[rv a1, iv p2, .unset, .unset] [(.ref a1)]) t → own_S p e below s₁ f0 t := fun t k => R0 t (by
    refine XS.aloadN X0.here hx rfl (hb hby d6_0) rfl rfl ?_
    exact k)
  obtain ⟨T2, X2, e2, st2⟩ := getF X0 hx hZ hown (host := "") (Or.inl (hU 45 _ rfl)) Via.refl e0 F_read_a1 (g := (mkF m 1 #[rv a1, iv p2, .unset, .unset] [(.ref a1)])) rfl rfl (hb hby d6_1)
  have R3 := fun t k => R1 t (st2 t k)
  have R4 : ∀ t, own_S p e below T2 (mkF m 5 #[rv a1, iv p2, .unset, .unset] [(.int p2), (.ref oR)]) t → own_S p e below s₁ f0 t := fun t k => R3 t (by
    refine XS.iloadN X2.here hx rfl (hb hby d6_4) rfl  ?_
    exact k)
  obtain ⟨cq5, kq5, q5a, q5b, q5c⟩ := isOf hZ e2 E_oR
  obtain ⟨_, _, ⟨T5, L5, k5, n5⟩, -, X5, ⟨Lc5, hQ5, l5, y5, z5⟩, st5⟩ := X2.virtualBack hx (y := (⟨sN0, "find", "(I)J"⟩ : MethodName)) (z := (⟨sN0, "find", "(I)J"⟩ : MethodName)) hown (mvT hZ (hU 61 _ rfl)) (mvT hZ (hU 62 _ rfl)) (notFace_of_selects (args := #[]) (mvT hZ (hU 64 _ rfl))) (mvT hZ (hU 64 _ rfl)) (mvT hZ (hU 63 _ rfl)) (by decide) (backOf (W := 0) (rmFind0_0 l Z a0 hw [] oR p2 ckR kckR kkR h0 n0 Z0 F_chunks_oR F_chunkCount_oR A_ckR F_size_kkR) hZ (hU 65 _ rfl) (hU 14 _ rfl) (by decide) (by decide)) q5a q5c (g := (mkF m 5 #[rv a1, iv p2, .unset, .unset] [(.int p2), (.ref oR)])) rfl (by rw [hml]; rfl) (Steps.refl _) (argsL := [(.int p2)]) (rest := []) (lenOf pd_5 rfl) rfl (Nat.le_of_eq rfl) (hb hby d6_5) (fun _ _ => ⟨rfl, e2, (by decide : 0 + 0 ≤ _), (by decide : 0 + 0 ≤ _)⟩)
  dsimp only [Pt.U, Pt.locs, Pt.cells, Pt.slots] at X5 l5 y5 z5 st5 hQ5
  subst l5 y5 z5
  obtain ⟨rfl, N5q, p5_0⟩ := hQ5
  have N5 := Fr.app N0 N5q
  have R6 := fun t k => R4 t (st5.trans k)
  have R7 : ∀ t, own_S p e below T5 (mkF m 11 #[rv a1, iv p2, own_l (256 : Int64), .second] [(.int ((256 : Int64).toInt32))]) t → own_S p e below s₁ f0 t := fun t k => R6 t (by
    refine XS.lstoreN X5.here hx rfl (hb hby d6_8) rfl (l' := #[rv a1, iv p2, own_l (256 : Int64), .second]) rfl ?_
    refine XS.lloadN X5.here hx rfl (hb hby d6_9) rfl  ?_
    refine XS.l2i X5.here hx rfl (hb hby d6_10) rfl ?_
    exact k)
  have R8 : ∀ t, own_S p e below T5 (mkF m 11 #[rv a1, iv p2, own_l (256 : Int64), .second] [(.int (256 : Int32))]) t → own_S p e below s₁ f0 t := by have q := R7; rw [((by decide) : ((256 : Int64).toInt32) = (256 : Int32))] at q; exact q
  have R9 : ∀ t, own_S p e below T5 (mkF m 18 #[rv a1, iv p2, own_l (256 : Int64), .second] [(.ref a1)]) t → own_S p e below s₁ f0 t := fun t k => R8 t (by
    refine XS.sipush X5.here hx rfl (hb hby d6_11) ?_
    refine XS.icmpNo X5.here hx rfl (hb hby d6_14) rfl (flt (by decide : ¬ ((256 : Int32) < (256 : Int32)))).1 ?_
    refine XS.aloadN X5.here hx rfl (hb hby d6_17) rfl rfl ?_
    exact k)
  obtain ⟨T10, X10, e10, st10⟩ := getF X5 hx hZ hown (host := "") (Or.inl (hU 47 _ rfl)) Via.refl p5_0 F_unread_a1 (g := (mkF m 18 #[rv a1, iv p2, own_l (256 : Int64), .second] [(.ref a1)])) rfl rfl (hb hby d6_18)
  have R11 := fun t k => R9 t (st10 t k)
  obtain ⟨cq12, kq12, q12a, q12b, q12c⟩ := isOf hZ e10 E_oU
  obtain ⟨_, _, ⟨T12, L12, k12, n12⟩, -, X12, ⟨Lc12, hQ12, l12, y12, z12⟩, st12⟩ := X10.virtualBack hx (y := (⟨sN0, "isEmpty", "()Z"⟩ : MethodName)) (z := (⟨sN0, "isEmpty", "()Z"⟩ : MethodName)) hown (mvT hZ (hU 68 _ rfl)) (mvT hZ (hU 69 _ rfl)) (notFace_of_selects (args := #[]) (mvT hZ (hU 71 _ rfl))) (mvT hZ (hU 71 _ rfl)) (mvT hZ (hU 70 _ rfl)) (by decide) (backOf (W := 0) (rmEmp0 l Z a0 hw [] oU ckU kckU kkU h0 n0 Z0 F_chunks_oU A_ckU F_size_kkU) hZ (hU 72 _ rfl) (hU 14 _ rfl) (by decide) (by decide)) q12a q12c (g := (mkF m 21 #[rv a1, iv p2, own_l (256 : Int64), .second] [(.ref oU)])) rfl (by rw [hml]; rfl) (Steps.refl _) (argsL := []) (rest := []) (lenOf pd_6 rfl) rfl (Nat.le_of_eq rfl) (hb hby d6_21) (fun _ _ => ⟨rfl, e10, (by decide : 0 + 0 ≤ _), (by decide : 0 + 0 ≤ _)⟩)
  dsimp only [Pt.U, Pt.locs, Pt.cells, Pt.slots] at X12 l12 y12 z12 st12 hQ12
  subst l12 y12 z12
  obtain ⟨rfl, N12q, p12_0⟩ := hQ12
  have N12 := Fr.app N5 N12q
  have R13 := fun t k => R11 t (st12.trans k)
  have R14 : ∀ t, own_S p e below T12 (mkF m 43 #[rv a1, iv p2, own_l (256 : Int64), .second] [(.long (256 : Int64))]) t → own_S p e below s₁ f0 t := fun t k => R13 t (by
    refine XS.ifYes X12.here hx rfl (pc0 := 24) (pc' := 42) rfl (hb hby d6_24) rfl ((if0 _ _).trans (feq (by decide : ¬ ((1 : Int32) = (0 : Int32)))).2) (by decide) (by decide) ?_
    refine XS.lloadN X12.here hx rfl (hb hby d6_42) rfl  ?_
    exact k)
  obtain ⟨fs, hr, hrun, hended, hW, hsame⟩ := X12.leave (v := some (.long (256 : Int64))) (fun h => by rw [Bd.returns] at h; cases h)
  refine ⟨_, _, pre0 _ (R14 _ ?_), hrun, hended, _, _, rfl, ?_, ⟨_, rfl⟩, hW, hsame.mono (by decide) (by decide)⟩
  · show own_S p e below T12 (mkF m 43 #[rv a1, iv p2, own_l (256 : Int64), .second] [(.long (256 : Int64))]) _
    exact retOut X12 hx (t := .long) Bd.returns rfl (Or.inr (Or.inl ⟨rfl, rfl, _, rfl⟩)) (hb hby d6_43) hr
  · show Q_rmFf0_0 Z a1 p2 oR ckR kckR kkR oU ckU kckU kkU h0 n0 _ T12.heap _
    rw [p12_0]
    exact ⟨rfl, N12, rfl⟩
theorem ef_rmCt0_0 (m : MethodId) (x0 : Addr) (x1 : Int64) (x2 : Int32) : entryFrame m #[(.ref x0), (.long x1), (.int x2)] 7 = mkF m 0 #[rv x0, own_l x1, .second, iv x2, .unset, .unset, .unset] [] := by first | (simp [entryFrame, mkF, argsToLocals, Value.category]; done) | rfl
def Q_rmCt0_0 (Z : State) (a1 : Addr) (p3 : Int32) (oR : Addr) (h0 : Heap) (n0 : Nat) (v : Option Value) (h : Heap) (L : List Loc) : Prop := v = some (.int (-1 : Int32)) ∧ Fr n0 L ∧ h = h0
set_option maxRecDepth 65536 in
set_option maxHeartbeats 40000000 in
theorem rmCt0_0 (l : Launch) (Z : State) (a0 : Array Value) (hw : ∀ d ∈ tables_1, d.before a0 Z = true) (ws : List Jvm.Cond) (a1 : Addr) (p3 : Int32) (oR : Addr) (h0 : Heap) (n0 : Nat) (Z0 : n0 ≤ h0.size) (F_read_a1 : Fld Z h0 a1 sN2 "read" sN4 (.ref oR)) :
    own_M l (⟨sN2, "containing", "(JI)I"⟩ : MethodName) (Jvm.Cond.code (⟨sN2, "containing", "(JI)I"⟩ : MethodName) prog_116_method_7_code 7 (some .int) :: ws) ({ frames := 0, cells := 0, slots := 0, locals := 0 } : Room) #[(.ref a1), (.long (256 : Int64)), (.int p3)] Z h0 (Q_rmCt0_0 Z a1 p3 oR h0 n0) := by
  refine MetFree.of_bodySF (plainFor_of_name pn_3) hisR ?_
  intro p e s m args below meth c s₁ Bd hml0 hP hK
  obtain ⟨rfl, hZ, hh⟩ := hP
  have hx := Bd.exec
  have hby := Bd.bytes
  have hml : c.maxLocals = 7 := hml0
  have hown : s.vm.findClass sN2 = some m.cls := findClass_of_methodNamed Bd.named
  have hnm := (name_of_methodNamed Bd.named Bd.method).1
  have X0 : Stand p l e ({ frames := 0, cells := 0, slots := 0, locals := 0 } : Room) s m #[(.ref a1), (.long (256 : Int64)), (.int p3)] below meth c s₁ [] 0 0 := Stand.of_body Bd
  have hU : ∀ (i : Nat) (d : Jvm.Cond), tables_1[i]? = some d → d.before a0 Z = true := fun i d h => hw d (List.mem_of_getElem? h)
  have e0 : s₁.heap = h0 := by rw [← hh, Bd.state]; rfl
  have N0 := Fr.nil n0
  obtain ⟨f0, hf0⟩ : ∃ f : JFrame, f = mkF m 0 #[rv a1, own_l (256 : Int64), .second, iv p3, .unset, .unset, .unset] [] := ⟨_, rfl⟩
  have pre0 : ∀ t, own_S p e below s₁ f0 t → Steps p.tables e below (s₁.setTop (entryFrame m #[(.ref a1), (.long (256 : Int64)), (.int p3)] 7)) t := fun t k => castTop ((ef_rmCt0_0 m a1 (256 : Int64) p3).trans hf0.symm) k
  have R0 : ∀ t, own_S p e below s₁ (mkF m 0 #[rv a1, own_l (256 : Int64), .second, iv p3, .unset, .unset, .unset] []) t → own_S p e below s₁ f0 t := by rw [hf0]; exact fun t k => k
  have R1 : ∀ t, own_S p e below s₁ (mkF m 4 #[rv a1, own_l (256 : Int64), .second, iv p3, .unset, .unset, .unset] [(.long (((256 : Int64).toUInt64 >>> ((32 : Int32) &&& 0x3f).toInt64.toUInt64).toInt64))]) t → own_S p e below s₁ f0 t := fun t k => R0 t (by
    refine XS.lloadN X0.here hx rfl (hb hby d18_0) rfl  ?_
    refine XS.bipush X0.here hx rfl (hb hby d18_1) ?_
    refine XS.lushr X0.here hx rfl (hb hby d18_3) rfl ?_
    exact k)
  have R2 : ∀ t, own_S p e below s₁ (mkF m 4 #[rv a1, own_l (256 : Int64), .second, iv p3, .unset, .unset, .unset] [(.long (0 : Int64))]) t → own_S p e below s₁ f0 t := by have q := R1; rw [((by decide) : (((256 : Int64).toUInt64 >>> ((32 : Int32) &&& 0x3f).toInt64.toUInt64).toInt64) = (0 : Int64))] at q; exact q
  have R3 : ∀ t, own_S p e below s₁ (mkF m 5 #[rv a1, own_l (256 : Int64), .second, iv p3, .unset, .unset, .unset] [(.int ((0 : Int64).toInt32))]) t → own_S p e below s₁ f0 t := fun t k => R2 t (by
    refine XS.l2i X0.here hx rfl (hb hby d18_4) rfl ?_
    exact k)
  have R4 : ∀ t, own_S p e below s₁ (mkF m 5 #[rv a1, own_l (256 : Int64), .second, iv p3, .unset, .unset, .unset] [(.int (0 : Int32))]) t → own_S p e below s₁ f0 t := by have q := R3; rw [((by decide) : ((0 : Int64).toInt32) = (0 : Int32))] at q; exact q
  have R5 : ∀ t, own_S p e below s₁ (mkF m 9 #[rv a1, own_l (256 : Int64), .second, iv p3, iv (0 : Int32), .unset, .unset] [(.int ((256 : Int64).toInt32))]) t → own_S p e below s₁ f0 t := fun t k => R4 t (by
    refine XS.istore X0.here hx rfl (hb hby d18_5) rfl (l' := #[rv a1, own_l (256 : Int64), .second, iv p3, iv (0 : Int32), .unset, .unset]) rfl ?_
    refine XS.lloadN X0.here hx rfl (hb hby d18_7) rfl  ?_
    refine XS.l2i X0.here hx rfl (hb hby d18_8) rfl ?_
    exact k)
  have R6 : ∀ t, own_S p e below s₁ (mkF m 9 #[rv a1, own_l (256 : Int64), .second, iv p3, iv (0 : Int32), .unset, .unset] [(.int (256 : Int32))]) t → own_S p e below s₁ f0 t := by have q := R5; rw [((by decide) : ((256 : Int64).toInt32) = (256 : Int32))] at q; exact q
  have R7 : ∀ t, own_S p e below s₁ (mkF m 26 #[rv a1, own_l (256 : Int64), .second, iv p3, iv (0 : Int32), iv (0 : Int32), .unset] [(.int (-1 : Int32))]) t → own_S p e below s₁ f0 t := fun t k => R6 t (by
    refine XS.sipush X0.here hx rfl (hb hby d18_9) ?_
    refine XS.isub X0.here hx rfl (hb hby d18_12) rfl ?_
    refine XS.istore X0.here hx rfl (hb hby d18_13) rfl (l' := #[rv a1, own_l (256 : Int64), .second, iv p3, iv (0 : Int32), iv (0 : Int32), .unset]) rfl ?_
    refine XS.iload X0.here hx rfl (hb hby d18_15) rfl  ?_
    refine XS.ifNo X0.here hx rfl (hb hby d18_17) rfl ((if0 _ _).trans (teq (by decide : (0 : Int32) = (0 : Int32))).2) ?_
    refine XS.iload X0.here hx rfl (hb hby d18_20) rfl  ?_
    show own_S p e below s₁ (mkF m 22 #[rv a1, own_l (256 : Int64), .second, iv p3, iv (0 : Int32), iv (0 : Int32), .unset] [(.int (0 : Int32))]) _
    refine XS.ifNo X0.here hx rfl (hb hby d18_22) rfl ((if0 _ _).trans (teq (by decide : (0 : Int32) = (0 : Int32))).2) ?_
    refine XS.iconst X0.here hx rfl (hb hby d18_25) ?_
    exact k)
  obtain ⟨fs, hr, hrun, hended, hW, hsame⟩ := X0.leave (v := some (.int (-1 : Int32))) (fun h => by rw [Bd.returns] at h; cases h)
  refine ⟨_, _, pre0 _ (R7 _ ?_), hrun, hended, _, _, rfl, ?_, ⟨_, rfl⟩, hW, hsame.mono (by decide) (by decide)⟩
  · show own_S p e below s₁ (mkF m 26 #[rv a1, own_l (256 : Int64), .second, iv p3, iv (0 : Int32), iv (0 : Int32), .unset] [(.int (-1 : Int32))]) _
    exact retI X0 hx Bd.returns (hb hby d18_26) hr
  · show Q_rmCt0_0 Z a1 p3 oR h0 n0 _ s₁.heap _
    rw [e0]
    exact ⟨rfl, N0, rfl⟩
theorem ef_rmRc1_1 (m : MethodId) (x0 : Int32) (x1 : Int32) (x2 : Int32) : entryFrame m #[(.int x0), (.int x1), (.int x2)] 3 = mkF m 0 #[iv x0, iv x1, iv x2] [] := by first | (simp [entryFrame, mkF, argsToLocals, Value.category]; done) | rfl
def Q_rmRc1_1 (Z : State)  (h0 : Heap) (n0 : Nat) (v : Option Value) (h : Heap) (L : List Loc) : Prop := v = none ∧ Fr n0 L ∧ h = h0
set_option maxRecDepth 65536 in
set_option maxHeartbeats 40000000 in
theorem rmRc1_1 (l : Launch) (Z : State) (a0 : Array Value) (hw : ∀ d ∈ tables_1, d.before a0 Z = true) (ws : List Jvm.Cond)  (h0 : Heap) (n0 : Nat) (Z0 : n0 ≤ h0.size) :
    own_M l (⟨"java/util/Arrays", "rangeCheck", "(III)V"⟩ : MethodName) (Jvm.Cond.code (⟨"java/util/Arrays", "rangeCheck", "(III)V"⟩ : MethodName) jdk_65_method_30_code 3 none :: ws) ({ frames := 0, cells := 0, slots := 0, locals := 0 } : Room) #[(.int (1 : Int32)), (.int (0 : Int32)), (.int (1 : Int32))] Z h0 (Q_rmRc1_1 Z  h0 n0) := by
  refine MetFree.of_bodySF (plainFor_of_name pn_7) hisR ?_
  intro p e s m args below meth c s₁ Bd hml0 hP hK
  obtain ⟨rfl, hZ, hh⟩ := hP
  have hx := Bd.exec
  have hby := Bd.bytes
  have hml : c.maxLocals = 3 := hml0
  have hown : s.vm.findClass "java/util/Arrays" = some m.cls := findClass_of_methodNamed Bd.named
  have hnm := (name_of_methodNamed Bd.named Bd.method).1
  have X0 : Stand p l e ({ frames := 0, cells := 0, slots := 0, locals := 0 } : Room) s m #[(.int (1 : Int32)), (.int (0 : Int32)), (.int (1 : Int32))] below meth c s₁ [] 0 0 := Stand.of_body Bd
  have hU : ∀ (i : Nat) (d : Jvm.Cond), tables_1[i]? = some d → d.before a0 Z = true := fun i d h => hw d (List.mem_of_getElem? h)
  have e0 : s₁.heap = h0 := by rw [← hh, Bd.state]; rfl
  have N0 := Fr.nil n0
  obtain ⟨f0, hf0⟩ : ∃ f : JFrame, f = mkF m 0 #[iv (1 : Int32), iv (0 : Int32), iv (1 : Int32)] [] := ⟨_, rfl⟩
  have pre0 : ∀ t, own_S p e below s₁ f0 t → Steps p.tables e below (s₁.setTop (entryFrame m #[(.int (1 : Int32)), (.int (0 : Int32)), (.int (1 : Int32))] 3)) t := fun t k => castTop ((ef_rmRc1_1 m (1 : Int32) (0 : Int32) (1 : Int32)).trans hf0.symm) k
  have R0 : ∀ t, own_S p e below s₁ (mkF m 0 #[iv (1 : Int32), iv (0 : Int32), iv (1 : Int32)] []) t → own_S p e below s₁ f0 t := by rw [hf0]; exact fun t k => k
  have R1 : ∀ t, own_S p e below s₁ (mkF m 73 #[iv (1 : Int32), iv (0 : Int32), iv (1 : Int32)] []) t → own_S p e below s₁ f0 t := fun t k => R0 t (by
    refine XS.iloadN X0.here hx rfl (hb hby d12_0) rfl  ?_
    refine XS.iloadN X0.here hx rfl (hb hby d12_1) rfl  ?_
    refine XS.icmpYes X0.here hx rfl (pc0 := 2) (pc' := 46) rfl (hb hby d12_2) rfl (flt (by decide : ¬ ((1 : Int32) < (0 : Int32)))).2.2.2 (by decide) (by decide) ?_
    refine XS.iloadN X0.here hx rfl (hb hby d12_46) rfl  ?_
    refine XS.ifYes X0.here hx rfl (pc0 := 47) (pc' := 59) rfl (hb hby d12_47) rfl ((if0 _ _).trans (flt (by decide : ¬ ((0 : Int32) < (0 : Int32)))).2.1) (by decide) (by decide) ?_
    refine XS.iloadN X0.here hx rfl (hb hby d12_59) rfl  ?_
    show own_S p e below s₁ (mkF m 60 #[iv (1 : Int32), iv (0 : Int32), iv (1 : Int32)] [(.int (1 : Int32))]) _
    refine XS.iloadN X0.here hx rfl (hb hby d12_60) rfl  ?_
    refine XS.icmpYes X0.here hx rfl (pc0 := 61) (pc' := 73) rfl (hb hby d12_61) rfl (flt (by decide : ¬ ((1 : Int32) < (1 : Int32)))).2.2.2 (by decide) (by decide) ?_
    exact k)
  obtain ⟨fs, hr, hrun, hended, hW, hsame⟩ := X0.leave (v := none) (fun _ => rfl)
  refine ⟨_, _, pre0 _ (R1 _ ?_), hrun, hended, _, _, rfl, ?_, ⟨_, rfl⟩, hW, hsame.mono (by decide) (by decide)⟩
  · show own_S p e below s₁ (mkF m 73 #[iv (1 : Int32), iv (0 : Int32), iv (1 : Int32)] []) _
    exact X0.returnOut hx Bd.returns (hb hby d12_73) hr
  · show Q_rmRc1_1 Z  h0 n0 _ s₁.heap _
    rw [e0]
    exact ⟨rfl, N0, rfl⟩
theorem ef_rmBz1_1_0_1 (m : MethodId) (x0 : Addr) (x1 : Int32) (x2 : Int32) (x3 : Int32) : entryFrame m #[(.ref x0), (.int x1), (.int x2), (.int x3)] 8 = mkF m 0 #[rv x0, iv x1, iv x2, iv x3, .unset, .unset, .unset, .unset] [] := by first | (simp [entryFrame, mkF, argsToLocals, Value.category]; done) | rfl
def Q_rmBz1_1_0_1 (Z : State) (a1 : Addr) (p4 : Int32) (k1 : ClassId) (x0 : Int32) (h0 : Heap) (n0 : Nat) (v : Option Value) (h : Heap) (L : List Loc) : Prop := v = some (.int (-1 : Int32)) ∧ Fr n0 L ∧ h = h0
set_option maxRecDepth 65536 in
set_option maxHeartbeats 40000000 in
theorem rmBz1_1_0_1 (l : Launch) (Z : State) (a0 : Array Value) (hw : ∀ d ∈ tables_1, d.before a0 Z = true) (ws : List Jvm.Cond) (a1 : Addr) (p4 : Int32) (k1 : ClassId) (x0 : Int32) (h0 : Heap) (n0 : Nat) (Z0 : n0 ≤ h0.size) (A_a1 : Arv Z h0 a1 k1 .int (1 : Int32) [(.int x0)] (.int (0 : Int32))) (ho0 : p4 < x0) :
    own_M l (⟨"java/util/Arrays", "binarySearch0", "([IIII)I"⟩ : MethodName) (Jvm.Cond.code (⟨"java/util/Arrays", "binarySearch0", "([IIII)I"⟩ : MethodName) jdk_65_method_59_code 8 (some .int) :: ws) ({ frames := 0, cells := 0, slots := 0, locals := 0 } : Room) #[(.ref a1), (.int (0 : Int32)), (.int (1 : Int32)), (.int p4)] Z h0 (Q_rmBz1_1_0_1 Z a1 p4 k1 x0 h0 n0) := by
  refine MetFree.of_bodySF (plainFor_of_name pn_7) hisR ?_
  intro p e s m args below meth c s₁ Bd hml0 hP hK
  obtain ⟨rfl, hZ, hh⟩ := hP
  have hx := Bd.exec
  have hby := Bd.bytes
  have hml : c.maxLocals = 8 := hml0
  have hown : s.vm.findClass "java/util/Arrays" = some m.cls := findClass_of_methodNamed Bd.named
  have hnm := (name_of_methodNamed Bd.named Bd.method).1
  have X0 : Stand p l e ({ frames := 0, cells := 0, slots := 0, locals := 0 } : Room) s m #[(.ref a1), (.int (0 : Int32)), (.int (1 : Int32)), (.int p4)] below meth c s₁ [] 0 0 := Stand.of_body Bd
  have hU : ∀ (i : Nat) (d : Jvm.Cond), tables_1[i]? = some d → d.before a0 Z = true := fun i d h => hw d (List.mem_of_getElem? h)
  have e0 : s₁.heap = h0 := by rw [← hh, Bd.state]; rfl
  have N0 := Fr.nil n0
  obtain ⟨f0, hf0⟩ : ∃ f : JFrame, f = mkF m 0 #[rv a1, iv (0 : Int32), iv (1 : Int32), iv p4, .unset, .unset, .unset, .unset] [] := ⟨_, rfl⟩
  have pre0 : ∀ t, own_S p e below s₁ f0 t → Steps p.tables e below (s₁.setTop (entryFrame m #[(.ref a1), (.int (0 : Int32)), (.int (1 : Int32)), (.int p4)] 8)) t := fun t k => castTop ((ef_rmBz1_1_0_1 m a1 (0 : Int32) (1 : Int32) p4).trans hf0.symm) k
  have R0 : ∀ t, own_S p e below s₁ (mkF m 0 #[rv a1, iv (0 : Int32), iv (1 : Int32), iv p4, .unset, .unset, .unset, .unset] []) t → own_S p e below s₁ f0 t := by rw [hf0]; exact fun t k => k
  have R1 : ∀ t, own_S p e below s₁ (mkF m 22 #[rv a1, iv (0 : Int32), iv (1 : Int32), iv p4, iv (0 : Int32), iv (0 : Int32), .unset, .unset] [(.int (((0 : Int32).toUInt32 >>> ((1 : Int32) &&& 31).toUInt32).toInt32))]) t → own_S p e below s₁ f0 t := fun t k => R0 t (by
    refine XS.iloadN X0.here hx rfl (hb hby d13_0) rfl  ?_
    refine XS.istore X0.here hx rfl (hb hby d13_1) rfl (l' := #[rv a1, iv (0 : Int32), iv (1 : Int32), iv p4, iv (0 : Int32), .unset, .unset, .unset]) rfl ?_
    refine XS.iloadN X0.here hx rfl (hb hby d13_3) rfl  ?_
    refine XS.iconst X0.here hx rfl (hb hby d13_4) ?_
    refine XS.isub X0.here hx rfl (hb hby d13_5) rfl ?_
    refine XS.istore X0.here hx rfl (hb hby d13_6) rfl (l' := #[rv a1, iv (0 : Int32), iv (1 : Int32), iv p4, iv (0 : Int32), iv (0 : Int32), .unset, .unset]) rfl ?_
    show own_S p e below s₁ (mkF m 8 #[rv a1, iv (0 : Int32), iv (1 : Int32), iv p4, iv (0 : Int32), iv (0 : Int32), .unset, .unset] []) _
    refine XS.iload X0.here hx rfl (hb hby d13_8) rfl  ?_
    refine XS.iload X0.here hx rfl (hb hby d13_10) rfl  ?_
    refine XS.icmpNo X0.here hx rfl (hb hby d13_12) rfl (flt (by decide : ¬ ((0 : Int32) < (0 : Int32)))).2.2.1 ?_
    refine XS.iload X0.here hx rfl (hb hby d13_15) rfl  ?_
    refine XS.iload X0.here hx rfl (hb hby d13_17) rfl  ?_
    refine XS.iadd X0.here hx rfl (hb hby d13_19) rfl ?_
    show own_S p e below s₁ (mkF m 20 #[rv a1, iv (0 : Int32), iv (1 : Int32), iv p4, iv (0 : Int32), iv (0 : Int32), .unset, .unset] [(.int (0 : Int32))]) _
    refine XS.iconst X0.here hx rfl (hb hby d13_20) ?_
    refine XS.iushr X0.here hx rfl (hb hby d13_21) rfl ?_
    exact k)
  have R2 : ∀ t, own_S p e below s₁ (mkF m 22 #[rv a1, iv (0 : Int32), iv (1 : Int32), iv p4, iv (0 : Int32), iv (0 : Int32), .unset, .unset] [(.int (0 : Int32))]) t → own_S p e below s₁ f0 t := by have q := R1; rw [((by decide) : (((0 : Int32).toUInt32 >>> ((1 : Int32) &&& 31).toUInt32).toInt32) = (0 : Int32))] at q; exact q
  have R3 : ∀ t, own_S p e below s₁ (mkF m 27 #[rv a1, iv (0 : Int32), iv (1 : Int32), iv p4, iv (0 : Int32), iv (0 : Int32), iv (0 : Int32), .unset] [(.int (0 : Int32)), (.ref a1)]) t → own_S p e below s₁ f0 t := fun t k => R2 t (by
    refine XS.istore X0.here hx rfl (hb hby d13_22) rfl (l' := #[rv a1, iv (0 : Int32), iv (1 : Int32), iv p4, iv (0 : Int32), iv (0 : Int32), iv (0 : Int32), .unset]) rfl ?_
    refine XS.aloadN X0.here hx rfl (hb hby d13_24) rfl rfl ?_
    refine XS.iload X0.here hx rfl (hb hby d13_25) rfl  ?_
    exact k)
  obtain ⟨cl4, Ar4, q4, S4, n4_, H4, G4⟩ := id A_a1
  have hin4 : ¬ ((0 : Int32) < 0 ∨ cl4.slots.size ≤ ((0 : Int32)).toNatClampNeg) := inb_of S4 ⟨by decide, by decide⟩
  have hat4 : cl4.slots[((0 : Int32)).toNatClampNeg]? = some (.int x0) := Has.at H4 hin4 rfl
  have R5 : ∀ t, own_S p e below s₁ (mkF m 28 #[rv a1, iv (0 : Int32), iv (1 : Int32), iv p4, iv (0 : Int32), iv (0 : Int32), iv (0 : Int32), .unset] [(.int x0)]) t → own_S p e below s₁ f0 t := fun t k => R3 t (X0.iaload hx (j := (0 : Int32)) (v := (.int x0)) (by rw [e0]; exact Ar4.1) (State.isArrayOf_alike hZ.alike Ar4.2.1) Ar4.2.2 hin4 hat4 (g := (mkF m 27 #[rv a1, iv (0 : Int32), iv (1 : Int32), iv p4, iv (0 : Int32), iv (0 : Int32), iv (0 : Int32), .unset] [(.int (0 : Int32)), (.ref a1)])) rfl rfl (hb hby d13_27) _ k)
  have R6 : ∀ t, own_S p e below s₁ (mkF m 71 #[rv a1, iv (0 : Int32), iv (1 : Int32), iv p4, iv (0 : Int32), iv (-1 : Int32), iv (0 : Int32), iv x0] [(.int (-(1 : Int32)))]) t → own_S p e below s₁ f0 t := fun t k => R5 t (by
    refine XS.istore X0.here hx rfl (hb hby d13_28) rfl (l' := #[rv a1, iv (0 : Int32), iv (1 : Int32), iv p4, iv (0 : Int32), iv (0 : Int32), iv (0 : Int32), iv x0]) rfl ?_
    refine XS.iload X0.here hx rfl (hb hby d13_30) rfl  ?_
    refine XS.iloadN X0.here hx rfl (hb hby d13_32) rfl  ?_
    refine XS.icmpYes X0.here hx rfl (pc0 := 33) (pc' := 45) rfl (hb hby d13_33) rfl (flt (own_asym ho0)).2.1 (by decide) (by decide) ?_
    refine XS.iload X0.here hx rfl (hb hby d13_45) rfl  ?_
    refine XS.iloadN X0.here hx rfl (hb hby d13_47) rfl  ?_
    show own_S p e below s₁ (mkF m 48 #[rv a1, iv (0 : Int32), iv (1 : Int32), iv p4, iv (0 : Int32), iv (0 : Int32), iv (0 : Int32), iv x0] [(.int p4), (.int x0)]) _
    refine XS.icmpNo X0.here hx rfl (hb hby d13_48) rfl (tlt ho0).2.2.2 ?_
    refine XS.iload X0.here hx rfl (hb hby d13_51) rfl  ?_
    refine XS.iconst X0.here hx rfl (hb hby d13_53) ?_
    refine XS.isub X0.here hx rfl (hb hby d13_54) rfl ?_
    refine XS.istore X0.here hx rfl (hb hby d13_55) rfl (l' := #[rv a1, iv (0 : Int32), iv (1 : Int32), iv p4, iv (0 : Int32), iv (-1 : Int32), iv (0 : Int32), iv x0]) rfl ?_
    refine XS.goto X0.here hx rfl (pc0 := 57) (pc' := 63) rfl (hb hby d13_57) (by decide) (by decide) ?_
    show own_S p e below s₁ (mkF m 63 #[rv a1, iv (0 : Int32), iv (1 : Int32), iv p4, iv (0 : Int32), iv (-1 : Int32), iv (0 : Int32), iv x0] []) _
    refine XS.goto X0.here hx rfl (pc0 := 63) (pc' := 8) rfl (hb hby d13_63) (by decide) (by decide) ?_
    refine XS.iload X0.here hx rfl (hb hby d13_8) rfl  ?_
    refine XS.iload X0.here hx rfl (hb hby d13_10) rfl  ?_
    refine XS.icmpYes X0.here hx rfl (pc0 := 12) (pc' := 66) rfl (hb hby d13_12) rfl (tlt (by decide : (-1 : Int32) < (0 : Int32))).2.2.1 (by decide) (by decide) ?_
    refine XS.iload X0.here hx rfl (hb hby d13_66) rfl  ?_
    refine XS.iconst X0.here hx rfl (hb hby d13_68) ?_
    show own_S p e below s₁ (mkF m 69 #[rv a1, iv (0 : Int32), iv (1 : Int32), iv p4, iv (0 : Int32), iv (-1 : Int32), iv (0 : Int32), iv x0] [(.int (1 : Int32)), (.int (0 : Int32))]) _
    refine XS.iadd X0.here hx rfl (hb hby d13_69) rfl ?_
    refine XS.ineg X0.here hx rfl (hb hby d13_70) rfl ?_
    exact k)
  have R7 : ∀ t, own_S p e below s₁ (mkF m 71 #[rv a1, iv (0 : Int32), iv (1 : Int32), iv p4, iv (0 : Int32), iv (-1 : Int32), iv (0 : Int32), iv x0] [(.int (-1 : Int32))]) t → own_S p e below s₁ f0 t := by have q := R6; rw [((by decide) : (-(1 : Int32)) = (-1 : Int32))] at q; exact q
  obtain ⟨fs, hr, hrun, hended, hW, hsame⟩ := X0.leave (v := some (.int (-1 : Int32))) (fun h => by rw [Bd.returns] at h; cases h)
  refine ⟨_, _, pre0 _ (R7 _ ?_), hrun, hended, _, _, rfl, ?_, ⟨_, rfl⟩, hW, hsame.mono (by decide) (by decide)⟩
  · show own_S p e below s₁ (mkF m 71 #[rv a1, iv (0 : Int32), iv (1 : Int32), iv p4, iv (0 : Int32), iv (-1 : Int32), iv (0 : Int32), iv x0] [(.int (-1 : Int32))]) _
    exact retI X0 hx Bd.returns (hb hby d13_71) hr
  · show Q_rmBz1_1_0_1 Z a1 p4 k1 x0 h0 n0 _ s₁.heap _
    rw [e0]
    exact ⟨rfl, N0, rfl⟩
theorem ef_rmBs1_1_0_1 (m : MethodId) (x0 : Addr) (x1 : Int32) (x2 : Int32) (x3 : Int32) : entryFrame m #[(.ref x0), (.int x1), (.int x2), (.int x3)] 4 = mkF m 0 #[rv x0, iv x1, iv x2, iv x3] [] := by first | (simp [entryFrame, mkF, argsToLocals, Value.category]; done) | rfl
def Q_rmBs1_1_0_1 (Z : State) (a1 : Addr) (p4 : Int32) (k1 : ClassId) (x0 : Int32) (h0 : Heap) (n0 : Nat) (v : Option Value) (h : Heap) (L : List Loc) : Prop := v = some (.int (-1 : Int32)) ∧ Fr n0 L ∧ h = h0
set_option maxRecDepth 65536 in
set_option maxHeartbeats 40000000 in
theorem rmBs1_1_0_1 (l : Launch) (Z : State) (a0 : Array Value) (hw : ∀ d ∈ tables_1, d.before a0 Z = true) (ws : List Jvm.Cond) (a1 : Addr) (p4 : Int32) (k1 : ClassId) (x0 : Int32) (h0 : Heap) (n0 : Nat) (Z0 : n0 ≤ h0.size) (A_a1 : Arv Z h0 a1 k1 .int (1 : Int32) [(.int x0)] (.int (0 : Int32))) (ho0 : p4 < x0) :
    own_M l (⟨"java/util/Arrays", "binarySearch", "([IIII)I"⟩ : MethodName) (Jvm.Cond.code (⟨"java/util/Arrays", "binarySearch", "([IIII)I"⟩ : MethodName) jdk_65_method_58_code 4 (some .int) :: ws) ({ frames := 1, cells := 0, slots := 0, locals := 19 } : Room) #[(.ref a1), (.int (0 : Int32)), (.int (1 : Int32)), (.int p4)] Z h0 (Q_rmBs1_1_0_1 Z a1 p4 k1 x0 h0 n0) := by
  refine MetFree.of_bodySF (plainFor_of_name pn_7) hisR ?_
  intro p e s m args below meth c s₁ Bd hml0 hP hK
  obtain ⟨rfl, hZ, hh⟩ := hP
  have hx := Bd.exec
  have hby := Bd.bytes
  have hml : c.maxLocals = 4 := hml0
  have hown : s.vm.findClass "java/util/Arrays" = some m.cls := findClass_of_methodNamed Bd.named
  have hnm := (name_of_methodNamed Bd.named Bd.method).1
  have X0 : Stand p l e ({ frames := 1, cells := 0, slots := 0, locals := 19 } : Room) s m #[(.ref a1), (.int (0 : Int32)), (.int (1 : Int32)), (.int p4)] below meth c s₁ [] 0 0 := Stand.of_body Bd
  have hU : ∀ (i : Nat) (d : Jvm.Cond), tables_1[i]? = some d → d.before a0 Z = true := fun i d h => hw d (List.mem_of_getElem? h)
  have e0 : s₁.heap = h0 := by rw [← hh, Bd.state]; rfl
  have N0 := Fr.nil n0
  obtain ⟨f0, hf0⟩ : ∃ f : JFrame, f = mkF m 0 #[rv a1, iv (0 : Int32), iv (1 : Int32), iv p4] [] := ⟨_, rfl⟩
  have pre0 : ∀ t, own_S p e below s₁ f0 t → Steps p.tables e below (s₁.setTop (entryFrame m #[(.ref a1), (.int (0 : Int32)), (.int (1 : Int32)), (.int p4)] 4)) t := fun t k => castTop ((ef_rmBs1_1_0_1 m a1 (0 : Int32) (1 : Int32) p4).trans hf0.symm) k
  have R0 : ∀ t, own_S p e below s₁ (mkF m 0 #[rv a1, iv (0 : Int32), iv (1 : Int32), iv p4] []) t → own_S p e below s₁ f0 t := by rw [hf0]; exact fun t k => k
  have R1 : ∀ t, own_S p e below s₁ (mkF m 1 #[rv a1, iv (0 : Int32), iv (1 : Int32), iv p4] [(.ref a1)]) t → own_S p e below s₁ f0 t := fun t k => R0 t (by
    refine XS.aloadN X0.here hx rfl (hb hby d11_0) rfl rfl ?_
    exact k)
  obtain ⟨cl2, Ar2, -, S2, N2_, -, -⟩ := id A_a1
  have R3 : ∀ t, own_S p e below s₁ (mkF m 2 #[rv a1, iv (0 : Int32), iv (1 : Int32), iv p4] [(.int (1 : Int32))]) t → own_S p e below s₁ f0 t := fun t k => R1 t (X0.arraylength hx (by rw [e0]; exact Ar2.1) (State.isArrayOf_alike hZ.alike Ar2.2.1) (g := (mkF m 1 #[rv a1, iv (0 : Int32), iv (1 : Int32), iv p4] [(.ref a1)])) rfl rfl (hb hby d11_1) _ (by rw [len_of S2 N2_]; exact k))
  have R4 : ∀ t, own_S p e below s₁ (mkF m 4 #[rv a1, iv (0 : Int32), iv (1 : Int32), iv p4] [(.int (1 : Int32)), (.int (0 : Int32)), (.int (1 : Int32))]) t → own_S p e below s₁ f0 t := fun t k => R3 t (by
    refine XS.iloadN X0.here hx rfl (hb hby d11_2) rfl  ?_
    refine XS.iloadN X0.here hx rfl (hb hby d11_3) rfl  ?_
    exact k)
  obtain ⟨_, _, ⟨T5, L5, k5, n5⟩, -, X5, ⟨Lc5, hQ5, l5, y5, z5⟩, st5⟩ := Jvm.LawKit.callS X0 hx (y := (⟨"java/util/Arrays", "rangeCheck", "(III)V"⟩ : MethodName)) hown (mvT hZ (hU 91 _ rfl)) (mvT hZ (hU 92 _ rfl)) (mvT hZ (hU 89 _ rfl)) (mvT hZ (hU 93 _ rfl)) (by decide) (backOf (W := 0) (rmRc1_1 l Z a0 hw []  h0 n0 Z0) hZ (hU 93 _ rfl) (hU 89 _ rfl) (by decide) (by decide)) (g := (mkF m 4 #[rv a1, iv (0 : Int32), iv (1 : Int32), iv p4] [(.int (1 : Int32)), (.int (0 : Int32)), (.int (1 : Int32))])) rfl (by rw [hml]; rfl) (argsL := [(.int (1 : Int32)), (.int (0 : Int32)), (.int (1 : Int32))]) (rest := []) (lenOf pd_8 rfl) rfl (Nat.le_of_eq rfl) (hb hby d11_4) (fun _ _ => ⟨rfl, e0, (by decide : 0 + 0 ≤ _), (by decide : 0 + 0 ≤ _)⟩)
  dsimp only [Pt.U, Pt.locs, Pt.cells, Pt.slots] at X5 l5 y5 z5 st5 hQ5
  subst l5 y5 z5
  obtain ⟨rfl, N5q, p5_0⟩ := hQ5
  have N5 := Fr.app N0 N5q
  have R6 := fun t k => R4 t (st5 t k)
  have R7 : ∀ t, own_S p e below T5 (mkF m 11 #[rv a1, iv (0 : Int32), iv (1 : Int32), iv p4] [(.int p4), (.int (1 : Int32)), (.int (0 : Int32)), (.ref a1)]) t → own_S p e below s₁ f0 t := fun t k => R6 t (by
    refine XS.aloadN X5.here hx rfl (hb hby d11_7) rfl rfl ?_
    refine XS.iloadN X5.here hx rfl (hb hby d11_8) rfl  ?_
    refine XS.iloadN X5.here hx rfl (hb hby d11_9) rfl  ?_
    refine XS.iloadN X5.here hx rfl (hb hby d11_10) rfl  ?_
    exact k)
  obtain ⟨_, _, ⟨T8, L8, k8, n8⟩, -, X8, ⟨Lc8, hQ8, l8, y8, z8⟩, st8⟩ := Jvm.LawKit.callS X5 hx (y := (⟨"java/util/Arrays", "binarySearch0", "([IIII)I"⟩ : MethodName)) hown (mvT hZ (hU 94 _ rfl)) (mvT hZ (hU 95 _ rfl)) (mvT hZ (hU 89 _ rfl)) (mvT hZ (hU 96 _ rfl)) (by decide) (backOf (W := 0) (rmBz1_1_0_1 l Z a0 hw [] a1 p4 k1 x0 h0 n0 Z0 A_a1 ho0) hZ (hU 96 _ rfl) (hU 89 _ rfl) (by decide) (by decide)) (g := (mkF m 11 #[rv a1, iv (0 : Int32), iv (1 : Int32), iv p4] [(.int p4), (.int (1 : Int32)), (.int (0 : Int32)), (.ref a1)])) rfl (by rw [hml]; rfl) (argsL := [(.ref a1), (.int (0 : Int32)), (.int (1 : Int32)), (.int p4)]) (rest := []) (lenOf pd_9 rfl) rfl (Nat.le_of_eq rfl) (hb hby d11_11) (fun _ _ => ⟨rfl, p5_0, (by decide : 0 + 0 ≤ _), (by decide : 0 + 0 ≤ _)⟩)
  dsimp only [Pt.U, Pt.locs, Pt.cells, Pt.slots] at X8 l8 y8 z8 st8 hQ8
  subst l8 y8 z8
  obtain ⟨rfl, N8q, p8_0⟩ := hQ8
  have N8 := Fr.app N5 N8q
  have R9 := fun t k => R7 t (st8 t k)
  obtain ⟨fs, hr, hrun, hended, hW, hsame⟩ := X8.leave (v := some (.int (-1 : Int32))) (fun h => by rw [Bd.returns] at h; cases h)
  refine ⟨_, _, pre0 _ (R9 _ ?_), hrun, hended, _, _, rfl, ?_, ⟨_, rfl⟩, hW, hsame.mono (by decide) (by decide)⟩
  · show own_S p e below T8 (mkF m 14 #[rv a1, iv (0 : Int32), iv (1 : Int32), iv p4] [(.int (-1 : Int32))]) _
    exact retI X8 hx Bd.returns (hb hby d11_14) hr
  · show Q_rmBs1_1_0_1 Z a1 p4 k1 x0 h0 n0 _ T8.heap _
    rw [p8_0]
    exact ⟨rfl, N8, rfl⟩
theorem ef_rmRc256_1 (m : MethodId) (x0 : Int32) (x1 : Int32) (x2 : Int32) : entryFrame m #[(.int x0), (.int x1), (.int x2)] 3 = mkF m 0 #[iv x0, iv x1, iv x2] [] := by first | (simp [entryFrame, mkF, argsToLocals, Value.category]; done) | rfl
def Q_rmRc256_1 (Z : State)  (h0 : Heap) (n0 : Nat) (v : Option Value) (h : Heap) (L : List Loc) : Prop := v = none ∧ Fr n0 L ∧ h = h0
set_option maxRecDepth 65536 in
set_option maxHeartbeats 40000000 in
theorem rmRc256_1 (l : Launch) (Z : State) (a0 : Array Value) (hw : ∀ d ∈ tables_1, d.before a0 Z = true) (ws : List Jvm.Cond)  (h0 : Heap) (n0 : Nat) (Z0 : n0 ≤ h0.size) :
    own_M l (⟨"java/util/Arrays", "rangeCheck", "(III)V"⟩ : MethodName) (Jvm.Cond.code (⟨"java/util/Arrays", "rangeCheck", "(III)V"⟩ : MethodName) jdk_65_method_30_code 3 none :: ws) ({ frames := 0, cells := 0, slots := 0, locals := 0 } : Room) #[(.int (256 : Int32)), (.int (0 : Int32)), (.int (1 : Int32))] Z h0 (Q_rmRc256_1 Z  h0 n0) := by
  refine MetFree.of_bodySF (plainFor_of_name pn_7) hisR ?_
  intro p e s m args below meth c s₁ Bd hml0 hP hK
  obtain ⟨rfl, hZ, hh⟩ := hP
  have hx := Bd.exec
  have hby := Bd.bytes
  have hml : c.maxLocals = 3 := hml0
  have hown : s.vm.findClass "java/util/Arrays" = some m.cls := findClass_of_methodNamed Bd.named
  have hnm := (name_of_methodNamed Bd.named Bd.method).1
  have X0 : Stand p l e ({ frames := 0, cells := 0, slots := 0, locals := 0 } : Room) s m #[(.int (256 : Int32)), (.int (0 : Int32)), (.int (1 : Int32))] below meth c s₁ [] 0 0 := Stand.of_body Bd
  have hU : ∀ (i : Nat) (d : Jvm.Cond), tables_1[i]? = some d → d.before a0 Z = true := fun i d h => hw d (List.mem_of_getElem? h)
  have e0 : s₁.heap = h0 := by rw [← hh, Bd.state]; rfl
  have N0 := Fr.nil n0
  obtain ⟨f0, hf0⟩ : ∃ f : JFrame, f = mkF m 0 #[iv (256 : Int32), iv (0 : Int32), iv (1 : Int32)] [] := ⟨_, rfl⟩
  have pre0 : ∀ t, own_S p e below s₁ f0 t → Steps p.tables e below (s₁.setTop (entryFrame m #[(.int (256 : Int32)), (.int (0 : Int32)), (.int (1 : Int32))] 3)) t := fun t k => castTop ((ef_rmRc256_1 m (256 : Int32) (0 : Int32) (1 : Int32)).trans hf0.symm) k
  have R0 : ∀ t, own_S p e below s₁ (mkF m 0 #[iv (256 : Int32), iv (0 : Int32), iv (1 : Int32)] []) t → own_S p e below s₁ f0 t := by rw [hf0]; exact fun t k => k
  have R1 : ∀ t, own_S p e below s₁ (mkF m 73 #[iv (256 : Int32), iv (0 : Int32), iv (1 : Int32)] []) t → own_S p e below s₁ f0 t := fun t k => R0 t (by
    refine XS.iloadN X0.here hx rfl (hb hby d12_0) rfl  ?_
    refine XS.iloadN X0.here hx rfl (hb hby d12_1) rfl  ?_
    refine XS.icmpYes X0.here hx rfl (pc0 := 2) (pc' := 46) rfl (hb hby d12_2) rfl (flt (by decide : ¬ ((1 : Int32) < (0 : Int32)))).2.2.2 (by decide) (by decide) ?_
    refine XS.iloadN X0.here hx rfl (hb hby d12_46) rfl  ?_
    refine XS.ifYes X0.here hx rfl (pc0 := 47) (pc' := 59) rfl (hb hby d12_47) rfl ((if0 _ _).trans (flt (by decide : ¬ ((0 : Int32) < (0 : Int32)))).2.1) (by decide) (by decide) ?_
    refine XS.iloadN X0.here hx rfl (hb hby d12_59) rfl  ?_
    show own_S p e below s₁ (mkF m 60 #[iv (256 : Int32), iv (0 : Int32), iv (1 : Int32)] [(.int (1 : Int32))]) _
    refine XS.iloadN X0.here hx rfl (hb hby d12_60) rfl  ?_
    refine XS.icmpYes X0.here hx rfl (pc0 := 61) (pc' := 73) rfl (hb hby d12_61) rfl (flt (by decide : ¬ ((256 : Int32) < (1 : Int32)))).2.2.2 (by decide) (by decide) ?_
    exact k)
  obtain ⟨fs, hr, hrun, hended, hW, hsame⟩ := X0.leave (v := none) (fun _ => rfl)
  refine ⟨_, _, pre0 _ (R1 _ ?_), hrun, hended, _, _, rfl, ?_, ⟨_, rfl⟩, hW, hsame.mono (by decide) (by decide)⟩
  · show own_S p e below s₁ (mkF m 73 #[iv (256 : Int32), iv (0 : Int32), iv (1 : Int32)] []) _
    exact X0.returnOut hx Bd.returns (hb hby d12_73) hr
  · show Q_rmRc256_1 Z  h0 n0 _ s₁.heap _
    rw [e0]
    exact ⟨rfl, N0, rfl⟩
theorem ef_rmBz256_1_0_3 (m : MethodId) (x0 : Addr) (x1 : Int32) (x2 : Int32) (x3 : Int32) : entryFrame m #[(.ref x0), (.int x1), (.int x2), (.int x3)] 8 = mkF m 0 #[rv x0, iv x1, iv x2, iv x3, .unset, .unset, .unset, .unset] [] := by first | (simp [entryFrame, mkF, argsToLocals, Value.category]; done) | rfl
def Q_rmBz256_1_0_3 (Z : State) (a1 : Addr) (p4 : Int32) (k1 : ClassId) (x0 : Int32) (x1 : Int32) (x2 : Int32) (h0 : Heap) (n0 : Nat) (v : Option Value) (h : Heap) (L : List Loc) : Prop := v = some (.int (-1 : Int32)) ∧ Fr n0 L ∧ h = h0
set_option maxRecDepth 65536 in
set_option maxHeartbeats 40000000 in
theorem rmBz256_1_0_3 (l : Launch) (Z : State) (a0 : Array Value) (hw : ∀ d ∈ tables_1, d.before a0 Z = true) (ws : List Jvm.Cond) (a1 : Addr) (p4 : Int32) (k1 : ClassId) (x0 : Int32) (x1 : Int32) (x2 : Int32) (h0 : Heap) (n0 : Nat) (Z0 : n0 ≤ h0.size) (A_a1 : Arv Z h0 a1 k1 .int (256 : Int32) [(.int x0), (.int x1), (.int x2)] (.int (0 : Int32))) (ho0 : p4 < x0) :
    own_M l (⟨"java/util/Arrays", "binarySearch0", "([IIII)I"⟩ : MethodName) (Jvm.Cond.code (⟨"java/util/Arrays", "binarySearch0", "([IIII)I"⟩ : MethodName) jdk_65_method_59_code 8 (some .int) :: ws) ({ frames := 0, cells := 0, slots := 0, locals := 0 } : Room) #[(.ref a1), (.int (0 : Int32)), (.int (1 : Int32)), (.int p4)] Z h0 (Q_rmBz256_1_0_3 Z a1 p4 k1 x0 x1 x2 h0 n0) := by
  refine MetFree.of_bodySF (plainFor_of_name pn_7) hisR ?_
  intro p e s m args below meth c s₁ Bd hml0 hP hK
  obtain ⟨rfl, hZ, hh⟩ := hP
  have hx := Bd.exec
  have hby := Bd.bytes
  have hml : c.maxLocals = 8 := hml0
  have hown : s.vm.findClass "java/util/Arrays" = some m.cls := findClass_of_methodNamed Bd.named
  have hnm := (name_of_methodNamed Bd.named Bd.method).1
  have X0 : Stand p l e ({ frames := 0, cells := 0, slots := 0, locals := 0 } : Room) s m #[(.ref a1), (.int (0 : Int32)), (.int (1 : Int32)), (.int p4)] below meth c s₁ [] 0 0 := Stand.of_body Bd
  have hU : ∀ (i : Nat) (d : Jvm.Cond), tables_1[i]? = some d → d.before a0 Z = true := fun i d h => hw d (List.mem_of_getElem? h)
  have e0 : s₁.heap = h0 := by rw [← hh, Bd.state]; rfl
  have N0 := Fr.nil n0
  obtain ⟨f0, hf0⟩ : ∃ f : JFrame, f = mkF m 0 #[rv a1, iv (0 : Int32), iv (1 : Int32), iv p4, .unset, .unset, .unset, .unset] [] := ⟨_, rfl⟩
  have pre0 : ∀ t, own_S p e below s₁ f0 t → Steps p.tables e below (s₁.setTop (entryFrame m #[(.ref a1), (.int (0 : Int32)), (.int (1 : Int32)), (.int p4)] 8)) t := fun t k => castTop ((ef_rmBz256_1_0_3 m a1 (0 : Int32) (1 : Int32) p4).trans hf0.symm) k
  have R0 : ∀ t, own_S p e below s₁ (mkF m 0 #[rv a1, iv (0 : Int32), iv (1 : Int32), iv p4, .unset, .unset, .unset, .unset] []) t → own_S p e below s₁ f0 t := by rw [hf0]; exact fun t k => k
  have R1 : ∀ t, own_S p e below s₁ (mkF m 22 #[rv a1, iv (0 : Int32), iv (1 : Int32), iv p4, iv (0 : Int32), iv (0 : Int32), .unset, .unset] [(.int (((0 : Int32).toUInt32 >>> ((1 : Int32) &&& 31).toUInt32).toInt32))]) t → own_S p e below s₁ f0 t := fun t k => R0 t (by
    refine XS.iloadN X0.here hx rfl (hb hby d13_0) rfl  ?_
    refine XS.istore X0.here hx rfl (hb hby d13_1) rfl (l' := #[rv a1, iv (0 : Int32), iv (1 : Int32), iv p4, iv (0 : Int32), .unset, .unset, .unset]) rfl ?_
    refine XS.iloadN X0.here hx rfl (hb hby d13_3) rfl  ?_
    refine XS.iconst X0.here hx rfl (hb hby d13_4) ?_
    refine XS.isub X0.here hx rfl (hb hby d13_5) rfl ?_
    refine XS.istore X0.here hx rfl (hb hby d13_6) rfl (l' := #[rv a1, iv (0 : Int32), iv (1 : Int32), iv p4, iv (0 : Int32), iv (0 : Int32), .unset, .unset]) rfl ?_
    show own_S p e below s₁ (mkF m 8 #[rv a1, iv (0 : Int32), iv (1 : Int32), iv p4, iv (0 : Int32), iv (0 : Int32), .unset, .unset] []) _
    refine XS.iload X0.here hx rfl (hb hby d13_8) rfl  ?_
    refine XS.iload X0.here hx rfl (hb hby d13_10) rfl  ?_
    refine XS.icmpNo X0.here hx rfl (hb hby d13_12) rfl (flt (by decide : ¬ ((0 : Int32) < (0 : Int32)))).2.2.1 ?_
    refine XS.iload X0.here hx rfl (hb hby d13_15) rfl  ?_
    refine XS.iload X0.here hx rfl (hb hby d13_17) rfl  ?_
    refine XS.iadd X0.here hx rfl (hb hby d13_19) rfl ?_
    show own_S p e below s₁ (mkF m 20 #[rv a1, iv (0 : Int32), iv (1 : Int32), iv p4, iv (0 : Int32), iv (0 : Int32), .unset, .unset] [(.int (0 : Int32))]) _
    refine XS.iconst X0.here hx rfl (hb hby d13_20) ?_
    refine XS.iushr X0.here hx rfl (hb hby d13_21) rfl ?_
    exact k)
  have R2 : ∀ t, own_S p e below s₁ (mkF m 22 #[rv a1, iv (0 : Int32), iv (1 : Int32), iv p4, iv (0 : Int32), iv (0 : Int32), .unset, .unset] [(.int (0 : Int32))]) t → own_S p e below s₁ f0 t := by have q := R1; rw [((by decide) : (((0 : Int32).toUInt32 >>> ((1 : Int32) &&& 31).toUInt32).toInt32) = (0 : Int32))] at q; exact q
  have R3 : ∀ t, own_S p e below s₁ (mkF m 27 #[rv a1, iv (0 : Int32), iv (1 : Int32), iv p4, iv (0 : Int32), iv (0 : Int32), iv (0 : Int32), .unset] [(.int (0 : Int32)), (.ref a1)]) t → own_S p e below s₁ f0 t := fun t k => R2 t (by
    refine XS.istore X0.here hx rfl (hb hby d13_22) rfl (l' := #[rv a1, iv (0 : Int32), iv (1 : Int32), iv p4, iv (0 : Int32), iv (0 : Int32), iv (0 : Int32), .unset]) rfl ?_
    refine XS.aloadN X0.here hx rfl (hb hby d13_24) rfl rfl ?_
    refine XS.iload X0.here hx rfl (hb hby d13_25) rfl  ?_
    exact k)
  obtain ⟨cl4, Ar4, q4, S4, n4_, H4, G4⟩ := id A_a1
  have hin4 : ¬ ((0 : Int32) < 0 ∨ cl4.slots.size ≤ ((0 : Int32)).toNatClampNeg) := inb_of S4 ⟨by decide, by decide⟩
  have hat4 : cl4.slots[((0 : Int32)).toNatClampNeg]? = some (.int x0) := Has.at H4 hin4 rfl
  have R5 : ∀ t, own_S p e below s₁ (mkF m 28 #[rv a1, iv (0 : Int32), iv (1 : Int32), iv p4, iv (0 : Int32), iv (0 : Int32), iv (0 : Int32), .unset] [(.int x0)]) t → own_S p e below s₁ f0 t := fun t k => R3 t (X0.iaload hx (j := (0 : Int32)) (v := (.int x0)) (by rw [e0]; exact Ar4.1) (State.isArrayOf_alike hZ.alike Ar4.2.1) Ar4.2.2 hin4 hat4 (g := (mkF m 27 #[rv a1, iv (0 : Int32), iv (1 : Int32), iv p4, iv (0 : Int32), iv (0 : Int32), iv (0 : Int32), .unset] [(.int (0 : Int32)), (.ref a1)])) rfl rfl (hb hby d13_27) _ k)
  have R6 : ∀ t, own_S p e below s₁ (mkF m 71 #[rv a1, iv (0 : Int32), iv (1 : Int32), iv p4, iv (0 : Int32), iv (-1 : Int32), iv (0 : Int32), iv x0] [(.int (-(1 : Int32)))]) t → own_S p e below s₁ f0 t := fun t k => R5 t (by
    refine XS.istore X0.here hx rfl (hb hby d13_28) rfl (l' := #[rv a1, iv (0 : Int32), iv (1 : Int32), iv p4, iv (0 : Int32), iv (0 : Int32), iv (0 : Int32), iv x0]) rfl ?_
    refine XS.iload X0.here hx rfl (hb hby d13_30) rfl  ?_
    refine XS.iloadN X0.here hx rfl (hb hby d13_32) rfl  ?_
    refine XS.icmpYes X0.here hx rfl (pc0 := 33) (pc' := 45) rfl (hb hby d13_33) rfl (flt (own_asym ho0)).2.1 (by decide) (by decide) ?_
    refine XS.iload X0.here hx rfl (hb hby d13_45) rfl  ?_
    refine XS.iloadN X0.here hx rfl (hb hby d13_47) rfl  ?_
    show own_S p e below s₁ (mkF m 48 #[rv a1, iv (0 : Int32), iv (1 : Int32), iv p4, iv (0 : Int32), iv (0 : Int32), iv (0 : Int32), iv x0] [(.int p4), (.int x0)]) _
    refine XS.icmpNo X0.here hx rfl (hb hby d13_48) rfl (tlt ho0).2.2.2 ?_
    refine XS.iload X0.here hx rfl (hb hby d13_51) rfl  ?_
    refine XS.iconst X0.here hx rfl (hb hby d13_53) ?_
    refine XS.isub X0.here hx rfl (hb hby d13_54) rfl ?_
    refine XS.istore X0.here hx rfl (hb hby d13_55) rfl (l' := #[rv a1, iv (0 : Int32), iv (1 : Int32), iv p4, iv (0 : Int32), iv (-1 : Int32), iv (0 : Int32), iv x0]) rfl ?_
    refine XS.goto X0.here hx rfl (pc0 := 57) (pc' := 63) rfl (hb hby d13_57) (by decide) (by decide) ?_
    show own_S p e below s₁ (mkF m 63 #[rv a1, iv (0 : Int32), iv (1 : Int32), iv p4, iv (0 : Int32), iv (-1 : Int32), iv (0 : Int32), iv x0] []) _
    refine XS.goto X0.here hx rfl (pc0 := 63) (pc' := 8) rfl (hb hby d13_63) (by decide) (by decide) ?_
    refine XS.iload X0.here hx rfl (hb hby d13_8) rfl  ?_
    refine XS.iload X0.here hx rfl (hb hby d13_10) rfl  ?_
    refine XS.icmpYes X0.here hx rfl (pc0 := 12) (pc' := 66) rfl (hb hby d13_12) rfl (tlt (by decide : (-1 : Int32) < (0 : Int32))).2.2.1 (by decide) (by decide) ?_
    refine XS.iload X0.here hx rfl (hb hby d13_66) rfl  ?_
    refine XS.iconst X0.here hx rfl (hb hby d13_68) ?_
    show own_S p e below s₁ (mkF m 69 #[rv a1, iv (0 : Int32), iv (1 : Int32), iv p4, iv (0 : Int32), iv (-1 : Int32), iv (0 : Int32), iv x0] [(.int (1 : Int32)), (.int (0 : Int32))]) _
    refine XS.iadd X0.here hx rfl (hb hby d13_69) rfl ?_
    refine XS.ineg X0.here hx rfl (hb hby d13_70) rfl ?_
    exact k)
  have R7 : ∀ t, own_S p e below s₁ (mkF m 71 #[rv a1, iv (0 : Int32), iv (1 : Int32), iv p4, iv (0 : Int32), iv (-1 : Int32), iv (0 : Int32), iv x0] [(.int (-1 : Int32))]) t → own_S p e below s₁ f0 t := by have q := R6; rw [((by decide) : (-(1 : Int32)) = (-1 : Int32))] at q; exact q
  obtain ⟨fs, hr, hrun, hended, hW, hsame⟩ := X0.leave (v := some (.int (-1 : Int32))) (fun h => by rw [Bd.returns] at h; cases h)
  refine ⟨_, _, pre0 _ (R7 _ ?_), hrun, hended, _, _, rfl, ?_, ⟨_, rfl⟩, hW, hsame.mono (by decide) (by decide)⟩
  · show own_S p e below s₁ (mkF m 71 #[rv a1, iv (0 : Int32), iv (1 : Int32), iv p4, iv (0 : Int32), iv (-1 : Int32), iv (0 : Int32), iv x0] [(.int (-1 : Int32))]) _
    exact retI X0 hx Bd.returns (hb hby d13_71) hr
  · show Q_rmBz256_1_0_3 Z a1 p4 k1 x0 x1 x2 h0 n0 _ s₁.heap _
    rw [e0]
    exact ⟨rfl, N0, rfl⟩
theorem ef_rmBs256_1_0_3 (m : MethodId) (x0 : Addr) (x1 : Int32) (x2 : Int32) (x3 : Int32) : entryFrame m #[(.ref x0), (.int x1), (.int x2), (.int x3)] 4 = mkF m 0 #[rv x0, iv x1, iv x2, iv x3] [] := by first | (simp [entryFrame, mkF, argsToLocals, Value.category]; done) | rfl
def Q_rmBs256_1_0_3 (Z : State) (a1 : Addr) (p4 : Int32) (k1 : ClassId) (x0 : Int32) (x1 : Int32) (x2 : Int32) (h0 : Heap) (n0 : Nat) (v : Option Value) (h : Heap) (L : List Loc) : Prop := v = some (.int (-1 : Int32)) ∧ Fr n0 L ∧ h = h0
set_option maxRecDepth 65536 in
set_option maxHeartbeats 40000000 in
theorem rmBs256_1_0_3 (l : Launch) (Z : State) (a0 : Array Value) (hw : ∀ d ∈ tables_1, d.before a0 Z = true) (ws : List Jvm.Cond) (a1 : Addr) (p4 : Int32) (k1 : ClassId) (x0 : Int32) (x1 : Int32) (x2 : Int32) (h0 : Heap) (n0 : Nat) (Z0 : n0 ≤ h0.size) (A_a1 : Arv Z h0 a1 k1 .int (256 : Int32) [(.int x0), (.int x1), (.int x2)] (.int (0 : Int32))) (ho0 : p4 < x0) :
    own_M l (⟨"java/util/Arrays", "binarySearch", "([IIII)I"⟩ : MethodName) (Jvm.Cond.code (⟨"java/util/Arrays", "binarySearch", "([IIII)I"⟩ : MethodName) jdk_65_method_58_code 4 (some .int) :: ws) ({ frames := 1, cells := 0, slots := 0, locals := 19 } : Room) #[(.ref a1), (.int (0 : Int32)), (.int (1 : Int32)), (.int p4)] Z h0 (Q_rmBs256_1_0_3 Z a1 p4 k1 x0 x1 x2 h0 n0) := by
  refine MetFree.of_bodySF (plainFor_of_name pn_7) hisR ?_
  intro p e s m args below meth c s₁ Bd hml0 hP hK
  obtain ⟨rfl, hZ, hh⟩ := hP
  have hx := Bd.exec
  have hby := Bd.bytes
  have hml : c.maxLocals = 4 := hml0
  have hown : s.vm.findClass "java/util/Arrays" = some m.cls := findClass_of_methodNamed Bd.named
  have hnm := (name_of_methodNamed Bd.named Bd.method).1
  have X0 : Stand p l e ({ frames := 1, cells := 0, slots := 0, locals := 19 } : Room) s m #[(.ref a1), (.int (0 : Int32)), (.int (1 : Int32)), (.int p4)] below meth c s₁ [] 0 0 := Stand.of_body Bd
  have hU : ∀ (i : Nat) (d : Jvm.Cond), tables_1[i]? = some d → d.before a0 Z = true := fun i d h => hw d (List.mem_of_getElem? h)
  have e0 : s₁.heap = h0 := by rw [← hh, Bd.state]; rfl
  have N0 := Fr.nil n0
  obtain ⟨f0, hf0⟩ : ∃ f : JFrame, f = mkF m 0 #[rv a1, iv (0 : Int32), iv (1 : Int32), iv p4] [] := ⟨_, rfl⟩
  have pre0 : ∀ t, own_S p e below s₁ f0 t → Steps p.tables e below (s₁.setTop (entryFrame m #[(.ref a1), (.int (0 : Int32)), (.int (1 : Int32)), (.int p4)] 4)) t := fun t k => castTop ((ef_rmBs256_1_0_3 m a1 (0 : Int32) (1 : Int32) p4).trans hf0.symm) k
  have R0 : ∀ t, own_S p e below s₁ (mkF m 0 #[rv a1, iv (0 : Int32), iv (1 : Int32), iv p4] []) t → own_S p e below s₁ f0 t := by rw [hf0]; exact fun t k => k
  have R1 : ∀ t, own_S p e below s₁ (mkF m 1 #[rv a1, iv (0 : Int32), iv (1 : Int32), iv p4] [(.ref a1)]) t → own_S p e below s₁ f0 t := fun t k => R0 t (by
    refine XS.aloadN X0.here hx rfl (hb hby d11_0) rfl rfl ?_
    exact k)
  obtain ⟨cl2, Ar2, -, S2, N2_, -, -⟩ := id A_a1
  have R3 : ∀ t, own_S p e below s₁ (mkF m 2 #[rv a1, iv (0 : Int32), iv (1 : Int32), iv p4] [(.int (256 : Int32))]) t → own_S p e below s₁ f0 t := fun t k => R1 t (X0.arraylength hx (by rw [e0]; exact Ar2.1) (State.isArrayOf_alike hZ.alike Ar2.2.1) (g := (mkF m 1 #[rv a1, iv (0 : Int32), iv (1 : Int32), iv p4] [(.ref a1)])) rfl rfl (hb hby d11_1) _ (by rw [len_of S2 N2_]; exact k))
  have R4 : ∀ t, own_S p e below s₁ (mkF m 4 #[rv a1, iv (0 : Int32), iv (1 : Int32), iv p4] [(.int (1 : Int32)), (.int (0 : Int32)), (.int (256 : Int32))]) t → own_S p e below s₁ f0 t := fun t k => R3 t (by
    refine XS.iloadN X0.here hx rfl (hb hby d11_2) rfl  ?_
    refine XS.iloadN X0.here hx rfl (hb hby d11_3) rfl  ?_
    exact k)
  obtain ⟨_, _, ⟨T5, L5, k5, n5⟩, -, X5, ⟨Lc5, hQ5, l5, y5, z5⟩, st5⟩ := Jvm.LawKit.callS X0 hx (y := (⟨"java/util/Arrays", "rangeCheck", "(III)V"⟩ : MethodName)) hown (mvT hZ (hU 91 _ rfl)) (mvT hZ (hU 92 _ rfl)) (mvT hZ (hU 89 _ rfl)) (mvT hZ (hU 93 _ rfl)) (by decide) (backOf (W := 0) (rmRc256_1 l Z a0 hw []  h0 n0 Z0) hZ (hU 93 _ rfl) (hU 89 _ rfl) (by decide) (by decide)) (g := (mkF m 4 #[rv a1, iv (0 : Int32), iv (1 : Int32), iv p4] [(.int (1 : Int32)), (.int (0 : Int32)), (.int (256 : Int32))])) rfl (by rw [hml]; rfl) (argsL := [(.int (256 : Int32)), (.int (0 : Int32)), (.int (1 : Int32))]) (rest := []) (lenOf pd_8 rfl) rfl (Nat.le_of_eq rfl) (hb hby d11_4) (fun _ _ => ⟨rfl, e0, (by decide : 0 + 0 ≤ _), (by decide : 0 + 0 ≤ _)⟩)
  dsimp only [Pt.U, Pt.locs, Pt.cells, Pt.slots] at X5 l5 y5 z5 st5 hQ5
  subst l5 y5 z5
  obtain ⟨rfl, N5q, p5_0⟩ := hQ5
  have N5 := Fr.app N0 N5q
  have R6 := fun t k => R4 t (st5 t k)
  have R7 : ∀ t, own_S p e below T5 (mkF m 11 #[rv a1, iv (0 : Int32), iv (1 : Int32), iv p4] [(.int p4), (.int (1 : Int32)), (.int (0 : Int32)), (.ref a1)]) t → own_S p e below s₁ f0 t := fun t k => R6 t (by
    refine XS.aloadN X5.here hx rfl (hb hby d11_7) rfl rfl ?_
    refine XS.iloadN X5.here hx rfl (hb hby d11_8) rfl  ?_
    refine XS.iloadN X5.here hx rfl (hb hby d11_9) rfl  ?_
    refine XS.iloadN X5.here hx rfl (hb hby d11_10) rfl  ?_
    exact k)
  obtain ⟨_, _, ⟨T8, L8, k8, n8⟩, -, X8, ⟨Lc8, hQ8, l8, y8, z8⟩, st8⟩ := Jvm.LawKit.callS X5 hx (y := (⟨"java/util/Arrays", "binarySearch0", "([IIII)I"⟩ : MethodName)) hown (mvT hZ (hU 94 _ rfl)) (mvT hZ (hU 95 _ rfl)) (mvT hZ (hU 89 _ rfl)) (mvT hZ (hU 96 _ rfl)) (by decide) (backOf (W := 0) (rmBz256_1_0_3 l Z a0 hw [] a1 p4 k1 x0 x1 x2 h0 n0 Z0 A_a1 ho0) hZ (hU 96 _ rfl) (hU 89 _ rfl) (by decide) (by decide)) (g := (mkF m 11 #[rv a1, iv (0 : Int32), iv (1 : Int32), iv p4] [(.int p4), (.int (1 : Int32)), (.int (0 : Int32)), (.ref a1)])) rfl (by rw [hml]; rfl) (argsL := [(.ref a1), (.int (0 : Int32)), (.int (1 : Int32)), (.int p4)]) (rest := []) (lenOf pd_9 rfl) rfl (Nat.le_of_eq rfl) (hb hby d11_11) (fun _ _ => ⟨rfl, p5_0, (by decide : 0 + 0 ≤ _), (by decide : 0 + 0 ≤ _)⟩)
  dsimp only [Pt.U, Pt.locs, Pt.cells, Pt.slots] at X8 l8 y8 z8 st8 hQ8
  subst l8 y8 z8
  obtain ⟨rfl, N8q, p8_0⟩ := hQ8
  have N8 := Fr.app N5 N8q
  have R9 := fun t k => R7 t (st8 t k)
  obtain ⟨fs, hr, hrun, hended, hW, hsame⟩ := X8.leave (v := some (.int (-1 : Int32))) (fun h => by rw [Bd.returns] at h; cases h)
  refine ⟨_, _, pre0 _ (R9 _ ?_), hrun, hended, _, _, rfl, ?_, ⟨_, rfl⟩, hW, hsame.mono (by decide) (by decide)⟩
  · show own_S p e below T8 (mkF m 14 #[rv a1, iv (0 : Int32), iv (1 : Int32), iv p4] [(.int (-1 : Int32))]) _
    exact retI X8 hx Bd.returns (hb hby d11_14) hr
  · show Q_rmBs256_1_0_3 Z a1 p4 k1 x0 x1 x2 h0 n0 _ T8.heap _
    rw [p8_0]
    exact ⟨rfl, N8, rfl⟩
theorem ef_rmMax_0_m1 (m : MethodId) (x0 : Int32) (x1 : Int32) : entryFrame m #[(.int x0), (.int x1)] 2 = mkF m 0 #[iv x0, iv x1] [] := by first | (simp [entryFrame, mkF, argsToLocals, Value.category]; done) | rfl
def Q_rmMax_0_m1 (Z : State)  (h0 : Heap) (n0 : Nat) (v : Option Value) (h : Heap) (L : List Loc) : Prop := v = some (.int (0 : Int32)) ∧ Fr n0 L ∧ h = h0
set_option maxRecDepth 65536 in
set_option maxHeartbeats 40000000 in
theorem rmMax_0_m1 (l : Launch) (Z : State) (a0 : Array Value) (hw : ∀ d ∈ tables_1, d.before a0 Z = true) (ws : List Jvm.Cond)  (h0 : Heap) (n0 : Nat) (Z0 : n0 ≤ h0.size) :
    own_M l (⟨"java/lang/Math", "max", "(II)I"⟩ : MethodName) (Jvm.Cond.code (⟨"java/lang/Math", "max", "(II)I"⟩ : MethodName) jdk_29_method_65_code 2 (some .int) :: ws) ({ frames := 0, cells := 0, slots := 0, locals := 0 } : Room) #[(.int (0 : Int32)), (.int (-1 : Int32))] Z h0 (Q_rmMax_0_m1 Z  h0 n0) := by
  refine MetFree.of_bodySF (Jvm.Free.JP.mathPlain rfl (by decide +kernel)) hisR ?_
  intro p e s m args below meth c s₁ Bd hml0 hP hK
  obtain ⟨rfl, hZ, hh⟩ := hP
  have hx := Bd.exec
  have hby := Bd.bytes
  have hml : c.maxLocals = 2 := hml0
  have hown : s.vm.findClass "java/lang/Math" = some m.cls := findClass_of_methodNamed Bd.named
  have hnm := (name_of_methodNamed Bd.named Bd.method).1
  have X0 : Stand p l e ({ frames := 0, cells := 0, slots := 0, locals := 0 } : Room) s m #[(.int (0 : Int32)), (.int (-1 : Int32))] below meth c s₁ [] 0 0 := Stand.of_body Bd
  have hU : ∀ (i : Nat) (d : Jvm.Cond), tables_1[i]? = some d → d.before a0 Z = true := fun i d h => hw d (List.mem_of_getElem? h)
  have e0 : s₁.heap = h0 := by rw [← hh, Bd.state]; rfl
  have N0 := Fr.nil n0
  obtain ⟨f0, hf0⟩ : ∃ f : JFrame, f = mkF m 0 #[iv (0 : Int32), iv (-1 : Int32)] [] := ⟨_, rfl⟩
  have pre0 : ∀ t, own_S p e below s₁ f0 t → Steps p.tables e below (s₁.setTop (entryFrame m #[(.int (0 : Int32)), (.int (-1 : Int32))] 2)) t := fun t k => castTop ((ef_rmMax_0_m1 m (0 : Int32) (-1 : Int32)).trans hf0.symm) k
  have R0 : ∀ t, own_S p e below s₁ (mkF m 0 #[iv (0 : Int32), iv (-1 : Int32)] []) t → own_S p e below s₁ f0 t := by rw [hf0]; exact fun t k => k
  have R1 : ∀ t, own_S p e below s₁ (mkF m 10 #[iv (0 : Int32), iv (-1 : Int32)] [(.int (0 : Int32))]) t → own_S p e below s₁ f0 t := fun t k => R0 t (by
    refine XS.iloadN X0.here hx rfl (hb hby d14_0) rfl  ?_
    refine XS.iloadN X0.here hx rfl (hb hby d14_1) rfl  ?_
    refine XS.icmpNo X0.here hx rfl (hb hby d14_2) rfl (flt (by decide : ¬ ((0 : Int32) < (-1 : Int32)))).1 ?_
    refine XS.iloadN X0.here hx rfl (hb hby d14_5) rfl  ?_
    refine XS.goto X0.here hx rfl (pc0 := 6) (pc' := 10) rfl (hb hby d14_6) (by decide) (by decide) ?_
    exact k)
  obtain ⟨fs, hr, hrun, hended, hW, hsame⟩ := X0.leave (v := some (.int (0 : Int32))) (fun h => by rw [Bd.returns] at h; cases h)
  refine ⟨_, _, pre0 _ (R1 _ ?_), hrun, hended, _, _, rfl, ?_, ⟨_, rfl⟩, hW, hsame.mono (by decide) (by decide)⟩
  · show own_S p e below s₁ (mkF m 10 #[iv (0 : Int32), iv (-1 : Int32)] [(.int (0 : Int32))]) _
    exact retI X0 hx Bd.returns (hb hby d14_10) hr
  · show Q_rmMax_0_m1 Z  h0 n0 _ s₁.heap _
    rw [e0]
    exact ⟨rfl, N0, rfl⟩
theorem ef_rmFind1_0 (m : MethodId) (x0 : Addr) (x1 : Int32) : entryFrame m #[(.ref x0), (.int x1)] 6 = mkF m 0 #[rv x0, iv x1, .unset, .unset, .unset, .unset] [] := by first | (simp [entryFrame, mkF, argsToLocals, Value.category]; done) | rfl
def Q_rmFind1_0 (Z : State) (oR : Addr) (p2 : Int32) (ckR : Addr) (kckR : ClassId) (kkR : Addr) (x0 : Int32) (saR : Addr) (kstR : ClassId) (fiR : Addr) (kfiR : ClassId) (h0 : Heap) (n0 : Nat) (v : Option Value) (h : Heap) (L : List Loc) : Prop := v = some (.long (256 : Int64)) ∧ Fr n0 L ∧ h = h0
set_option maxRecDepth 65536 in
set_option maxHeartbeats 40000000 in
theorem rmFind1_0 (l : Launch) (Z : State) (a0 : Array Value) (hw : ∀ d ∈ tables_1, d.before a0 Z = true) (ws : List Jvm.Cond) (oR : Addr) (p2 : Int32) (ckR : Addr) (kckR : ClassId) (kkR : Addr) (x0 : Int32) (saR : Addr) (kstR : ClassId) (fiR : Addr) (kfiR : ClassId) (h0 : Heap) (n0 : Nat) (Z0 : n0 ≤ h0.size) (F_chunks_oR : Fld Z h0 oR sN0 "chunks" sN3 (.ref ckR)) (F_chunkCount_oR : Fld Z h0 oR sN0 "chunkCount" "I" (.int (1 : Int32))) (A_ckR : Arv Z h0 ckR kckR (.object sN1) (1 : Int32) [(.ref kkR)] .null) (F_size_kkR : Fld Z h0 kkR sN1 "size" "I" (.int (1 : Int32))) (F_starts_kkR : Fld Z h0 kkR sN1 "starts" "[I" (.ref saR)) (A_saR : Arv Z h0 saR kstR .int (256 : Int32) [(.int x0), (.int (0 : Int32)), (.int (0 : Int32))] (.int (0 : Int32))) (F_firsts_oR : Fld Z h0 oR sN0 "firsts" "[I" (.ref fiR)) (A_fiR : Arv Z h0 fiR kfiR .int (1 : Int32) [(.int x0)] (.int (0 : Int32))) (ho0 : p2 < x0) :
    own_M l (⟨sN0, "find", "(I)J"⟩ : MethodName) (Jvm.Cond.code (⟨sN0, "find", "(I)J"⟩ : MethodName) prog_118_method_2_code 6 (some .long) :: ws) ({ frames := 2, cells := 0, slots := 0, locals := 34 } : Room) #[(.ref oR), (.int p2)] Z h0 (Q_rmFind1_0 Z oR p2 ckR kckR kkR x0 saR kstR fiR kfiR h0 n0) := by
  refine MetFree.of_bodySF (plainFor_of_name pn_1) hisR ?_
  intro p e s m args below meth c s₁ Bd hml0 hP hK
  obtain ⟨rfl, hZ, hh⟩ := hP
  have hx := Bd.exec
  have hby := Bd.bytes
  have hml : c.maxLocals = 6 := hml0
  have hown : s.vm.findClass sN0 = some m.cls := findClass_of_methodNamed Bd.named
  have hnm := (name_of_methodNamed Bd.named Bd.method).1
  have X0 : Stand p l e ({ frames := 2, cells := 0, slots := 0, locals := 34 } : Room) s m #[(.ref oR), (.int p2)] below meth c s₁ [] 0 0 := Stand.of_body Bd
  have hU : ∀ (i : Nat) (d : Jvm.Cond), tables_1[i]? = some d → d.before a0 Z = true := fun i d h => hw d (List.mem_of_getElem? h)
  have e0 : s₁.heap = h0 := by rw [← hh, Bd.state]; rfl
  have N0 := Fr.nil n0
  obtain ⟨f0, hf0⟩ : ∃ f : JFrame, f = mkF m 0 #[rv oR, iv p2, .unset, .unset, .unset, .unset] [] := ⟨_, rfl⟩
  have pre0 : ∀ t, own_S p e below s₁ f0 t → Steps p.tables e below (s₁.setTop (entryFrame m #[(.ref oR), (.int p2)] 6)) t := fun t k => castTop ((ef_rmFind1_0 m oR p2).trans hf0.symm) k
  have R0 : ∀ t, own_S p e below s₁ (mkF m 0 #[rv oR, iv p2, .unset, .unset, .unset, .unset] []) t → own_S p e below s₁ f0 t := by rw [hf0]; exact fun t k => k
  have R1 : ∀ t, own_S p e below s₁ (mkF m 1 #[rv oR, iv p2, .unset, .unset, .unset, .unset] [(.ref oR)]) t → own_S p e below s₁ f0 t := fun t k => R0 t (by
    refine XS.aloadN X0.here hx rfl (hb hby d7_0) rfl rfl ?_
    exact k)
  obtain ⟨T2, X2, e2, st2⟩ := getF X0 hx hZ hown (host := "") (Or.inl (hU 43 _ rfl)) Via.refl e0 F_chunks_oR (g := (mkF m 1 #[rv oR, iv p2, .unset, .unset, .unset, .unset] [(.ref oR)])) rfl rfl (hb hby d7_1)
  have R3 := fun t k => R1 t (st2 t k)
  have R4 : ∀ t, own_S p e below T2 (mkF m 5 #[rv oR, iv p2, .unset, .unset, .unset, .unset] [(.ref oR), (.ref ckR)]) t → own_S p e below s₁ f0 t := fun t k => R3 t (by
    refine XS.aloadN X2.here hx rfl (hb hby d7_4) rfl rfl ?_
    exact k)
  obtain ⟨T5, X5, e5, st5⟩ := getF X2 hx hZ hown (host := "") (Or.inl (hU 22 _ rfl)) Via.refl e2 F_chunkCount_oR (g := (mkF m 5 #[rv oR, iv p2, .unset, .unset, .unset, .unset] [(.ref oR), (.ref ckR)])) rfl rfl (hb hby d7_5)
  have R6 := fun t k => R4 t (st5 t k)
  have R7 : ∀ t, own_S p e below T5 (mkF m 10 #[rv oR, iv p2, .unset, .unset, .unset, .unset] [(.int (0 : Int32)), (.ref ckR)]) t → own_S p e below s₁ f0 t := fun t k => R6 t (by
    refine XS.iconst X5.here hx rfl (hb hby d7_8) ?_
    refine XS.isub X5.here hx rfl (hb hby d7_9) rfl ?_
    exact k)
  obtain ⟨cl8, Ar8, q8, S8, n8_, H8, G8⟩ := id A_ckR
  have hin8 : ¬ ((0 : Int32) < 0 ∨ cl8.slots.size ≤ ((0 : Int32)).toNatClampNeg) := inb_of S8 ⟨by decide, by decide⟩
  have hat8 : cl8.slots[((0 : Int32)).toNatClampNeg]? = some (.ref kkR) := Has.at H8 hin8 rfl
  have R9 : ∀ t, own_S p e below T5 (mkF m 11 #[rv oR, iv p2, .unset, .unset, .unset, .unset] [(.ref kkR)]) t → own_S p e below s₁ f0 t := fun t k => R7 t (X5.aaload hx (j := (0 : Int32)) (v := (.ref kkR)) (by rw [e5]; exact Ar8.1) (State.isArrayOf_alike hZ.alike Ar8.2.1) rfl Ar8.2.2 hin8 hat8 (g := (mkF m 10 #[rv oR, iv p2, .unset, .unset, .unset, .unset] [(.int (0 : Int32)), (.ref ckR)])) rfl rfl (hb hby d7_10) _ k)
  have R10 : ∀ t, own_S p e below T5 (mkF m 13 #[rv oR, iv p2, rv kkR, .unset, .unset, .unset] [(.ref kkR)]) t → own_S p e below s₁ f0 t := fun t k => R9 t (by
    refine XS.astoreN X5.here hx rfl (hb hby d7_11) rfl rfl (l' := #[rv oR, iv p2, rv kkR, .unset, .unset, .unset]) rfl ?_
    refine XS.aloadN X5.here hx rfl (hb hby d7_12) rfl rfl ?_
    exact k)
  obtain ⟨T11, X11, e11, st11⟩ := getF X5 hx hZ hown (Or.inr (hU 66 _ rfl)) Via.refl e5 F_size_kkR (g := (mkF m 13 #[rv oR, iv p2, rv kkR, .unset, .unset, .unset] [(.ref kkR)])) rfl rfl (hb hby d7_13)
  have R12 := fun t k => R10 t (st11 t k)
  have R13 : ∀ t, own_S p e below T11 (mkF m 21 #[rv oR, iv p2, rv kkR, .unset, .unset, .unset] [(.ref kkR), (.int p2)]) t → own_S p e below s₁ f0 t := fun t k => R12 t (by
    refine XS.ifNo X11.here hx rfl (hb hby d7_16) rfl ((if0 _ _).trans (feq (by decide : ¬ ((1 : Int32) = (0 : Int32)))).1) ?_
    refine XS.iloadN X11.here hx rfl (hb hby d7_19) rfl  ?_
    refine XS.aloadN X11.here hx rfl (hb hby d7_20) rfl rfl ?_
    exact k)
  obtain ⟨T14, X14, e14, st14⟩ := getF X11 hx hZ hown (Or.inr (hU 83 _ rfl)) Via.refl e11 F_starts_kkR (g := (mkF m 21 #[rv oR, iv p2, rv kkR, .unset, .unset, .unset] [(.ref kkR), (.int p2)])) rfl rfl (hb hby d7_21)
  have R15 := fun t k => R13 t (st14 t k)
  have R16 : ∀ t, own_S p e below T14 (mkF m 25 #[rv oR, iv p2, rv kkR, .unset, .unset, .unset] [(.ref kkR), (.ref saR), (.int p2)]) t → own_S p e below s₁ f0 t := fun t k => R15 t (by
    refine XS.aloadN X14.here hx rfl (hb hby d7_24) rfl rfl ?_
    exact k)
  obtain ⟨T17, X17, e17, st17⟩ := getF X14 hx hZ hown (Or.inr (hU 66 _ rfl)) Via.refl e14 F_size_kkR (g := (mkF m 25 #[rv oR, iv p2, rv kkR, .unset, .unset, .unset] [(.ref kkR), (.ref saR), (.int p2)])) rfl rfl (hb hby d7_25)
  have R18 := fun t k => R16 t (st17 t k)
  have R19 : ∀ t, own_S p e below T17 (mkF m 30 #[rv oR, iv p2, rv kkR, .unset, .unset, .unset] [(.int (0 : Int32)), (.ref saR), (.int p2)]) t → own_S p e below s₁ f0 t := fun t k => R18 t (by
    refine XS.iconst X17.here hx rfl (hb hby d7_28) ?_
    refine XS.isub X17.here hx rfl (hb hby d7_29) rfl ?_
    exact k)
  obtain ⟨cl20, Ar20, q20, S20, n20_, H20, G20⟩ := id A_saR
  have hin20 : ¬ ((0 : Int32) < 0 ∨ cl20.slots.size ≤ ((0 : Int32)).toNatClampNeg) := inb_of S20 ⟨by decide, by decide⟩
  have hat20 : cl20.slots[((0 : Int32)).toNatClampNeg]? = some (.int x0) := Has.at H20 hin20 rfl
  have R21 : ∀ t, own_S p e below T17 (mkF m 31 #[rv oR, iv p2, rv kkR, .unset, .unset, .unset] [(.int x0), (.int p2)]) t → own_S p e below s₁ f0 t := fun t k => R19 t (X17.iaload hx (j := (0 : Int32)) (v := (.int x0)) (by rw [e17]; exact Ar20.1) (State.isArrayOf_alike hZ.alike Ar20.2.1) Ar20.2.2 hin20 hat20 (g := (mkF m 30 #[rv oR, iv p2, rv kkR, .unset, .unset, .unset] [(.int (0 : Int32)), (.ref saR), (.int p2)])) rfl rfl (hb hby d7_30) _ k)
  have R22 : ∀ t, own_S p e below T17 (mkF m 56 #[rv oR, iv p2, rv kkR, .unset, .unset, .unset] [(.ref oR)]) t → own_S p e below s₁ f0 t := fun t k => R21 t (by
    refine XS.icmpYes X17.here hx rfl (pc0 := 31) (pc' := 55) rfl (hb hby d7_31) rfl (flt (own_asym ho0)).2.2.2 (by decide) (by decide) ?_
    refine XS.aloadN X17.here hx rfl (hb hby d7_55) rfl rfl ?_
    exact k)
  obtain ⟨T23, X23, e23, st23⟩ := getF X17 hx hZ hown (host := "") (Or.inl (hU 20 _ rfl)) Via.refl e17 F_firsts_oR (g := (mkF m 56 #[rv oR, iv p2, rv kkR, .unset, .unset, .unset] [(.ref oR)])) rfl rfl (hb hby d7_56)
  have R24 := fun t k => R22 t (st23 t k)
  have R25 : ∀ t, own_S p e below T23 (mkF m 61 #[rv oR, iv p2, rv kkR, .unset, .unset, .unset] [(.ref oR), (.int (0 : Int32)), (.ref fiR)]) t → own_S p e below s₁ f0 t := fun t k => R24 t (by
    refine XS.iconst X23.here hx rfl (hb hby d7_59) ?_
    refine XS.aloadN X23.here hx rfl (hb hby d7_60) rfl rfl ?_
    exact k)
  obtain ⟨T26, X26, e26, st26⟩ := getF X23 hx hZ hown (host := "") (Or.inl (hU 22 _ rfl)) Via.refl e23 F_chunkCount_oR (g := (mkF m 61 #[rv oR, iv p2, rv kkR, .unset, .unset, .unset] [(.ref oR), (.int (0 : Int32)), (.ref fiR)])) rfl rfl (hb hby d7_61)
  have R27 := fun t k => R25 t (st26 t k)
  have R28 : ∀ t, own_S p e below T26 (mkF m 65 #[rv oR, iv p2, rv kkR, .unset, .unset, .unset] [(.int p2), (.int (1 : Int32)), (.int (0 : Int32)), (.ref fiR)]) t → own_S p e below s₁ f0 t := fun t k => R27 t (by
    refine XS.iloadN X26.here hx rfl (hb hby d7_64) rfl  ?_
    exact k)
  obtain ⟨_, _, ⟨T29, L29, k29, n29⟩, -, X29, ⟨Lc29, hQ29, l29, y29, z29⟩, st29⟩ := Jvm.LawKit.callS X26 hx (y := (⟨"java/util/Arrays", "binarySearch", "([IIII)I"⟩ : MethodName)) hown (mvT hZ (hU 87 _ rfl)) (mvT hZ (hU 88 _ rfl)) (mvT hZ (hU 89 _ rfl)) (mvT hZ (hU 90 _ rfl)) (by decide) (backOf (W := 0) (rmBs1_1_0_1 l Z a0 hw [] fiR p2 kfiR x0 h0 n0 Z0 A_fiR ho0) hZ (hU 90 _ rfl) (hU 89 _ rfl) (by decide) (by decide)) (g := (mkF m 65 #[rv oR, iv p2, rv kkR, .unset, .unset, .unset] [(.int p2), (.int (1 : Int32)), (.int (0 : Int32)), (.ref fiR)])) rfl (by rw [hml]; rfl) (argsL := [(.ref fiR), (.int (0 : Int32)), (.int (1 : Int32)), (.int p2)]) (rest := []) (lenOf pd_9 rfl) rfl (Nat.le_of_eq rfl) (hb hby d7_65) (fun _ _ => ⟨rfl, e26, (by decide : 0 + 0 ≤ _), (by decide : 0 + 0 ≤ _)⟩)
  dsimp only [Pt.U, Pt.locs, Pt.cells, Pt.slots] at X29 l29 y29 z29 st29 hQ29
  subst l29 y29 z29
  obtain ⟨rfl, N29q, p29_0⟩ := hQ29
  have N29 := Fr.app N0 N29q
  have R30 := fun t k => R28 t (st29 t k)
  have R31 : ∀ t, own_S p e below T29 (mkF m 76 #[rv oR, iv p2, rv kkR, iv (-1 : Int32), .unset, .unset] [(.int (-(-1 : Int32))), (.int (0 : Int32))]) t → own_S p e below s₁ f0 t := fun t k => R30 t (by
    refine XS.istoreN X29.here hx rfl (hb hby d7_68) rfl (l' := #[rv oR, iv p2, rv kkR, iv (-1 : Int32), .unset, .unset]) rfl ?_
    refine XS.iloadN X29.here hx rfl (hb hby d7_69) rfl  ?_
    refine XS.ifNo X29.here hx rfl (hb hby d7_70) rfl ((if0 _ _).trans (tlt (by decide : (-1 : Int32) < (0 : Int32))).2.1) ?_
    refine XS.iconst X29.here hx rfl (hb hby d7_73) ?_
    refine XS.iloadN X29.here hx rfl (hb hby d7_74) rfl  ?_
    refine XS.ineg X29.here hx rfl (hb hby d7_75) rfl ?_
    exact k)
  have R32 : ∀ t, own_S p e below T29 (mkF m 76 #[rv oR, iv p2, rv kkR, iv (-1 : Int32), .unset, .unset] [(.int (1 : Int32)), (.int (0 : Int32))]) t → own_S p e below s₁ f0 t := by have q := R31; rw [((by decide) : (-(-1 : Int32)) = (1 : Int32))] at q; exact q
  have R33 : ∀ t, own_S p e below T29 (mkF m 78 #[rv oR, iv p2, rv kkR, iv (-1 : Int32), .unset, .unset] [(.int (-1 : Int32)), (.int (0 : Int32))]) t → own_S p e below s₁ f0 t := fun t k => R32 t (by
    refine XS.iconst X29.here hx rfl (hb hby d7_76) ?_
    refine XS.isub X29.here hx rfl (hb hby d7_77) rfl ?_
    exact k)
  obtain ⟨_, _, ⟨T34, L34, k34, n34⟩, -, X34, ⟨Lc34, hQ34, l34, y34, z34⟩, st34⟩ := Jvm.LawKit.callS X29 hx (y := (⟨"java/lang/Math", "max", "(II)I"⟩ : MethodName)) hown (mvT hZ (hU 97 _ rfl)) (mvT hZ (hU 98 _ rfl)) (mvT hZ (hU 99 _ rfl)) (mvT hZ (hU 100 _ rfl)) (by decide) (backOf (W := 0) (rmMax_0_m1 l Z a0 hw []  h0 n0 Z0) hZ (hU 100 _ rfl) (hU 99 _ rfl) (by decide) (by decide)) (g := (mkF m 78 #[rv oR, iv p2, rv kkR, iv (-1 : Int32), .unset, .unset] [(.int (-1 : Int32)), (.int (0 : Int32))])) rfl (by rw [hml]; rfl) (argsL := [(.int (0 : Int32)), (.int (-1 : Int32))]) (rest := []) (lenOf pd_10 rfl) rfl (Nat.le_of_eq rfl) (hb hby d7_78) (fun _ _ => ⟨rfl, p29_0, (by decide : 0 + 0 ≤ _), (by decide : 0 + 0 ≤ _)⟩)
  dsimp only [Pt.U, Pt.locs, Pt.cells, Pt.slots] at X34 l34 y34 z34 st34 hQ34
  subst l34 y34 z34
  obtain ⟨rfl, N34q, p34_0⟩ := hQ34
  have N34 := Fr.app N29 N34q
  have R35 := fun t k => R33 t (st34 t k)
  have R36 : ∀ t, own_S p e below T34 (mkF m 83 #[rv oR, iv p2, rv kkR, iv (0 : Int32), .unset, .unset] [(.ref oR)]) t → own_S p e below s₁ f0 t := fun t k => R35 t (by
    refine XS.istoreN X34.here hx rfl (hb hby d7_81) rfl (l' := #[rv oR, iv p2, rv kkR, iv (0 : Int32), .unset, .unset]) rfl ?_
    refine XS.aloadN X34.here hx rfl (hb hby d7_82) rfl rfl ?_
    exact k)
  obtain ⟨T37, X37, e37, st37⟩ := getF X34 hx hZ hown (host := "") (Or.inl (hU 43 _ rfl)) Via.refl p34_0 F_chunks_oR (g := (mkF m 83 #[rv oR, iv p2, rv kkR, iv (0 : Int32), .unset, .unset] [(.ref oR)])) rfl rfl (hb hby d7_83)
  have R38 := fun t k => R36 t (st37 t k)
  have R39 : ∀ t, own_S p e below T37 (mkF m 87 #[rv oR, iv p2, rv kkR, iv (0 : Int32), .unset, .unset] [(.int (0 : Int32)), (.ref ckR)]) t → own_S p e below s₁ f0 t := fun t k => R38 t (by
    refine XS.iloadN X37.here hx rfl (hb hby d7_86) rfl  ?_
    exact k)
  obtain ⟨cl40, Ar40, q40, S40, n40_, H40, G40⟩ := id A_ckR
  have hin40 : ¬ ((0 : Int32) < 0 ∨ cl40.slots.size ≤ ((0 : Int32)).toNatClampNeg) := inb_of S40 ⟨by decide, by decide⟩
  have hat40 : cl40.slots[((0 : Int32)).toNatClampNeg]? = some (.ref kkR) := Has.at H40 hin40 rfl
  have R41 : ∀ t, own_S p e below T37 (mkF m 88 #[rv oR, iv p2, rv kkR, iv (0 : Int32), .unset, .unset] [(.ref kkR)]) t → own_S p e below s₁ f0 t := fun t k => R39 t (X37.aaload hx (j := (0 : Int32)) (v := (.ref kkR)) (by rw [e37]; exact Ar40.1) (State.isArrayOf_alike hZ.alike Ar40.2.1) rfl Ar40.2.2 hin40 hat40 (g := (mkF m 87 #[rv oR, iv p2, rv kkR, iv (0 : Int32), .unset, .unset] [(.int (0 : Int32)), (.ref ckR)])) rfl rfl (hb hby d7_87) _ k)
  have R42 : ∀ t, own_S p e below T37 (mkF m 92 #[rv oR, iv p2, rv kkR, iv (0 : Int32), rv kkR, .unset] [(.ref kkR)]) t → own_S p e below s₁ f0 t := fun t k => R41 t (by
    refine XS.astore X37.here hx rfl (hb hby d7_88) rfl rfl (l' := #[rv oR, iv p2, rv kkR, iv (0 : Int32), rv kkR, .unset]) rfl ?_
    refine XS.aload X37.here hx rfl (hb hby d7_90) rfl rfl ?_
    exact k)
  obtain ⟨T43, X43, e43, st43⟩ := getF X37 hx hZ hown (Or.inr (hU 83 _ rfl)) Via.refl e37 F_starts_kkR (g := (mkF m 92 #[rv oR, iv p2, rv kkR, iv (0 : Int32), rv kkR, .unset] [(.ref kkR)])) rfl rfl (hb hby d7_92)
  have R44 := fun t k => R42 t (st43 t k)
  have R45 : ∀ t, own_S p e below T43 (mkF m 98 #[rv oR, iv p2, rv kkR, iv (0 : Int32), rv kkR, .unset] [(.ref kkR), (.int (0 : Int32)), (.ref saR)]) t → own_S p e below s₁ f0 t := fun t k => R44 t (by
    refine XS.iconst X43.here hx rfl (hb hby d7_95) ?_
    refine XS.aload X43.here hx rfl (hb hby d7_96) rfl rfl ?_
    exact k)
  obtain ⟨T46, X46, e46, st46⟩ := getF X43 hx hZ hown (Or.inr (hU 66 _ rfl)) Via.refl e43 F_size_kkR (g := (mkF m 98 #[rv oR, iv p2, rv kkR, iv (0 : Int32), rv kkR, .unset] [(.ref kkR), (.int (0 : Int32)), (.ref saR)])) rfl rfl (hb hby d7_98)
  have R47 := fun t k => R45 t (st46 t k)
  have R48 : ∀ t, own_S p e below T46 (mkF m 102 #[rv oR, iv p2, rv kkR, iv (0 : Int32), rv kkR, .unset] [(.int p2), (.int (1 : Int32)), (.int (0 : Int32)), (.ref saR)]) t → own_S p e below s₁ f0 t := fun t k => R47 t (by
    refine XS.iloadN X46.here hx rfl (hb hby d7_101) rfl  ?_
    exact k)
  obtain ⟨_, _, ⟨T49, L49, k49, n49⟩, -, X49, ⟨Lc49, hQ49, l49, y49, z49⟩, st49⟩ := Jvm.LawKit.callS X46 hx (y := (⟨"java/util/Arrays", "binarySearch", "([IIII)I"⟩ : MethodName)) hown (mvT hZ (hU 87 _ rfl)) (mvT hZ (hU 88 _ rfl)) (mvT hZ (hU 89 _ rfl)) (mvT hZ (hU 90 _ rfl)) (by decide) (backOf (W := 0) (rmBs256_1_0_3 l Z a0 hw [] saR p2 kstR x0 (0 : Int32) (0 : Int32) h0 n0 Z0 A_saR ho0) hZ (hU 90 _ rfl) (hU 89 _ rfl) (by decide) (by decide)) (g := (mkF m 102 #[rv oR, iv p2, rv kkR, iv (0 : Int32), rv kkR, .unset] [(.int p2), (.int (1 : Int32)), (.int (0 : Int32)), (.ref saR)])) rfl (by rw [hml]; rfl) (argsL := [(.ref saR), (.int (0 : Int32)), (.int (1 : Int32)), (.int p2)]) (rest := []) (lenOf pd_9 rfl) rfl (Nat.le_of_eq rfl) (hb hby d7_102) (fun _ _ => ⟨rfl, e46, (by decide : 0 + 0 ≤ _), (by decide : 0 + 0 ≤ _)⟩)
  dsimp only [Pt.U, Pt.locs, Pt.cells, Pt.slots] at X49 l49 y49 z49 st49 hQ49
  subst l49 y49 z49
  obtain ⟨rfl, N49q, p49_0⟩ := hQ49
  have N49 := Fr.app N34 N49q
  have R50 := fun t k => R48 t (st49 t k)
  have R51 : ∀ t, own_S p e below T49 (mkF m 118 #[rv oR, iv p2, rv kkR, iv (0 : Int32), rv kkR, iv (-1 : Int32)] [(.int (-(-1 : Int32))), (.int (256 : Int32))]) t → own_S p e below s₁ f0 t := fun t k => R50 t (by
    refine XS.istore X49.here hx rfl (hb hby d7_105) rfl (l' := #[rv oR, iv p2, rv kkR, iv (0 : Int32), rv kkR, iv (-1 : Int32)]) rfl ?_
    refine XS.iload X49.here hx rfl (hb hby d7_107) rfl  ?_
    refine XS.ifNo X49.here hx rfl (hb hby d7_109) rfl ((if0 _ _).trans (tlt (by decide : (-1 : Int32) < (0 : Int32))).2.1) ?_
    refine XS.sipush X49.here hx rfl (hb hby d7_112) ?_
    refine XS.iload X49.here hx rfl (hb hby d7_115) rfl  ?_
    refine XS.ineg X49.here hx rfl (hb hby d7_117) rfl ?_
    exact k)
  have R52 : ∀ t, own_S p e below T49 (mkF m 118 #[rv oR, iv p2, rv kkR, iv (0 : Int32), rv kkR, iv (-1 : Int32)] [(.int (1 : Int32)), (.int (256 : Int32))]) t → own_S p e below s₁ f0 t := by have q := R51; rw [((by decide) : (-(-1 : Int32)) = (1 : Int32))] at q; exact q
  have R53 : ∀ t, own_S p e below T49 (mkF m 125 #[rv oR, iv p2, rv kkR, iv (0 : Int32), rv kkR, iv (256 : Int32)] [(.long ((0 : Int32).toInt64))]) t → own_S p e below s₁ f0 t := fun t k => R52 t (by
    refine XS.iconst X49.here hx rfl (hb hby d7_118) ?_
    refine XS.isub X49.here hx rfl (hb hby d7_119) rfl ?_
    refine XS.iadd X49.here hx rfl (hb hby d7_120) rfl ?_
    refine XS.istore X49.here hx rfl (hb hby d7_121) rfl (l' := #[rv oR, iv p2, rv kkR, iv (0 : Int32), rv kkR, iv (256 : Int32)]) rfl ?_
    refine XS.iloadN X49.here hx rfl (hb hby d7_123) rfl  ?_
    refine XS.i2l X49.here hx rfl (hb hby d7_124) rfl ?_
    exact k)
  have R54 : ∀ t, own_S p e below T49 (mkF m 125 #[rv oR, iv p2, rv kkR, iv (0 : Int32), rv kkR, iv (256 : Int32)] [(.long (0 : Int64))]) t → own_S p e below s₁ f0 t := by have q := R53; rw [((by decide) : ((0 : Int32).toInt64) = (0 : Int64))] at q; exact q
  have R55 : ∀ t, own_S p e below T49 (mkF m 128 #[rv oR, iv p2, rv kkR, iv (0 : Int32), rv kkR, iv (256 : Int32)] [(.long ((0 : Int64) <<< ((32 : Int32) &&& 0x3f).toInt64))]) t → own_S p e below s₁ f0 t := fun t k => R54 t (by
    refine XS.bipush X49.here hx rfl (hb hby d7_125) ?_
    refine XS.lshl X49.here hx rfl (hb hby d7_127) rfl ?_
    exact k)
  have R56 : ∀ t, own_S p e below T49 (mkF m 128 #[rv oR, iv p2, rv kkR, iv (0 : Int32), rv kkR, iv (256 : Int32)] [(.long (0 : Int64))]) t → own_S p e below s₁ f0 t := by have q := R55; rw [((by decide) : ((0 : Int64) <<< ((32 : Int32) &&& 0x3f).toInt64) = (0 : Int64))] at q; exact q
  have R57 : ∀ t, own_S p e below T49 (mkF m 131 #[rv oR, iv p2, rv kkR, iv (0 : Int32), rv kkR, iv (256 : Int32)] [(.long ((256 : Int32).toInt64)), (.long (0 : Int64))]) t → own_S p e below s₁ f0 t := fun t k => R56 t (by
    refine XS.iload X49.here hx rfl (hb hby d7_128) rfl  ?_
    refine XS.i2l X49.here hx rfl (hb hby d7_130) rfl ?_
    exact k)
  have R58 : ∀ t, own_S p e below T49 (mkF m 131 #[rv oR, iv p2, rv kkR, iv (0 : Int32), rv kkR, iv (256 : Int32)] [(.long (256 : Int64)), (.long (0 : Int64))]) t → own_S p e below s₁ f0 t := by have q := R57; rw [((by decide) : ((256 : Int32).toInt64) = (256 : Int64))] at q; exact q
  have R59 : ∀ t, own_S p e below T49 (mkF m 132 #[rv oR, iv p2, rv kkR, iv (0 : Int32), rv kkR, iv (256 : Int32)] [(.long (256 : Int64))]) t → own_S p e below s₁ f0 t := fun t k => R58 t (by
    refine XS.lor X49.here hx rfl (hb hby d7_131) rfl ?_
    exact k)
  obtain ⟨fs, hr, hrun, hended, hW, hsame⟩ := X49.leave (v := some (.long (256 : Int64))) (fun h => by rw [Bd.returns] at h; cases h)
  refine ⟨_, _, pre0 _ (R59 _ ?_), hrun, hended, _, _, rfl, ?_, ⟨_, rfl⟩, hW, hsame.mono (by decide) (by decide)⟩
  · show own_S p e below T49 (mkF m 132 #[rv oR, iv p2, rv kkR, iv (0 : Int32), rv kkR, iv (256 : Int32)] [(.long (256 : Int64))]) _
    exact retOut X49 hx (t := .long) Bd.returns rfl (Or.inr (Or.inl ⟨rfl, rfl, _, rfl⟩)) (hb hby d7_132) hr
  · show Q_rmFind1_0 Z oR p2 ckR kckR kkR x0 saR kstR fiR kfiR h0 n0 _ T49.heap _
    rw [p49_0]
    exact ⟨rfl, N49, rfl⟩
theorem ef_rmFf1_0 (m : MethodId) (x0 : Addr) (x1 : Int32) : entryFrame m #[(.ref x0), (.int x1)] 4 = mkF m 0 #[rv x0, iv x1, .unset, .unset] [] := by first | (simp [entryFrame, mkF, argsToLocals, Value.category]; done) | rfl
def Q_rmFf1_0 (Z : State) (a1 : Addr) (p2 : Int32) (oR : Addr) (ckR : Addr) (kckR : ClassId) (kkR : Addr) (x0 : Int32) (saR : Addr) (kstR : ClassId) (fiR : Addr) (kfiR : ClassId) (oU : Addr) (ckU : Addr) (kckU : ClassId) (kkU : Addr) (h0 : Heap) (n0 : Nat) (v : Option Value) (h : Heap) (L : List Loc) : Prop := v = some (.long (256 : Int64)) ∧ Fr n0 L ∧ h = h0
set_option maxRecDepth 65536 in
set_option maxHeartbeats 40000000 in
theorem rmFf1_0 (l : Launch) (Z : State) (a0 : Array Value) (hw : ∀ d ∈ tables_1, d.before a0 Z = true) (ws : List Jvm.Cond) (a1 : Addr) (p2 : Int32) (oR : Addr) (ckR : Addr) (kckR : ClassId) (kkR : Addr) (x0 : Int32) (saR : Addr) (kstR : ClassId) (fiR : Addr) (kfiR : ClassId) (oU : Addr) (ckU : Addr) (kckU : ClassId) (kkU : Addr) (h0 : Heap) (n0 : Nat) (Z0 : n0 ≤ h0.size) (F_read_a1 : Fld Z h0 a1 sN2 "read" sN4 (.ref oR)) (F_unread_a1 : Fld Z h0 a1 sN2 "unread" sN4 (.ref oU)) (E_oR : Exa Z h0 oR sN0) (F_chunks_oR : Fld Z h0 oR sN0 "chunks" sN3 (.ref ckR)) (F_chunkCount_oR : Fld Z h0 oR sN0 "chunkCount" "I" (.int (1 : Int32))) (A_ckR : Arv Z h0 ckR kckR (.object sN1) (1 : Int32) [(.ref kkR)] .null) (F_size_kkR : Fld Z h0 kkR sN1 "size" "I" (.int (1 : Int32))) (F_starts_kkR : Fld Z h0 kkR sN1 "starts" "[I" (.ref saR)) (A_saR : Arv Z h0 saR kstR .int (256 : Int32) [(.int x0), (.int (0 : Int32)), (.int (0 : Int32))] (.int (0 : Int32))) (F_firsts_oR : Fld Z h0 oR sN0 "firsts" "[I" (.ref fiR)) (A_fiR : Arv Z h0 fiR kfiR .int (1 : Int32) [(.int x0)] (.int (0 : Int32))) (E_oU : Exa Z h0 oU sN0) (F_chunks_oU : Fld Z h0 oU sN0 "chunks" sN3 (.ref ckU)) (A_ckU : Arv Z h0 ckU kckU (.object sN1) (1 : Int32) [(.ref kkU)] .null) (E_kkU : Exa Z h0 kkU sN1) (F_size_kkU : Fld Z h0 kkU sN1 "size" "I" (.int (0 : Int32))) (ho0 : p2 < x0) :
    own_M l (⟨sN2, "find", "(I)J"⟩ : MethodName) (Jvm.Cond.code (⟨sN2, "find", "(I)J"⟩ : MethodName) prog_116_method_2_code 4 (some .long) :: ws) ({ frames := 3, cells := 0, slots := 0, locals := 51 } : Room) #[(.ref a1), (.int p2)] Z h0 (Q_rmFf1_0 Z a1 p2 oR ckR kckR kkR x0 saR kstR fiR kfiR oU ckU kckU kkU h0 n0) := by
  refine MetFree.of_bodySF (plainFor_of_name pn_3) hisR ?_
  intro p e s m args below meth c s₁ Bd hml0 hP hK
  obtain ⟨rfl, hZ, hh⟩ := hP
  have hx := Bd.exec
  have hby := Bd.bytes
  have hml : c.maxLocals = 4 := hml0
  have hown : s.vm.findClass sN2 = some m.cls := findClass_of_methodNamed Bd.named
  have hnm := (name_of_methodNamed Bd.named Bd.method).1
  have X0 : Stand p l e ({ frames := 3, cells := 0, slots := 0, locals := 51 } : Room) s m #[(.ref a1), (.int p2)] below meth c s₁ [] 0 0 := Stand.of_body Bd
  have hU : ∀ (i : Nat) (d : Jvm.Cond), tables_1[i]? = some d → d.before a0 Z = true := fun i d h => hw d (List.mem_of_getElem? h)
  have e0 : s₁.heap = h0 := by rw [← hh, Bd.state]; rfl
  have N0 := Fr.nil n0
  obtain ⟨f0, hf0⟩ : ∃ f : JFrame, f = mkF m 0 #[rv a1, iv p2, .unset, .unset] [] := ⟨_, rfl⟩
  have pre0 : ∀ t, own_S p e below s₁ f0 t → Steps p.tables e below (s₁.setTop (entryFrame m #[(.ref a1), (.int p2)] 4)) t := fun t k => castTop ((ef_rmFf1_0 m a1 p2).trans hf0.symm) k
  have R0 : ∀ t, own_S p e below s₁ (mkF m 0 #[rv a1, iv p2, .unset, .unset] []) t → own_S p e below s₁ f0 t := by rw [hf0]; exact fun t k => k
  have R1 : ∀ t, own_S p e below s₁ (mkF m 1 #[rv a1, iv p2, .unset, .unset] [(.ref a1)]) t → own_S p e below s₁ f0 t := fun t k => R0 t (by
    refine XS.aloadN X0.here hx rfl (hb hby d6_0) rfl rfl ?_
    exact k)
  obtain ⟨T2, X2, e2, st2⟩ := getF X0 hx hZ hown (host := "") (Or.inl (hU 45 _ rfl)) Via.refl e0 F_read_a1 (g := (mkF m 1 #[rv a1, iv p2, .unset, .unset] [(.ref a1)])) rfl rfl (hb hby d6_1)
  have R3 := fun t k => R1 t (st2 t k)
  have R4 : ∀ t, own_S p e below T2 (mkF m 5 #[rv a1, iv p2, .unset, .unset] [(.int p2), (.ref oR)]) t → own_S p e below s₁ f0 t := fun t k => R3 t (by
    refine XS.iloadN X2.here hx rfl (hb hby d6_4) rfl  ?_
    exact k)
  obtain ⟨cq5, kq5, q5a, q5b, q5c⟩ := isOf hZ e2 E_oR
  obtain ⟨_, _, ⟨T5, L5, k5, n5⟩, -, X5, ⟨Lc5, hQ5, l5, y5, z5⟩, st5⟩ := X2.virtualBack hx (y := (⟨sN0, "find", "(I)J"⟩ : MethodName)) (z := (⟨sN0, "find", "(I)J"⟩ : MethodName)) hown (mvT hZ (hU 61 _ rfl)) (mvT hZ (hU 62 _ rfl)) (notFace_of_selects (args := #[]) (mvT hZ (hU 64 _ rfl))) (mvT hZ (hU 64 _ rfl)) (mvT hZ (hU 63 _ rfl)) (by decide) (backOf (W := 0) (rmFind1_0 l Z a0 hw [] oR p2 ckR kckR kkR x0 saR kstR fiR kfiR h0 n0 Z0 F_chunks_oR F_chunkCount_oR A_ckR F_size_kkR F_starts_kkR A_saR F_firsts_oR A_fiR ho0) hZ (hU 65 _ rfl) (hU 14 _ rfl) (by decide) (by decide)) q5a q5c (g := (mkF m 5 #[rv a1, iv p2, .unset, .unset] [(.int p2), (.ref oR)])) rfl (by rw [hml]; rfl) (Steps.refl _) (argsL := [(.int p2)]) (rest := []) (lenOf pd_5 rfl) rfl (Nat.le_of_eq rfl) (hb hby d6_5) (fun _ _ => ⟨rfl, e2, (by decide : 0 + 0 ≤ _), (by decide : 0 + 0 ≤ _)⟩)
  dsimp only [Pt.U, Pt.locs, Pt.cells, Pt.slots] at X5 l5 y5 z5 st5 hQ5
  subst l5 y5 z5
  obtain ⟨rfl, N5q, p5_0⟩ := hQ5
  have N5 := Fr.app N0 N5q
  have R6 := fun t k => R4 t (st5.trans k)
  have R7 : ∀ t, own_S p e below T5 (mkF m 11 #[rv a1, iv p2, own_l (256 : Int64), .second] [(.int ((256 : Int64).toInt32))]) t → own_S p e below s₁ f0 t := fun t k => R6 t (by
    refine XS.lstoreN X5.here hx rfl (hb hby d6_8) rfl (l' := #[rv a1, iv p2, own_l (256 : Int64), .second]) rfl ?_
    refine XS.lloadN X5.here hx rfl (hb hby d6_9) rfl  ?_
    refine XS.l2i X5.here hx rfl (hb hby d6_10) rfl ?_
    exact k)
  have R8 : ∀ t, own_S p e below T5 (mkF m 11 #[rv a1, iv p2, own_l (256 : Int64), .second] [(.int (256 : Int32))]) t → own_S p e below s₁ f0 t := by have q := R7; rw [((by decide) : ((256 : Int64).toInt32) = (256 : Int32))] at q; exact q
  have R9 : ∀ t, own_S p e below T5 (mkF m 18 #[rv a1, iv p2, own_l (256 : Int64), .second] [(.ref a1)]) t → own_S p e below s₁ f0 t := fun t k => R8 t (by
    refine XS.sipush X5.here hx rfl (hb hby d6_11) ?_
    refine XS.icmpNo X5.here hx rfl (hb hby d6_14) rfl (flt (by decide : ¬ ((256 : Int32) < (256 : Int32)))).1 ?_
    refine XS.aloadN X5.here hx rfl (hb hby d6_17) rfl rfl ?_
    exact k)
  obtain ⟨T10, X10, e10, st10⟩ := getF X5 hx hZ hown (host := "") (Or.inl (hU 47 _ rfl)) Via.refl p5_0 F_unread_a1 (g := (mkF m 18 #[rv a1, iv p2, own_l (256 : Int64), .second] [(.ref a1)])) rfl rfl (hb hby d6_18)
  have R11 := fun t k => R9 t (st10 t k)
  obtain ⟨cq12, kq12, q12a, q12b, q12c⟩ := isOf hZ e10 E_oU
  obtain ⟨_, _, ⟨T12, L12, k12, n12⟩, -, X12, ⟨Lc12, hQ12, l12, y12, z12⟩, st12⟩ := X10.virtualBack hx (y := (⟨sN0, "isEmpty", "()Z"⟩ : MethodName)) (z := (⟨sN0, "isEmpty", "()Z"⟩ : MethodName)) hown (mvT hZ (hU 68 _ rfl)) (mvT hZ (hU 69 _ rfl)) (notFace_of_selects (args := #[]) (mvT hZ (hU 71 _ rfl))) (mvT hZ (hU 71 _ rfl)) (mvT hZ (hU 70 _ rfl)) (by decide) (backOf (W := 0) (rmEmp0 l Z a0 hw [] oU ckU kckU kkU h0 n0 Z0 F_chunks_oU A_ckU F_size_kkU) hZ (hU 72 _ rfl) (hU 14 _ rfl) (by decide) (by decide)) q12a q12c (g := (mkF m 21 #[rv a1, iv p2, own_l (256 : Int64), .second] [(.ref oU)])) rfl (by rw [hml]; rfl) (Steps.refl _) (argsL := []) (rest := []) (lenOf pd_6 rfl) rfl (Nat.le_of_eq rfl) (hb hby d6_21) (fun _ _ => ⟨rfl, e10, (by decide : 0 + 0 ≤ _), (by decide : 0 + 0 ≤ _)⟩)
  dsimp only [Pt.U, Pt.locs, Pt.cells, Pt.slots] at X12 l12 y12 z12 st12 hQ12
  subst l12 y12 z12
  obtain ⟨rfl, N12q, p12_0⟩ := hQ12
  have N12 := Fr.app N5 N12q
  have R13 := fun t k => R11 t (st12.trans k)
  have R14 : ∀ t, own_S p e below T12 (mkF m 43 #[rv a1, iv p2, own_l (256 : Int64), .second] [(.long (256 : Int64))]) t → own_S p e below s₁ f0 t := fun t k => R13 t (by
    refine XS.ifYes X12.here hx rfl (pc0 := 24) (pc' := 42) rfl (hb hby d6_24) rfl ((if0 _ _).trans (feq (by decide : ¬ ((1 : Int32) = (0 : Int32)))).2) (by decide) (by decide) ?_
    refine XS.lloadN X12.here hx rfl (hb hby d6_42) rfl  ?_
    exact k)
  obtain ⟨fs, hr, hrun, hended, hW, hsame⟩ := X12.leave (v := some (.long (256 : Int64))) (fun h => by rw [Bd.returns] at h; cases h)
  refine ⟨_, _, pre0 _ (R14 _ ?_), hrun, hended, _, _, rfl, ?_, ⟨_, rfl⟩, hW, hsame.mono (by decide) (by decide)⟩
  · show own_S p e below T12 (mkF m 43 #[rv a1, iv p2, own_l (256 : Int64), .second] [(.long (256 : Int64))]) _
    exact retOut X12 hx (t := .long) Bd.returns rfl (Or.inr (Or.inl ⟨rfl, rfl, _, rfl⟩)) (hb hby d6_43) hr
  · show Q_rmFf1_0 Z a1 p2 oR ckR kckR kkR x0 saR kstR fiR kfiR oU ckU kckU kkU h0 n0 _ T12.heap _
    rw [p12_0]
    exact ⟨rfl, N12, rfl⟩
theorem ef_rmCt1_0 (m : MethodId) (x0 : Addr) (x1 : Int64) (x2 : Int32) : entryFrame m #[(.ref x0), (.long x1), (.int x2)] 7 = mkF m 0 #[rv x0, own_l x1, .second, iv x2, .unset, .unset, .unset] [] := by first | (simp [entryFrame, mkF, argsToLocals, Value.category]; done) | rfl
def Q_rmCt1_0 (Z : State) (a1 : Addr) (p3 : Int32) (oR : Addr) (h0 : Heap) (n0 : Nat) (v : Option Value) (h : Heap) (L : List Loc) : Prop := v = some (.int (-1 : Int32)) ∧ Fr n0 L ∧ h = h0
set_option maxRecDepth 65536 in
set_option maxHeartbeats 40000000 in
theorem rmCt1_0 (l : Launch) (Z : State) (a0 : Array Value) (hw : ∀ d ∈ tables_1, d.before a0 Z = true) (ws : List Jvm.Cond) (a1 : Addr) (p3 : Int32) (oR : Addr) (h0 : Heap) (n0 : Nat) (Z0 : n0 ≤ h0.size) (F_read_a1 : Fld Z h0 a1 sN2 "read" sN4 (.ref oR)) :
    own_M l (⟨sN2, "containing", "(JI)I"⟩ : MethodName) (Jvm.Cond.code (⟨sN2, "containing", "(JI)I"⟩ : MethodName) prog_116_method_7_code 7 (some .int) :: ws) ({ frames := 0, cells := 0, slots := 0, locals := 0 } : Room) #[(.ref a1), (.long (256 : Int64)), (.int p3)] Z h0 (Q_rmCt1_0 Z a1 p3 oR h0 n0) := by
  refine MetFree.of_bodySF (plainFor_of_name pn_3) hisR ?_
  intro p e s m args below meth c s₁ Bd hml0 hP hK
  obtain ⟨rfl, hZ, hh⟩ := hP
  have hx := Bd.exec
  have hby := Bd.bytes
  have hml : c.maxLocals = 7 := hml0
  have hown : s.vm.findClass sN2 = some m.cls := findClass_of_methodNamed Bd.named
  have hnm := (name_of_methodNamed Bd.named Bd.method).1
  have X0 : Stand p l e ({ frames := 0, cells := 0, slots := 0, locals := 0 } : Room) s m #[(.ref a1), (.long (256 : Int64)), (.int p3)] below meth c s₁ [] 0 0 := Stand.of_body Bd
  have hU : ∀ (i : Nat) (d : Jvm.Cond), tables_1[i]? = some d → d.before a0 Z = true := fun i d h => hw d (List.mem_of_getElem? h)
  have e0 : s₁.heap = h0 := by rw [← hh, Bd.state]; rfl
  have N0 := Fr.nil n0
  obtain ⟨f0, hf0⟩ : ∃ f : JFrame, f = mkF m 0 #[rv a1, own_l (256 : Int64), .second, iv p3, .unset, .unset, .unset] [] := ⟨_, rfl⟩
  have pre0 : ∀ t, own_S p e below s₁ f0 t → Steps p.tables e below (s₁.setTop (entryFrame m #[(.ref a1), (.long (256 : Int64)), (.int p3)] 7)) t := fun t k => castTop ((ef_rmCt1_0 m a1 (256 : Int64) p3).trans hf0.symm) k
  have R0 : ∀ t, own_S p e below s₁ (mkF m 0 #[rv a1, own_l (256 : Int64), .second, iv p3, .unset, .unset, .unset] []) t → own_S p e below s₁ f0 t := by rw [hf0]; exact fun t k => k
  have R1 : ∀ t, own_S p e below s₁ (mkF m 4 #[rv a1, own_l (256 : Int64), .second, iv p3, .unset, .unset, .unset] [(.long (((256 : Int64).toUInt64 >>> ((32 : Int32) &&& 0x3f).toInt64.toUInt64).toInt64))]) t → own_S p e below s₁ f0 t := fun t k => R0 t (by
    refine XS.lloadN X0.here hx rfl (hb hby d18_0) rfl  ?_
    refine XS.bipush X0.here hx rfl (hb hby d18_1) ?_
    refine XS.lushr X0.here hx rfl (hb hby d18_3) rfl ?_
    exact k)
  have R2 : ∀ t, own_S p e below s₁ (mkF m 4 #[rv a1, own_l (256 : Int64), .second, iv p3, .unset, .unset, .unset] [(.long (0 : Int64))]) t → own_S p e below s₁ f0 t := by have q := R1; rw [((by decide) : (((256 : Int64).toUInt64 >>> ((32 : Int32) &&& 0x3f).toInt64.toUInt64).toInt64) = (0 : Int64))] at q; exact q
  have R3 : ∀ t, own_S p e below s₁ (mkF m 5 #[rv a1, own_l (256 : Int64), .second, iv p3, .unset, .unset, .unset] [(.int ((0 : Int64).toInt32))]) t → own_S p e below s₁ f0 t := fun t k => R2 t (by
    refine XS.l2i X0.here hx rfl (hb hby d18_4) rfl ?_
    exact k)
  have R4 : ∀ t, own_S p e below s₁ (mkF m 5 #[rv a1, own_l (256 : Int64), .second, iv p3, .unset, .unset, .unset] [(.int (0 : Int32))]) t → own_S p e below s₁ f0 t := by have q := R3; rw [((by decide) : ((0 : Int64).toInt32) = (0 : Int32))] at q; exact q
  have R5 : ∀ t, own_S p e below s₁ (mkF m 9 #[rv a1, own_l (256 : Int64), .second, iv p3, iv (0 : Int32), .unset, .unset] [(.int ((256 : Int64).toInt32))]) t → own_S p e below s₁ f0 t := fun t k => R4 t (by
    refine XS.istore X0.here hx rfl (hb hby d18_5) rfl (l' := #[rv a1, own_l (256 : Int64), .second, iv p3, iv (0 : Int32), .unset, .unset]) rfl ?_
    refine XS.lloadN X0.here hx rfl (hb hby d18_7) rfl  ?_
    refine XS.l2i X0.here hx rfl (hb hby d18_8) rfl ?_
    exact k)
  have R6 : ∀ t, own_S p e below s₁ (mkF m 9 #[rv a1, own_l (256 : Int64), .second, iv p3, iv (0 : Int32), .unset, .unset] [(.int (256 : Int32))]) t → own_S p e below s₁ f0 t := by have q := R5; rw [((by decide) : ((256 : Int64).toInt32) = (256 : Int32))] at q; exact q
  have R7 : ∀ t, own_S p e below s₁ (mkF m 26 #[rv a1, own_l (256 : Int64), .second, iv p3, iv (0 : Int32), iv (0 : Int32), .unset] [(.int (-1 : Int32))]) t → own_S p e below s₁ f0 t := fun t k => R6 t (by
    refine XS.sipush X0.here hx rfl (hb hby d18_9) ?_
    refine XS.isub X0.here hx rfl (hb hby d18_12) rfl ?_
    refine XS.istore X0.here hx rfl (hb hby d18_13) rfl (l' := #[rv a1, own_l (256 : Int64), .second, iv p3, iv (0 : Int32), iv (0 : Int32), .unset]) rfl ?_
    refine XS.iload X0.here hx rfl (hb hby d18_15) rfl  ?_
    refine XS.ifNo X0.here hx rfl (hb hby d18_17) rfl ((if0 _ _).trans (teq (by decide : (0 : Int32) = (0 : Int32))).2) ?_
    refine XS.iload X0.here hx rfl (hb hby d18_20) rfl  ?_
    show own_S p e below s₁ (mkF m 22 #[rv a1, own_l (256 : Int64), .second, iv p3, iv (0 : Int32), iv (0 : Int32), .unset] [(.int (0 : Int32))]) _
    refine XS.ifNo X0.here hx rfl (hb hby d18_22) rfl ((if0 _ _).trans (teq (by decide : (0 : Int32) = (0 : Int32))).2) ?_
    refine XS.iconst X0.here hx rfl (hb hby d18_25) ?_
    exact k)
  obtain ⟨fs, hr, hrun, hended, hW, hsame⟩ := X0.leave (v := some (.int (-1 : Int32))) (fun h => by rw [Bd.returns] at h; cases h)
  refine ⟨_, _, pre0 _ (R7 _ ?_), hrun, hended, _, _, rfl, ?_, ⟨_, rfl⟩, hW, hsame.mono (by decide) (by decide)⟩
  · show own_S p e below s₁ (mkF m 26 #[rv a1, own_l (256 : Int64), .second, iv p3, iv (0 : Int32), iv (0 : Int32), .unset] [(.int (-1 : Int32))]) _
    exact retI X0 hx Bd.returns (hb hby d18_26) hr
  · show Q_rmCt1_0 Z a1 p3 oR h0 n0 _ s₁.heap _
    rw [e0]
    exact ⟨rfl, N0, rfl⟩
theorem ef_rmFind1_1 (m : MethodId) (x0 : Addr) (x1 : Int32) : entryFrame m #[(.ref x0), (.int x1)] 6 = mkF m 0 #[rv x0, iv x1, .unset, .unset, .unset, .unset] [] := by first | (simp [entryFrame, mkF, argsToLocals, Value.category]; done) | rfl
def Q_rmFind1_1 (Z : State) (oR : Addr) (p2 : Int32) (ckR : Addr) (kckR : ClassId) (kkR : Addr) (x0 : Int32) (saR : Addr) (kstR : ClassId) (fiR : Addr) (kfiR : ClassId) (h0 : Heap) (n0 : Nat) (v : Option Value) (h : Heap) (L : List Loc) : Prop := v = some (.long (257 : Int64)) ∧ Fr n0 L ∧ h = h0
set_option maxRecDepth 65536 in
set_option maxHeartbeats 40000000 in
theorem rmFind1_1 (l : Launch) (Z : State) (a0 : Array Value) (hw : ∀ d ∈ tables_1, d.before a0 Z = true) (ws : List Jvm.Cond) (oR : Addr) (p2 : Int32) (ckR : Addr) (kckR : ClassId) (kkR : Addr) (x0 : Int32) (saR : Addr) (kstR : ClassId) (fiR : Addr) (kfiR : ClassId) (h0 : Heap) (n0 : Nat) (Z0 : n0 ≤ h0.size) (F_chunks_oR : Fld Z h0 oR sN0 "chunks" sN3 (.ref ckR)) (F_chunkCount_oR : Fld Z h0 oR sN0 "chunkCount" "I" (.int (1 : Int32))) (A_ckR : Arv Z h0 ckR kckR (.object sN1) (1 : Int32) [(.ref kkR)] .null) (F_size_kkR : Fld Z h0 kkR sN1 "size" "I" (.int (1 : Int32))) (F_starts_kkR : Fld Z h0 kkR sN1 "starts" "[I" (.ref saR)) (A_saR : Arv Z h0 saR kstR .int (256 : Int32) [(.int x0), (.int (0 : Int32)), (.int (0 : Int32))] (.int (0 : Int32))) (F_firsts_oR : Fld Z h0 oR sN0 "firsts" "[I" (.ref fiR)) (A_fiR : Arv Z h0 fiR kfiR .int (1 : Int32) [(.int x0)] (.int (0 : Int32))) (ho0 : x0 < p2) :
    own_M l (⟨sN0, "find", "(I)J"⟩ : MethodName) (Jvm.Cond.code (⟨sN0, "find", "(I)J"⟩ : MethodName) prog_118_method_2_code 6 (some .long) :: ws) ({ frames := 0, cells := 0, slots := 0, locals := 0 } : Room) #[(.ref oR), (.int p2)] Z h0 (Q_rmFind1_1 Z oR p2 ckR kckR kkR x0 saR kstR fiR kfiR h0 n0) := by
  refine MetFree.of_bodySF (plainFor_of_name pn_1) hisR ?_
  intro p e s m args below meth c s₁ Bd hml0 hP hK
  obtain ⟨rfl, hZ, hh⟩ := hP
  have hx := Bd.exec
  have hby := Bd.bytes
  have hml : c.maxLocals = 6 := hml0
  have hown : s.vm.findClass sN0 = some m.cls := findClass_of_methodNamed Bd.named
  have hnm := (name_of_methodNamed Bd.named Bd.method).1
  have X0 : Stand p l e ({ frames := 0, cells := 0, slots := 0, locals := 0 } : Room) s m #[(.ref oR), (.int p2)] below meth c s₁ [] 0 0 := Stand.of_body Bd
  have hU : ∀ (i : Nat) (d : Jvm.Cond), tables_1[i]? = some d → d.before a0 Z = true := fun i d h => hw d (List.mem_of_getElem? h)
  have e0 : s₁.heap = h0 := by rw [← hh, Bd.state]; rfl
  have N0 := Fr.nil n0
  obtain ⟨f0, hf0⟩ : ∃ f : JFrame, f = mkF m 0 #[rv oR, iv p2, .unset, .unset, .unset, .unset] [] := ⟨_, rfl⟩
  have pre0 : ∀ t, own_S p e below s₁ f0 t → Steps p.tables e below (s₁.setTop (entryFrame m #[(.ref oR), (.int p2)] 6)) t := fun t k => castTop ((ef_rmFind1_1 m oR p2).trans hf0.symm) k
  have R0 : ∀ t, own_S p e below s₁ (mkF m 0 #[rv oR, iv p2, .unset, .unset, .unset, .unset] []) t → own_S p e below s₁ f0 t := by rw [hf0]; exact fun t k => k
  have R1 : ∀ t, own_S p e below s₁ (mkF m 1 #[rv oR, iv p2, .unset, .unset, .unset, .unset] [(.ref oR)]) t → own_S p e below s₁ f0 t := fun t k => R0 t (by
    refine XS.aloadN X0.here hx rfl (hb hby d7_0) rfl rfl ?_
    exact k)
  obtain ⟨T2, X2, e2, st2⟩ := getF X0 hx hZ hown (host := "") (Or.inl (hU 43 _ rfl)) Via.refl e0 F_chunks_oR (g := (mkF m 1 #[rv oR, iv p2, .unset, .unset, .unset, .unset] [(.ref oR)])) rfl rfl (hb hby d7_1)
  have R3 := fun t k => R1 t (st2 t k)
  have R4 : ∀ t, own_S p e below T2 (mkF m 5 #[rv oR, iv p2, .unset, .unset, .unset, .unset] [(.ref oR), (.ref ckR)]) t → own_S p e below s₁ f0 t := fun t k => R3 t (by
    refine XS.aloadN X2.here hx rfl (hb hby d7_4) rfl rfl ?_
    exact k)
  obtain ⟨T5, X5, e5, st5⟩ := getF X2 hx hZ hown (host := "") (Or.inl (hU 22 _ rfl)) Via.refl e2 F_chunkCount_oR (g := (mkF m 5 #[rv oR, iv p2, .unset, .unset, .unset, .unset] [(.ref oR), (.ref ckR)])) rfl rfl (hb hby d7_5)
  have R6 := fun t k => R4 t (st5 t k)
  have R7 : ∀ t, own_S p e below T5 (mkF m 10 #[rv oR, iv p2, .unset, .unset, .unset, .unset] [(.int (0 : Int32)), (.ref ckR)]) t → own_S p e below s₁ f0 t := fun t k => R6 t (by
    refine XS.iconst X5.here hx rfl (hb hby d7_8) ?_
    refine XS.isub X5.here hx rfl (hb hby d7_9) rfl ?_
    exact k)
  obtain ⟨cl8, Ar8, q8, S8, n8_, H8, G8⟩ := id A_ckR
  have hin8 : ¬ ((0 : Int32) < 0 ∨ cl8.slots.size ≤ ((0 : Int32)).toNatClampNeg) := inb_of S8 ⟨by decide, by decide⟩
  have hat8 : cl8.slots[((0 : Int32)).toNatClampNeg]? = some (.ref kkR) := Has.at H8 hin8 rfl
  have R9 : ∀ t, own_S p e below T5 (mkF m 11 #[rv oR, iv p2, .unset, .unset, .unset, .unset] [(.ref kkR)]) t → own_S p e below s₁ f0 t := fun t k => R7 t (X5.aaload hx (j := (0 : Int32)) (v := (.ref kkR)) (by rw [e5]; exact Ar8.1) (State.isArrayOf_alike hZ.alike Ar8.2.1) rfl Ar8.2.2 hin8 hat8 (g := (mkF m 10 #[rv oR, iv p2, .unset, .unset, .unset, .unset] [(.int (0 : Int32)), (.ref ckR)])) rfl rfl (hb hby d7_10) _ k)
  have R10 : ∀ t, own_S p e below T5 (mkF m 13 #[rv oR, iv p2, rv kkR, .unset, .unset, .unset] [(.ref kkR)]) t → own_S p e below s₁ f0 t := fun t k => R9 t (by
    refine XS.astoreN X5.here hx rfl (hb hby d7_11) rfl rfl (l' := #[rv oR, iv p2, rv kkR, .unset, .unset, .unset]) rfl ?_
    refine XS.aloadN X5.here hx rfl (hb hby d7_12) rfl rfl ?_
    exact k)
  obtain ⟨T11, X11, e11, st11⟩ := getF X5 hx hZ hown (Or.inr (hU 66 _ rfl)) Via.refl e5 F_size_kkR (g := (mkF m 13 #[rv oR, iv p2, rv kkR, .unset, .unset, .unset] [(.ref kkR)])) rfl rfl (hb hby d7_13)
  have R12 := fun t k => R10 t (st11 t k)
  have R13 : ∀ t, own_S p e below T11 (mkF m 21 #[rv oR, iv p2, rv kkR, .unset, .unset, .unset] [(.ref kkR), (.int p2)]) t → own_S p e below s₁ f0 t := fun t k => R12 t (by
    refine XS.ifNo X11.here hx rfl (hb hby d7_16) rfl ((if0 _ _).trans (feq (by decide : ¬ ((1 : Int32) = (0 : Int32)))).1) ?_
    refine XS.iloadN X11.here hx rfl (hb hby d7_19) rfl  ?_
    refine XS.aloadN X11.here hx rfl (hb hby d7_20) rfl rfl ?_
    exact k)
  obtain ⟨T14, X14, e14, st14⟩ := getF X11 hx hZ hown (Or.inr (hU 83 _ rfl)) Via.refl e11 F_starts_kkR (g := (mkF m 21 #[rv oR, iv p2, rv kkR, .unset, .unset, .unset] [(.ref kkR), (.int p2)])) rfl rfl (hb hby d7_21)
  have R15 := fun t k => R13 t (st14 t k)
  have R16 : ∀ t, own_S p e below T14 (mkF m 25 #[rv oR, iv p2, rv kkR, .unset, .unset, .unset] [(.ref kkR), (.ref saR), (.int p2)]) t → own_S p e below s₁ f0 t := fun t k => R15 t (by
    refine XS.aloadN X14.here hx rfl (hb hby d7_24) rfl rfl ?_
    exact k)
  obtain ⟨T17, X17, e17, st17⟩ := getF X14 hx hZ hown (Or.inr (hU 66 _ rfl)) Via.refl e14 F_size_kkR (g := (mkF m 25 #[rv oR, iv p2, rv kkR, .unset, .unset, .unset] [(.ref kkR), (.ref saR), (.int p2)])) rfl rfl (hb hby d7_25)
  have R18 := fun t k => R16 t (st17 t k)
  have R19 : ∀ t, own_S p e below T17 (mkF m 30 #[rv oR, iv p2, rv kkR, .unset, .unset, .unset] [(.int (0 : Int32)), (.ref saR), (.int p2)]) t → own_S p e below s₁ f0 t := fun t k => R18 t (by
    refine XS.iconst X17.here hx rfl (hb hby d7_28) ?_
    refine XS.isub X17.here hx rfl (hb hby d7_29) rfl ?_
    exact k)
  obtain ⟨cl20, Ar20, q20, S20, n20_, H20, G20⟩ := id A_saR
  have hin20 : ¬ ((0 : Int32) < 0 ∨ cl20.slots.size ≤ ((0 : Int32)).toNatClampNeg) := inb_of S20 ⟨by decide, by decide⟩
  have hat20 : cl20.slots[((0 : Int32)).toNatClampNeg]? = some (.int x0) := Has.at H20 hin20 rfl
  have R21 : ∀ t, own_S p e below T17 (mkF m 31 #[rv oR, iv p2, rv kkR, .unset, .unset, .unset] [(.int x0), (.int p2)]) t → own_S p e below s₁ f0 t := fun t k => R19 t (X17.iaload hx (j := (0 : Int32)) (v := (.int x0)) (by rw [e17]; exact Ar20.1) (State.isArrayOf_alike hZ.alike Ar20.2.1) Ar20.2.2 hin20 hat20 (g := (mkF m 30 #[rv oR, iv p2, rv kkR, .unset, .unset, .unset] [(.int (0 : Int32)), (.ref saR), (.int p2)])) rfl rfl (hb hby d7_30) _ k)
  have R22 : ∀ t, own_S p e below T17 (mkF m 35 #[rv oR, iv p2, rv kkR, .unset, .unset, .unset] [(.ref oR)]) t → own_S p e below s₁ f0 t := fun t k => R21 t (by
    refine XS.icmpNo X17.here hx rfl (hb hby d7_31) rfl (tlt ho0).2.2.2 ?_
    refine XS.aloadN X17.here hx rfl (hb hby d7_34) rfl rfl ?_
    exact k)
  obtain ⟨T23, X23, e23, st23⟩ := getF X17 hx hZ hown (host := "") (Or.inl (hU 22 _ rfl)) Via.refl e17 F_chunkCount_oR (g := (mkF m 35 #[rv oR, iv p2, rv kkR, .unset, .unset, .unset] [(.ref oR)])) rfl rfl (hb hby d7_35)
  have R24 := fun t k => R22 t (st23 t k)
  have R25 : ∀ t, own_S p e below T23 (mkF m 41 #[rv oR, iv p2, rv kkR, .unset, .unset, .unset] [(.long ((0 : Int32).toInt64))]) t → own_S p e below s₁ f0 t := fun t k => R24 t (by
    refine XS.iconst X23.here hx rfl (hb hby d7_38) ?_
    refine XS.isub X23.here hx rfl (hb hby d7_39) rfl ?_
    refine XS.i2l X23.here hx rfl (hb hby d7_40) rfl ?_
    exact k)
  have R26 : ∀ t, own_S p e below T23 (mkF m 41 #[rv oR, iv p2, rv kkR, .unset, .unset, .unset] [(.long (0 : Int64))]) t → own_S p e below s₁ f0 t := by have q := R25; rw [((by decide) : ((0 : Int32).toInt64) = (0 : Int64))] at q; exact q
  have R27 : ∀ t, own_S p e below T23 (mkF m 44 #[rv oR, iv p2, rv kkR, .unset, .unset, .unset] [(.long ((0 : Int64) <<< ((32 : Int32) &&& 0x3f).toInt64))]) t → own_S p e below s₁ f0 t := fun t k => R26 t (by
    refine XS.bipush X23.here hx rfl (hb hby d7_41) ?_
    refine XS.lshl X23.here hx rfl (hb hby d7_43) rfl ?_
    exact k)
  have R28 : ∀ t, own_S p e below T23 (mkF m 44 #[rv oR, iv p2, rv kkR, .unset, .unset, .unset] [(.long (0 : Int64))]) t → own_S p e below s₁ f0 t := by have q := R27; rw [((by decide) : ((0 : Int64) <<< ((32 : Int32) &&& 0x3f).toInt64) = (0 : Int64))] at q; exact q
  have R29 : ∀ t, own_S p e below T23 (mkF m 48 #[rv oR, iv p2, rv kkR, .unset, .unset, .unset] [(.ref kkR), (.int (256 : Int32)), (.long (0 : Int64))]) t → own_S p e below s₁ f0 t := fun t k => R28 t (by
    refine XS.sipush X23.here hx rfl (hb hby d7_44) ?_
    refine XS.aloadN X23.here hx rfl (hb hby d7_47) rfl rfl ?_
    exact k)
  obtain ⟨T30, X30, e30, st30⟩ := getF X23 hx hZ hown (Or.inr (hU 66 _ rfl)) Via.refl e23 F_size_kkR (g := (mkF m 48 #[rv oR, iv p2, rv kkR, .unset, .unset, .unset] [(.ref kkR), (.int (256 : Int32)), (.long (0 : Int64))])) rfl rfl (hb hby d7_48)
  have R31 := fun t k => R29 t (st30 t k)
  have R32 : ∀ t, own_S p e below T30 (mkF m 53 #[rv oR, iv p2, rv kkR, .unset, .unset, .unset] [(.long ((257 : Int32).toInt64)), (.long (0 : Int64))]) t → own_S p e below s₁ f0 t := fun t k => R31 t (by
    refine XS.iadd X30.here hx rfl (hb hby d7_51) rfl ?_
    refine XS.i2l X30.here hx rfl (hb hby d7_52) rfl ?_
    exact k)
  have R33 : ∀ t, own_S p e below T30 (mkF m 53 #[rv oR, iv p2, rv kkR, .unset, .unset, .unset] [(.long (257 : Int64)), (.long (0 : Int64))]) t → own_S p e below s₁ f0 t := by have q := R32; rw [((by decide) : ((257 : Int32).toInt64) = (257 : Int64))] at q; exact q
  have R34 : ∀ t, own_S p e below T30 (mkF m 54 #[rv oR, iv p2, rv kkR, .unset, .unset, .unset] [(.long (257 : Int64))]) t → own_S p e below s₁ f0 t := fun t k => R33 t (by
    refine XS.lor X30.here hx rfl (hb hby d7_53) rfl ?_
    exact k)
  obtain ⟨fs, hr, hrun, hended, hW, hsame⟩ := X30.leave (v := some (.long (257 : Int64))) (fun h => by rw [Bd.returns] at h; cases h)
  refine ⟨_, _, pre0 _ (R34 _ ?_), hrun, hended, _, _, rfl, ?_, ⟨_, rfl⟩, hW, hsame.mono (by decide) (by decide)⟩
  · show own_S p e below T30 (mkF m 54 #[rv oR, iv p2, rv kkR, .unset, .unset, .unset] [(.long (257 : Int64))]) _
    exact retOut X30 hx (t := .long) Bd.returns rfl (Or.inr (Or.inl ⟨rfl, rfl, _, rfl⟩)) (hb hby d7_54) hr
  · show Q_rmFind1_1 Z oR p2 ckR kckR kkR x0 saR kstR fiR kfiR h0 n0 _ T30.heap _
    rw [e30]
    exact ⟨rfl, N0, rfl⟩
theorem ef_rmFf1_1 (m : MethodId) (x0 : Addr) (x1 : Int32) : entryFrame m #[(.ref x0), (.int x1)] 4 = mkF m 0 #[rv x0, iv x1, .unset, .unset] [] := by first | (simp [entryFrame, mkF, argsToLocals, Value.category]; done) | rfl
def Q_rmFf1_1 (Z : State) (a1 : Addr) (p2 : Int32) (oR : Addr) (ckR : Addr) (kckR : ClassId) (kkR : Addr) (x0 : Int32) (saR : Addr) (kstR : ClassId) (fiR : Addr) (kfiR : ClassId) (oU : Addr) (ckU : Addr) (kckU : ClassId) (kkU : Addr) (h0 : Heap) (n0 : Nat) (v : Option Value) (h : Heap) (L : List Loc) : Prop := v = some (.long (257 : Int64)) ∧ Fr n0 L ∧ h = h0
set_option maxRecDepth 65536 in
set_option maxHeartbeats 40000000 in
theorem rmFf1_1 (l : Launch) (Z : State) (a0 : Array Value) (hw : ∀ d ∈ tables_1, d.before a0 Z = true) (ws : List Jvm.Cond) (a1 : Addr) (p2 : Int32) (oR : Addr) (ckR : Addr) (kckR : ClassId) (kkR : Addr) (x0 : Int32) (saR : Addr) (kstR : ClassId) (fiR : Addr) (kfiR : ClassId) (oU : Addr) (ckU : Addr) (kckU : ClassId) (kkU : Addr) (h0 : Heap) (n0 : Nat) (Z0 : n0 ≤ h0.size) (F_read_a1 : Fld Z h0 a1 sN2 "read" sN4 (.ref oR)) (F_unread_a1 : Fld Z h0 a1 sN2 "unread" sN4 (.ref oU)) (E_oR : Exa Z h0 oR sN0) (F_chunks_oR : Fld Z h0 oR sN0 "chunks" sN3 (.ref ckR)) (F_chunkCount_oR : Fld Z h0 oR sN0 "chunkCount" "I" (.int (1 : Int32))) (A_ckR : Arv Z h0 ckR kckR (.object sN1) (1 : Int32) [(.ref kkR)] .null) (F_size_kkR : Fld Z h0 kkR sN1 "size" "I" (.int (1 : Int32))) (F_starts_kkR : Fld Z h0 kkR sN1 "starts" "[I" (.ref saR)) (A_saR : Arv Z h0 saR kstR .int (256 : Int32) [(.int x0), (.int (0 : Int32)), (.int (0 : Int32))] (.int (0 : Int32))) (F_firsts_oR : Fld Z h0 oR sN0 "firsts" "[I" (.ref fiR)) (A_fiR : Arv Z h0 fiR kfiR .int (1 : Int32) [(.int x0)] (.int (0 : Int32))) (E_oU : Exa Z h0 oU sN0) (F_chunks_oU : Fld Z h0 oU sN0 "chunks" sN3 (.ref ckU)) (A_ckU : Arv Z h0 ckU kckU (.object sN1) (1 : Int32) [(.ref kkU)] .null) (E_kkU : Exa Z h0 kkU sN1) (F_size_kkU : Fld Z h0 kkU sN1 "size" "I" (.int (0 : Int32))) (ho0 : x0 < p2) :
    own_M l (⟨sN2, "find", "(I)J"⟩ : MethodName) (Jvm.Cond.code (⟨sN2, "find", "(I)J"⟩ : MethodName) prog_116_method_2_code 4 (some .long) :: ws) ({ frames := 1, cells := 0, slots := 0, locals := 17 } : Room) #[(.ref a1), (.int p2)] Z h0 (Q_rmFf1_1 Z a1 p2 oR ckR kckR kkR x0 saR kstR fiR kfiR oU ckU kckU kkU h0 n0) := by
  refine MetFree.of_bodySF (plainFor_of_name pn_3) hisR ?_
  intro p e s m args below meth c s₁ Bd hml0 hP hK
  obtain ⟨rfl, hZ, hh⟩ := hP
  have hx := Bd.exec
  have hby := Bd.bytes
  have hml : c.maxLocals = 4 := hml0
  have hown : s.vm.findClass sN2 = some m.cls := findClass_of_methodNamed Bd.named
  have hnm := (name_of_methodNamed Bd.named Bd.method).1
  have X0 : Stand p l e ({ frames := 1, cells := 0, slots := 0, locals := 17 } : Room) s m #[(.ref a1), (.int p2)] below meth c s₁ [] 0 0 := Stand.of_body Bd
  have hU : ∀ (i : Nat) (d : Jvm.Cond), tables_1[i]? = some d → d.before a0 Z = true := fun i d h => hw d (List.mem_of_getElem? h)
  have e0 : s₁.heap = h0 := by rw [← hh, Bd.state]; rfl
  have N0 := Fr.nil n0
  obtain ⟨f0, hf0⟩ : ∃ f : JFrame, f = mkF m 0 #[rv a1, iv p2, .unset, .unset] [] := ⟨_, rfl⟩
  have pre0 : ∀ t, own_S p e below s₁ f0 t → Steps p.tables e below (s₁.setTop (entryFrame m #[(.ref a1), (.int p2)] 4)) t := fun t k => castTop ((ef_rmFf1_1 m a1 p2).trans hf0.symm) k
  have R0 : ∀ t, own_S p e below s₁ (mkF m 0 #[rv a1, iv p2, .unset, .unset] []) t → own_S p e below s₁ f0 t := by rw [hf0]; exact fun t k => k
  have R1 : ∀ t, own_S p e below s₁ (mkF m 1 #[rv a1, iv p2, .unset, .unset] [(.ref a1)]) t → own_S p e below s₁ f0 t := fun t k => R0 t (by
    refine XS.aloadN X0.here hx rfl (hb hby d6_0) rfl rfl ?_
    exact k)
  obtain ⟨T2, X2, e2, st2⟩ := getF X0 hx hZ hown (host := "") (Or.inl (hU 45 _ rfl)) Via.refl e0 F_read_a1 (g := (mkF m 1 #[rv a1, iv p2, .unset, .unset] [(.ref a1)])) rfl rfl (hb hby d6_1)
  have R3 := fun t k => R1 t (st2 t k)
  have R4 : ∀ t, own_S p e below T2 (mkF m 5 #[rv a1, iv p2, .unset, .unset] [(.int p2), (.ref oR)]) t → own_S p e below s₁ f0 t := fun t k => R3 t (by
    refine XS.iloadN X2.here hx rfl (hb hby d6_4) rfl  ?_
    exact k)
  obtain ⟨cq5, kq5, q5a, q5b, q5c⟩ := isOf hZ e2 E_oR
  obtain ⟨_, _, ⟨T5, L5, k5, n5⟩, -, X5, ⟨Lc5, hQ5, l5, y5, z5⟩, st5⟩ := X2.virtualBack hx (y := (⟨sN0, "find", "(I)J"⟩ : MethodName)) (z := (⟨sN0, "find", "(I)J"⟩ : MethodName)) hown (mvT hZ (hU 61 _ rfl)) (mvT hZ (hU 62 _ rfl)) (notFace_of_selects (args := #[]) (mvT hZ (hU 64 _ rfl))) (mvT hZ (hU 64 _ rfl)) (mvT hZ (hU 63 _ rfl)) (by decide) (backOf (W := 0) (rmFind1_1 l Z a0 hw [] oR p2 ckR kckR kkR x0 saR kstR fiR kfiR h0 n0 Z0 F_chunks_oR F_chunkCount_oR A_ckR F_size_kkR F_starts_kkR A_saR F_firsts_oR A_fiR ho0) hZ (hU 65 _ rfl) (hU 14 _ rfl) (by decide) (by decide)) q5a q5c (g := (mkF m 5 #[rv a1, iv p2, .unset, .unset] [(.int p2), (.ref oR)])) rfl (by rw [hml]; rfl) (Steps.refl _) (argsL := [(.int p2)]) (rest := []) (lenOf pd_5 rfl) rfl (Nat.le_of_eq rfl) (hb hby d6_5) (fun _ _ => ⟨rfl, e2, (by decide : 0 + 0 ≤ _), (by decide : 0 + 0 ≤ _)⟩)
  dsimp only [Pt.U, Pt.locs, Pt.cells, Pt.slots] at X5 l5 y5 z5 st5 hQ5
  subst l5 y5 z5
  obtain ⟨rfl, N5q, p5_0⟩ := hQ5
  have N5 := Fr.app N0 N5q
  have R6 := fun t k => R4 t (st5.trans k)
  have R7 : ∀ t, own_S p e below T5 (mkF m 11 #[rv a1, iv p2, own_l (257 : Int64), .second] [(.int ((257 : Int64).toInt32))]) t → own_S p e below s₁ f0 t := fun t k => R6 t (by
    refine XS.lstoreN X5.here hx rfl (hb hby d6_8) rfl (l' := #[rv a1, iv p2, own_l (257 : Int64), .second]) rfl ?_
    refine XS.lloadN X5.here hx rfl (hb hby d6_9) rfl  ?_
    refine XS.l2i X5.here hx rfl (hb hby d6_10) rfl ?_
    exact k)
  have R8 : ∀ t, own_S p e below T5 (mkF m 11 #[rv a1, iv p2, own_l (257 : Int64), .second] [(.int (257 : Int32))]) t → own_S p e below s₁ f0 t := by have q := R7; rw [((by decide) : ((257 : Int64).toInt32) = (257 : Int32))] at q; exact q
  have R9 : ∀ t, own_S p e below T5 (mkF m 18 #[rv a1, iv p2, own_l (257 : Int64), .second] [(.ref a1)]) t → own_S p e below s₁ f0 t := fun t k => R8 t (by
    refine XS.sipush X5.here hx rfl (hb hby d6_11) ?_
    refine XS.icmpNo X5.here hx rfl (hb hby d6_14) rfl (flt (by decide : ¬ ((257 : Int32) < (256 : Int32)))).1 ?_
    refine XS.aloadN X5.here hx rfl (hb hby d6_17) rfl rfl ?_
    exact k)
  obtain ⟨T10, X10, e10, st10⟩ := getF X5 hx hZ hown (host := "") (Or.inl (hU 47 _ rfl)) Via.refl p5_0 F_unread_a1 (g := (mkF m 18 #[rv a1, iv p2, own_l (257 : Int64), .second] [(.ref a1)])) rfl rfl (hb hby d6_18)
  have R11 := fun t k => R9 t (st10 t k)
  obtain ⟨cq12, kq12, q12a, q12b, q12c⟩ := isOf hZ e10 E_oU
  obtain ⟨_, _, ⟨T12, L12, k12, n12⟩, -, X12, ⟨Lc12, hQ12, l12, y12, z12⟩, st12⟩ := X10.virtualBack hx (y := (⟨sN0, "isEmpty", "()Z"⟩ : MethodName)) (z := (⟨sN0, "isEmpty", "()Z"⟩ : MethodName)) hown (mvT hZ (hU 68 _ rfl)) (mvT hZ (hU 69 _ rfl)) (notFace_of_selects (args := #[]) (mvT hZ (hU 71 _ rfl))) (mvT hZ (hU 71 _ rfl)) (mvT hZ (hU 70 _ rfl)) (by decide) (backOf (W := 0) (rmEmp0 l Z a0 hw [] oU ckU kckU kkU h0 n0 Z0 F_chunks_oU A_ckU F_size_kkU) hZ (hU 72 _ rfl) (hU 14 _ rfl) (by decide) (by decide)) q12a q12c (g := (mkF m 21 #[rv a1, iv p2, own_l (257 : Int64), .second] [(.ref oU)])) rfl (by rw [hml]; rfl) (Steps.refl _) (argsL := []) (rest := []) (lenOf pd_6 rfl) rfl (Nat.le_of_eq rfl) (hb hby d6_21) (fun _ _ => ⟨rfl, e10, (by decide : 0 + 0 ≤ _), (by decide : 0 + 0 ≤ _)⟩)
  dsimp only [Pt.U, Pt.locs, Pt.cells, Pt.slots] at X12 l12 y12 z12 st12 hQ12
  subst l12 y12 z12
  obtain ⟨rfl, N12q, p12_0⟩ := hQ12
  have N12 := Fr.app N5 N12q
  have R13 := fun t k => R11 t (st12.trans k)
  have R14 : ∀ t, own_S p e below T12 (mkF m 43 #[rv a1, iv p2, own_l (257 : Int64), .second] [(.long (257 : Int64))]) t → own_S p e below s₁ f0 t := fun t k => R13 t (by
    refine XS.ifYes X12.here hx rfl (pc0 := 24) (pc' := 42) rfl (hb hby d6_24) rfl ((if0 _ _).trans (feq (by decide : ¬ ((1 : Int32) = (0 : Int32)))).2) (by decide) (by decide) ?_
    refine XS.lloadN X12.here hx rfl (hb hby d6_42) rfl  ?_
    exact k)
  obtain ⟨fs, hr, hrun, hended, hW, hsame⟩ := X12.leave (v := some (.long (257 : Int64))) (fun h => by rw [Bd.returns] at h; cases h)
  refine ⟨_, _, pre0 _ (R14 _ ?_), hrun, hended, _, _, rfl, ?_, ⟨_, rfl⟩, hW, hsame.mono (by decide) (by decide)⟩
  · show own_S p e below T12 (mkF m 43 #[rv a1, iv p2, own_l (257 : Int64), .second] [(.long (257 : Int64))]) _
    exact retOut X12 hx (t := .long) Bd.returns rfl (Or.inr (Or.inl ⟨rfl, rfl, _, rfl⟩)) (hb hby d6_43) hr
  · show Q_rmFf1_1 Z a1 p2 oR ckR kckR kkR x0 saR kstR fiR kfiR oU ckU kckU kkU h0 n0 _ T12.heap _
    rw [p12_0]
    exact ⟨rfl, N12, rfl⟩
theorem ef_rmCt1_1 (m : MethodId) (x0 : Addr) (x1 : Int64) (x2 : Int32) : entryFrame m #[(.ref x0), (.long x1), (.int x2)] 7 = mkF m 0 #[rv x0, own_l x1, .second, iv x2, .unset, .unset, .unset] [] := by first | (simp [entryFrame, mkF, argsToLocals, Value.category]; done) | rfl
def Q_rmCt1_1 (Z : State) (a1 : Addr) (p3 : Int32) (oR : Addr) (ckR : Addr) (kckR : ClassId) (kkR : Addr) (saR : Addr) (kstR : ClassId) (enR : Addr) (kenR : ClassId) (x0 : Int32) (e_0 : Int32) (h0 : Heap) (n0 : Nat) (v : Option Value) (h : Heap) (L : List Loc) : Prop := v = some (.int (own_ct p3 e_0 x0)) ∧ Fr n0 L ∧ h = h0
set_option maxRecDepth 65536 in
set_option maxHeartbeats 40000000 in
theorem rmCt1_1 (l : Launch) (Z : State) (a0 : Array Value) (hw : ∀ d ∈ tables_1, d.before a0 Z = true) (ws : List Jvm.Cond) (a1 : Addr) (p3 : Int32) (oR : Addr) (ckR : Addr) (kckR : ClassId) (kkR : Addr) (saR : Addr) (kstR : ClassId) (enR : Addr) (kenR : ClassId) (x0 : Int32) (e_0 : Int32) (h0 : Heap) (n0 : Nat) (Z0 : n0 ≤ h0.size) (F_read_a1 : Fld Z h0 a1 sN2 "read" sN4 (.ref oR)) (F_chunks_oR : Fld Z h0 oR sN0 "chunks" sN3 (.ref ckR)) (A_ckR : Arv Z h0 ckR kckR (.object sN1) (1 : Int32) [(.ref kkR)] .null) (F_starts_kkR : Fld Z h0 kkR sN1 "starts" "[I" (.ref saR)) (F_ends_kkR : Fld Z h0 kkR sN1 "ends" "[I" (.ref enR)) (A_saR : Arv Z h0 saR kstR .int (256 : Int32) [(.int x0), (.int (0 : Int32)), (.int (0 : Int32))] (.int (0 : Int32))) (A_enR : Arv Z h0 enR kenR .int (256 : Int32) [(.int e_0), (.int (0 : Int32)), (.int (0 : Int32))] (.int (0 : Int32))) :
    own_M l (⟨sN2, "containing", "(JI)I"⟩ : MethodName) (Jvm.Cond.code (⟨sN2, "containing", "(JI)I"⟩ : MethodName) prog_116_method_7_code 7 (some .int) :: ws) ({ frames := 0, cells := 0, slots := 0, locals := 0 } : Room) #[(.ref a1), (.long (257 : Int64)), (.int p3)] Z h0 (Q_rmCt1_1 Z a1 p3 oR ckR kckR kkR saR kstR enR kenR x0 e_0 h0 n0) := by
  refine MetFree.of_bodySF (plainFor_of_name pn_3) hisR ?_
  intro p e s m args below meth c s₁ Bd hml0 hP hK
  obtain ⟨rfl, hZ, hh⟩ := hP
  have hx := Bd.exec
  have hby := Bd.bytes
  have hml : c.maxLocals = 7 := hml0
  have hown : s.vm.findClass sN2 = some m.cls := findClass_of_methodNamed Bd.named
  have hnm := (name_of_methodNamed Bd.named Bd.method).1
  have X0 : Stand p l e ({ frames := 0, cells := 0, slots := 0, locals := 0 } : Room) s m #[(.ref a1), (.long (257 : Int64)), (.int p3)] below meth c s₁ [] 0 0 := Stand.of_body Bd
  have hU : ∀ (i : Nat) (d : Jvm.Cond), tables_1[i]? = some d → d.before a0 Z = true := fun i d h => hw d (List.mem_of_getElem? h)
  have e0 : s₁.heap = h0 := by rw [← hh, Bd.state]; rfl
  have N0 := Fr.nil n0
  obtain ⟨f0, hf0⟩ : ∃ f : JFrame, f = mkF m 0 #[rv a1, own_l (257 : Int64), .second, iv p3, .unset, .unset, .unset] [] := ⟨_, rfl⟩
  have pre0 : ∀ t, own_S p e below s₁ f0 t → Steps p.tables e below (s₁.setTop (entryFrame m #[(.ref a1), (.long (257 : Int64)), (.int p3)] 7)) t := fun t k => castTop ((ef_rmCt1_1 m a1 (257 : Int64) p3).trans hf0.symm) k
  have R0 : ∀ t, own_S p e below s₁ (mkF m 0 #[rv a1, own_l (257 : Int64), .second, iv p3, .unset, .unset, .unset] []) t → own_S p e below s₁ f0 t := by rw [hf0]; exact fun t k => k
  have R1 : ∀ t, own_S p e below s₁ (mkF m 4 #[rv a1, own_l (257 : Int64), .second, iv p3, .unset, .unset, .unset] [(.long (((257 : Int64).toUInt64 >>> ((32 : Int32) &&& 0x3f).toInt64.toUInt64).toInt64))]) t → own_S p e below s₁ f0 t := fun t k => R0 t (by
    refine XS.lloadN X0.here hx rfl (hb hby d18_0) rfl  ?_
    refine XS.bipush X0.here hx rfl (hb hby d18_1) ?_
    refine XS.lushr X0.here hx rfl (hb hby d18_3) rfl ?_
    exact k)
  have R2 : ∀ t, own_S p e below s₁ (mkF m 4 #[rv a1, own_l (257 : Int64), .second, iv p3, .unset, .unset, .unset] [(.long (0 : Int64))]) t → own_S p e below s₁ f0 t := by have q := R1; rw [((by decide) : (((257 : Int64).toUInt64 >>> ((32 : Int32) &&& 0x3f).toInt64.toUInt64).toInt64) = (0 : Int64))] at q; exact q
  have R3 : ∀ t, own_S p e below s₁ (mkF m 5 #[rv a1, own_l (257 : Int64), .second, iv p3, .unset, .unset, .unset] [(.int ((0 : Int64).toInt32))]) t → own_S p e below s₁ f0 t := fun t k => R2 t (by
    refine XS.l2i X0.here hx rfl (hb hby d18_4) rfl ?_
    exact k)
  have R4 : ∀ t, own_S p e below s₁ (mkF m 5 #[rv a1, own_l (257 : Int64), .second, iv p3, .unset, .unset, .unset] [(.int (0 : Int32))]) t → own_S p e below s₁ f0 t := by have q := R3; rw [((by decide) : ((0 : Int64).toInt32) = (0 : Int32))] at q; exact q
  have R5 : ∀ t, own_S p e below s₁ (mkF m 9 #[rv a1, own_l (257 : Int64), .second, iv p3, iv (0 : Int32), .unset, .unset] [(.int ((257 : Int64).toInt32))]) t → own_S p e below s₁ f0 t := fun t k => R4 t (by
    refine XS.istore X0.here hx rfl (hb hby d18_5) rfl (l' := #[rv a1, own_l (257 : Int64), .second, iv p3, iv (0 : Int32), .unset, .unset]) rfl ?_
    refine XS.lloadN X0.here hx rfl (hb hby d18_7) rfl  ?_
    refine XS.l2i X0.here hx rfl (hb hby d18_8) rfl ?_
    exact k)
  have R6 : ∀ t, own_S p e below s₁ (mkF m 9 #[rv a1, own_l (257 : Int64), .second, iv p3, iv (0 : Int32), .unset, .unset] [(.int (257 : Int32))]) t → own_S p e below s₁ f0 t := by have q := R5; rw [((by decide) : ((257 : Int64).toInt32) = (257 : Int32))] at q; exact q
  have R7 : ∀ t, own_S p e below s₁ (mkF m 46 #[rv a1, own_l (257 : Int64), .second, iv p3, iv (0 : Int32), iv (1 : Int32), .unset] [(.ref a1)]) t → own_S p e below s₁ f0 t := fun t k => R6 t (by
    refine XS.sipush X0.here hx rfl (hb hby d18_9) ?_
    refine XS.isub X0.here hx rfl (hb hby d18_12) rfl ?_
    refine XS.istore X0.here hx rfl (hb hby d18_13) rfl (l' := #[rv a1, own_l (257 : Int64), .second, iv p3, iv (0 : Int32), iv (1 : Int32), .unset]) rfl ?_
    refine XS.iload X0.here hx rfl (hb hby d18_15) rfl  ?_
    refine XS.ifYes X0.here hx rfl (pc0 := 17) (pc' := 45) rfl (hb hby d18_17) rfl ((if0 _ _).trans (feq (by decide : ¬ ((1 : Int32) = (0 : Int32)))).2) (by decide) (by decide) ?_
    refine XS.aloadN X0.here hx rfl (hb hby d18_45) rfl rfl ?_
    exact k)
  obtain ⟨T8, X8, e8, st8⟩ := getF X0 hx hZ hown (host := "") (Or.inl (hU 45 _ rfl)) Via.refl e0 F_read_a1 (g := (mkF m 46 #[rv a1, own_l (257 : Int64), .second, iv p3, iv (0 : Int32), iv (1 : Int32), .unset] [(.ref a1)])) rfl rfl (hb hby d18_46)
  have R9 := fun t k => R7 t (st8 t k)
  have R10 : ∀ t, own_S p e below T8 (mkF m 54 #[rv a1, own_l (257 : Int64), .second, iv p3, iv (0 : Int32), iv (1 : Int32), .unset] [(.int (0 : Int32)), (.ref ckR)]) t → own_S p e below s₁ f0 t := fun t k => R9 t (by
    refine own_getFR X8 hx hZ hown (hU 124 _ rfl) e8 F_chunks_oR (g := (mkF m 49 #[rv a1, own_l (257 : Int64), .second, iv p3, iv (0 : Int32), iv (1 : Int32), .unset] [(.ref oR)])) rfl rfl (hb hby d18_49) _ ?_
    refine XS.iload X8.here hx rfl (hb hby d18_52) rfl  ?_
    exact k)
  obtain ⟨cl11, Ar11, q11, S11, n11_, H11, G11⟩ := id A_ckR
  have hin11 : ¬ ((0 : Int32) < 0 ∨ cl11.slots.size ≤ ((0 : Int32)).toNatClampNeg) := inb_of S11 ⟨by decide, by decide⟩
  have hat11 : cl11.slots[((0 : Int32)).toNatClampNeg]? = some (.ref kkR) := Has.at H11 hin11 rfl
  have R12 : ∀ t, own_S p e below T8 (mkF m 55 #[rv a1, own_l (257 : Int64), .second, iv p3, iv (0 : Int32), iv (1 : Int32), .unset] [(.ref kkR)]) t → own_S p e below s₁ f0 t := fun t k => R10 t (X8.aaload hx (j := (0 : Int32)) (v := (.ref kkR)) (by rw [e8]; exact Ar11.1) (State.isArrayOf_alike hZ.alike Ar11.2.1) rfl Ar11.2.2 hin11 hat11 (g := (mkF m 54 #[rv a1, own_l (257 : Int64), .second, iv p3, iv (0 : Int32), iv (1 : Int32), .unset] [(.int (0 : Int32)), (.ref ckR)])) rfl rfl (hb hby d18_54) _ k)
  have R13 : ∀ t, own_S p e below T8 (mkF m 66 #[rv a1, own_l (257 : Int64), .second, iv p3, iv (0 : Int32), iv (1 : Int32), rv kkR] [(.int (0 : Int32)), (.ref enR)]) t → own_S p e below s₁ f0 t := fun t k => R12 t (by
    refine XS.astore X8.here hx rfl (hb hby d18_55) rfl rfl (l' := #[rv a1, own_l (257 : Int64), .second, iv p3, iv (0 : Int32), iv (1 : Int32), rv kkR]) rfl ?_
    refine XS.aload X8.here hx rfl (hb hby d18_57) rfl rfl ?_
    refine own_getFR X8 hx hZ hown (hU 125 _ rfl) e8 F_ends_kkR (g := (mkF m 59 #[rv a1, own_l (257 : Int64), .second, iv p3, iv (0 : Int32), iv (1 : Int32), rv kkR] [(.ref kkR)])) rfl rfl (hb hby d18_59) _ ?_
    refine XS.iload X8.here hx rfl (hb hby d18_62) rfl  ?_
    refine XS.iconst X8.here hx rfl (hb hby d18_64) ?_
    refine XS.isub X8.here hx rfl (hb hby d18_65) rfl ?_
    exact k)
  obtain ⟨cl14, Ar14, q14, S14, n14_, H14, G14⟩ := id A_enR
  have hin14 : ¬ ((0 : Int32) < 0 ∨ cl14.slots.size ≤ ((0 : Int32)).toNatClampNeg) := inb_of S14 ⟨by decide, by decide⟩
  have hat14 : cl14.slots[((0 : Int32)).toNatClampNeg]? = some (.int e_0) := Has.at H14 hin14 rfl
  have R15 : ∀ t, own_S p e below T8 (mkF m 67 #[rv a1, own_l (257 : Int64), .second, iv p3, iv (0 : Int32), iv (1 : Int32), rv kkR] [(.int e_0)]) t → own_S p e below s₁ f0 t := fun t k => R13 t (X8.iaload hx (j := (0 : Int32)) (v := (.int e_0)) (by rw [e8]; exact Ar14.1) (State.isArrayOf_alike hZ.alike Ar14.2.1) Ar14.2.2 hin14 hat14 (g := (mkF m 66 #[rv a1, own_l (257 : Int64), .second, iv p3, iv (0 : Int32), iv (1 : Int32), rv kkR] [(.int (0 : Int32)), (.ref enR)])) rfl rfl (hb hby d18_66) _ k)
  have R16 : ∀ t, own_S p e below T8 (mkF m 68 #[rv a1, own_l (257 : Int64), .second, iv p3, iv (0 : Int32), iv (1 : Int32), rv kkR] [(.int p3), (.int e_0)]) t → own_S p e below s₁ f0 t := fun t k => R15 t (by
    refine XS.iloadN X8.here hx rfl (hb hby d18_67) rfl  ?_
    exact k)
  by_cases hs1 : p3 < e_0
  · skip
    have R17 : ∀ t, own_S p e below T8 (mkF m 80 #[rv a1, own_l (257 : Int64), .second, iv p3, iv (0 : Int32), iv (1 : Int32), rv kkR] [(.int (0 : Int32)), (.ref saR)]) t → own_S p e below s₁ f0 t := fun t k => R16 t (by
      refine XS.icmpNo X8.here hx rfl (hb hby d18_68) rfl (tlt hs1).2.2.2 ?_
      refine XS.aload X8.here hx rfl (hb hby d18_71) rfl rfl ?_
      refine own_getFR X8 hx hZ hown (hU 126 _ rfl) e8 F_starts_kkR (g := (mkF m 73 #[rv a1, own_l (257 : Int64), .second, iv p3, iv (0 : Int32), iv (1 : Int32), rv kkR] [(.ref kkR)])) rfl rfl (hb hby d18_73) _ ?_
      refine XS.iload X8.here hx rfl (hb hby d18_76) rfl  ?_
      refine XS.iconst X8.here hx rfl (hb hby d18_78) ?_
      refine XS.isub X8.here hx rfl (hb hby d18_79) rfl ?_
      exact k)
    obtain ⟨cl18, Ar18, q18, S18, n18_, H18, G18⟩ := id A_saR
    have hin18 : ¬ ((0 : Int32) < 0 ∨ cl18.slots.size ≤ ((0 : Int32)).toNatClampNeg) := inb_of S18 ⟨by decide, by decide⟩
    have hat18 : cl18.slots[((0 : Int32)).toNatClampNeg]? = some (.int x0) := Has.at H18 hin18 rfl
    have R19 : ∀ t, own_S p e below T8 (mkF m 81 #[rv a1, own_l (257 : Int64), .second, iv p3, iv (0 : Int32), iv (1 : Int32), rv kkR] [(.int x0)]) t → own_S p e below s₁ f0 t := fun t k => R17 t (X8.iaload hx (j := (0 : Int32)) (v := (.int x0)) (by rw [e8]; exact Ar18.1) (State.isArrayOf_alike hZ.alike Ar18.2.1) Ar18.2.2 hin18 hat18 (g := (mkF m 80 #[rv a1, own_l (257 : Int64), .second, iv p3, iv (0 : Int32), iv (1 : Int32), rv kkR] [(.int (0 : Int32)), (.ref saR)])) rfl rfl (hb hby d18_80) _ k)
    have R20 : ∀ t, own_S p e below T8 (mkF m 85 #[rv a1, own_l (257 : Int64), .second, iv p3, iv (0 : Int32), iv (1 : Int32), rv kkR] [(.int x0)]) t → own_S p e below s₁ f0 t := fun t k => R19 t (by
      refine XS.goto X8.here hx rfl (pc0 := 81) (pc' := 85) rfl (hb hby d18_81) (by decide) (by decide) ?_
      exact k)
    obtain ⟨fs, hr, hrun, hended, hW, hsame⟩ := X8.leave (v := some (.int x0)) (fun h => by rw [Bd.returns] at h; cases h)
    refine ⟨_, _, pre0 _ (R20 _ ?_), hrun, hended, _, _, rfl, ?_, ⟨_, rfl⟩, hW, hsame.mono (by decide) (by decide)⟩
    · show own_S p e below T8 (mkF m 85 #[rv a1, own_l (257 : Int64), .second, iv p3, iv (0 : Int32), iv (1 : Int32), rv kkR] [(.int x0)]) _
      exact retI X8 hx Bd.returns (hb hby d18_85) hr
    · show Q_rmCt1_1 Z a1 p3 oR ckR kckR kkR saR kstR enR kenR x0 e_0 h0 n0 _ T8.heap _
      rw [e8]
      exact ⟨(by (try simp only [lw_gt, lw_lt, lw_eq] at hs1); simp [own_ct, hs1]), N0, rfl⟩
  · skip
    have R21 : ∀ t, own_S p e below T8 (mkF m 85 #[rv a1, own_l (257 : Int64), .second, iv p3, iv (0 : Int32), iv (1 : Int32), rv kkR] [(.int (-1 : Int32))]) t → own_S p e below s₁ f0 t := fun t k => R16 t (by
      refine XS.icmpYes X8.here hx rfl (pc0 := 68) (pc' := 84) rfl (hb hby d18_68) rfl (flt hs1).2.2.2 (by decide) (by decide) ?_
      refine XS.iconst X8.here hx rfl (hb hby d18_84) ?_
      exact k)
    obtain ⟨fs, hr, hrun, hended, hW, hsame⟩ := X8.leave (v := some (.int (-1 : Int32))) (fun h => by rw [Bd.returns] at h; cases h)
    refine ⟨_, _, pre0 _ (R21 _ ?_), hrun, hended, _, _, rfl, ?_, ⟨_, rfl⟩, hW, hsame.mono (by decide) (by decide)⟩
    · show own_S p e below T8 (mkF m 85 #[rv a1, own_l (257 : Int64), .second, iv p3, iv (0 : Int32), iv (1 : Int32), rv kkR] [(.int (-1 : Int32))]) _
      exact retI X8 hx Bd.returns (hb hby d18_85) hr
    · show Q_rmCt1_1 Z a1 p3 oR ckR kckR kkR saR kstR enR kenR x0 e_0 h0 n0 _ T8.heap _
      rw [e8]
      exact ⟨(by (try simp only [lw_gt, lw_lt, lw_eq] at hs1); simp [own_ct, hs1]), N0, rfl⟩
theorem ef_rmRc256_2 (m : MethodId) (x0 : Int32) (x1 : Int32) (x2 : Int32) : entryFrame m #[(.int x0), (.int x1), (.int x2)] 3 = mkF m 0 #[iv x0, iv x1, iv x2] [] := by first | (simp [entryFrame, mkF, argsToLocals, Value.category]; done) | rfl
def Q_rmRc256_2 (Z : State)  (h0 : Heap) (n0 : Nat) (v : Option Value) (h : Heap) (L : List Loc) : Prop := v = none ∧ Fr n0 L ∧ h = h0
set_option maxRecDepth 65536 in
set_option maxHeartbeats 40000000 in
theorem rmRc256_2 (l : Launch) (Z : State) (a0 : Array Value) (hw : ∀ d ∈ tables_1, d.before a0 Z = true) (ws : List Jvm.Cond)  (h0 : Heap) (n0 : Nat) (Z0 : n0 ≤ h0.size) :
    own_M l (⟨"java/util/Arrays", "rangeCheck", "(III)V"⟩ : MethodName) (Jvm.Cond.code (⟨"java/util/Arrays", "rangeCheck", "(III)V"⟩ : MethodName) jdk_65_method_30_code 3 none :: ws) ({ frames := 0, cells := 0, slots := 0, locals := 0 } : Room) #[(.int (256 : Int32)), (.int (0 : Int32)), (.int (2 : Int32))] Z h0 (Q_rmRc256_2 Z  h0 n0) := by
  refine MetFree.of_bodySF (plainFor_of_name pn_7) hisR ?_
  intro p e s m args below meth c s₁ Bd hml0 hP hK
  obtain ⟨rfl, hZ, hh⟩ := hP
  have hx := Bd.exec
  have hby := Bd.bytes
  have hml : c.maxLocals = 3 := hml0
  have hown : s.vm.findClass "java/util/Arrays" = some m.cls := findClass_of_methodNamed Bd.named
  have hnm := (name_of_methodNamed Bd.named Bd.method).1
  have X0 : Stand p l e ({ frames := 0, cells := 0, slots := 0, locals := 0 } : Room) s m #[(.int (256 : Int32)), (.int (0 : Int32)), (.int (2 : Int32))] below meth c s₁ [] 0 0 := Stand.of_body Bd
  have hU : ∀ (i : Nat) (d : Jvm.Cond), tables_1[i]? = some d → d.before a0 Z = true := fun i d h => hw d (List.mem_of_getElem? h)
  have e0 : s₁.heap = h0 := by rw [← hh, Bd.state]; rfl
  have N0 := Fr.nil n0
  obtain ⟨f0, hf0⟩ : ∃ f : JFrame, f = mkF m 0 #[iv (256 : Int32), iv (0 : Int32), iv (2 : Int32)] [] := ⟨_, rfl⟩
  have pre0 : ∀ t, own_S p e below s₁ f0 t → Steps p.tables e below (s₁.setTop (entryFrame m #[(.int (256 : Int32)), (.int (0 : Int32)), (.int (2 : Int32))] 3)) t := fun t k => castTop ((ef_rmRc256_2 m (256 : Int32) (0 : Int32) (2 : Int32)).trans hf0.symm) k
  have R0 : ∀ t, own_S p e below s₁ (mkF m 0 #[iv (256 : Int32), iv (0 : Int32), iv (2 : Int32)] []) t → own_S p e below s₁ f0 t := by rw [hf0]; exact fun t k => k
  have R1 : ∀ t, own_S p e below s₁ (mkF m 73 #[iv (256 : Int32), iv (0 : Int32), iv (2 : Int32)] []) t → own_S p e below s₁ f0 t := fun t k => R0 t (by
    refine XS.iloadN X0.here hx rfl (hb hby d12_0) rfl  ?_
    refine XS.iloadN X0.here hx rfl (hb hby d12_1) rfl  ?_
    refine XS.icmpYes X0.here hx rfl (pc0 := 2) (pc' := 46) rfl (hb hby d12_2) rfl (flt (by decide : ¬ ((2 : Int32) < (0 : Int32)))).2.2.2 (by decide) (by decide) ?_
    refine XS.iloadN X0.here hx rfl (hb hby d12_46) rfl  ?_
    refine XS.ifYes X0.here hx rfl (pc0 := 47) (pc' := 59) rfl (hb hby d12_47) rfl ((if0 _ _).trans (flt (by decide : ¬ ((0 : Int32) < (0 : Int32)))).2.1) (by decide) (by decide) ?_
    refine XS.iloadN X0.here hx rfl (hb hby d12_59) rfl  ?_
    show own_S p e below s₁ (mkF m 60 #[iv (256 : Int32), iv (0 : Int32), iv (2 : Int32)] [(.int (2 : Int32))]) _
    refine XS.iloadN X0.here hx rfl (hb hby d12_60) rfl  ?_
    refine XS.icmpYes X0.here hx rfl (pc0 := 61) (pc' := 73) rfl (hb hby d12_61) rfl (flt (by decide : ¬ ((256 : Int32) < (2 : Int32)))).2.2.2 (by decide) (by decide) ?_
    exact k)
  obtain ⟨fs, hr, hrun, hended, hW, hsame⟩ := X0.leave (v := none) (fun _ => rfl)
  refine ⟨_, _, pre0 _ (R1 _ ?_), hrun, hended, _, _, rfl, ?_, ⟨_, rfl⟩, hW, hsame.mono (by decide) (by decide)⟩
  · show own_S p e below s₁ (mkF m 73 #[iv (256 : Int32), iv (0 : Int32), iv (2 : Int32)] []) _
    exact X0.returnOut hx Bd.returns (hb hby d12_73) hr
  · show Q_rmRc256_2 Z  h0 n0 _ s₁.heap _
    rw [e0]
    exact ⟨rfl, N0, rfl⟩
theorem ef_rmBz256_2_0_3 (m : MethodId) (x0 : Addr) (x1 : Int32) (x2 : Int32) (x3 : Int32) : entryFrame m #[(.ref x0), (.int x1), (.int x2), (.int x3)] 8 = mkF m 0 #[rv x0, iv x1, iv x2, iv x3, .unset, .unset, .unset, .unset] [] := by first | (simp [entryFrame, mkF, argsToLocals, Value.category]; done) | rfl
def Q_rmBz256_2_0_3 (Z : State) (a1 : Addr) (p4 : Int32) (k1 : ClassId) (x0 : Int32) (x1 : Int32) (x2 : Int32) (h0 : Heap) (n0 : Nat) (v : Option Value) (h : Heap) (L : List Loc) : Prop := v = some (.int (-1 : Int32)) ∧ Fr n0 L ∧ h = h0
set_option maxRecDepth 65536 in
set_option maxHeartbeats 40000000 in
theorem rmBz256_2_0_3 (l : Launch) (Z : State) (a0 : Array Value) (hw : ∀ d ∈ tables_1, d.before a0 Z = true) (ws : List Jvm.Cond) (a1 : Addr) (p4 : Int32) (k1 : ClassId) (x0 : Int32) (x1 : Int32) (x2 : Int32) (h0 : Heap) (n0 : Nat) (Z0 : n0 ≤ h0.size) (A_a1 : Arv Z h0 a1 k1 .int (256 : Int32) [(.int x0), (.int x1), (.int x2)] (.int (0 : Int32))) (ho0 : p4 < x0) (ho1 : p4 < x1) :
    own_M l (⟨"java/util/Arrays", "binarySearch0", "([IIII)I"⟩ : MethodName) (Jvm.Cond.code (⟨"java/util/Arrays", "binarySearch0", "([IIII)I"⟩ : MethodName) jdk_65_method_59_code 8 (some .int) :: ws) ({ frames := 0, cells := 0, slots := 0, locals := 0 } : Room) #[(.ref a1), (.int (0 : Int32)), (.int (2 : Int32)), (.int p4)] Z h0 (Q_rmBz256_2_0_3 Z a1 p4 k1 x0 x1 x2 h0 n0) := by
  refine MetFree.of_bodySF (plainFor_of_name pn_7) hisR ?_
  intro p e s m args below meth c s₁ Bd hml0 hP hK
  obtain ⟨rfl, hZ, hh⟩ := hP
  have hx := Bd.exec
  have hby := Bd.bytes
  have hml : c.maxLocals = 8 := hml0
  have hown : s.vm.findClass "java/util/Arrays" = some m.cls := findClass_of_methodNamed Bd.named
  have hnm := (name_of_methodNamed Bd.named Bd.method).1
  have X0 : Stand p l e ({ frames := 0, cells := 0, slots := 0, locals := 0 } : Room) s m #[(.ref a1), (.int (0 : Int32)), (.int (2 : Int32)), (.int p4)] below meth c s₁ [] 0 0 := Stand.of_body Bd
  have hU : ∀ (i : Nat) (d : Jvm.Cond), tables_1[i]? = some d → d.before a0 Z = true := fun i d h => hw d (List.mem_of_getElem? h)
  have e0 : s₁.heap = h0 := by rw [← hh, Bd.state]; rfl
  have N0 := Fr.nil n0
  obtain ⟨f0, hf0⟩ : ∃ f : JFrame, f = mkF m 0 #[rv a1, iv (0 : Int32), iv (2 : Int32), iv p4, .unset, .unset, .unset, .unset] [] := ⟨_, rfl⟩
  have pre0 : ∀ t, own_S p e below s₁ f0 t → Steps p.tables e below (s₁.setTop (entryFrame m #[(.ref a1), (.int (0 : Int32)), (.int (2 : Int32)), (.int p4)] 8)) t := fun t k => castTop ((ef_rmBz256_2_0_3 m a1 (0 : Int32) (2 : Int32) p4).trans hf0.symm) k
  have R0 : ∀ t, own_S p e below s₁ (mkF m 0 #[rv a1, iv (0 : Int32), iv (2 : Int32), iv p4, .unset, .unset, .unset, .unset] []) t → own_S p e below s₁ f0 t := by rw [hf0]; exact fun t k => k
  have R1 : ∀ t, own_S p e below s₁ (mkF m 22 #[rv a1, iv (0 : Int32), iv (2 : Int32), iv p4, iv (0 : Int32), iv (1 : Int32), .unset, .unset] [(.int (((1 : Int32).toUInt32 >>> ((1 : Int32) &&& 31).toUInt32).toInt32))]) t → own_S p e below s₁ f0 t := fun t k => R0 t (by
    refine XS.iloadN X0.here hx rfl (hb hby d13_0) rfl  ?_
    refine XS.istore X0.here hx rfl (hb hby d13_1) rfl (l' := #[rv a1, iv (0 : Int32), iv (2 : Int32), iv p4, iv (0 : Int32), .unset, .unset, .unset]) rfl ?_
    refine XS.iloadN X0.here hx rfl (hb hby d13_3) rfl  ?_
    refine XS.iconst X0.here hx rfl (hb hby d13_4) ?_
    refine XS.isub X0.here hx rfl (hb hby d13_5) rfl ?_
    refine XS.istore X0.here hx rfl (hb hby d13_6) rfl (l' := #[rv a1, iv (0 : Int32), iv (2 : Int32), iv p4, iv (0 : Int32), iv (1 : Int32), .unset, .unset]) rfl ?_
    show own_S p e below s₁ (mkF m 8 #[rv a1, iv (0 : Int32), iv (2 : Int32), iv p4, iv (0 : Int32), iv (1 : Int32), .unset, .unset] []) _
    refine XS.iload X0.here hx rfl (hb hby d13_8) rfl  ?_
    refine XS.iload X0.here hx rfl (hb hby d13_10) rfl  ?_
    refine XS.icmpNo X0.here hx rfl (hb hby d13_12) rfl (flt (by decide : ¬ ((1 : Int32) < (0 : Int32)))).2.2.1 ?_
    refine XS.iload X0.here hx rfl (hb hby d13_15) rfl  ?_
    refine XS.iload X0.here hx rfl (hb hby d13_17) rfl  ?_
    refine XS.iadd X0.here hx rfl (hb hby d13_19) rfl ?_
    show own_S p e below s₁ (mkF m 20 #[rv a1, iv (0 : Int32), iv (2 : Int32), iv p4, iv (0 : Int32), iv (1 : Int32), .unset, .unset] [(.int (1 : Int32))]) _
    refine XS.iconst X0.here hx rfl (hb hby d13_20) ?_
    refine XS.iushr X0.here hx rfl (hb hby d13_21) rfl ?_
    exact k)
  have R2 : ∀ t, own_S p e below s₁ (mkF m 22 #[rv a1, iv (0 : Int32), iv (2 : Int32), iv p4, iv (0 : Int32), iv (1 : Int32), .unset, .unset] [(.int (0 : Int32))]) t → own_S p e below s₁ f0 t := by have q := R1; rw [((by decide) : (((1 : Int32).toUInt32 >>> ((1 : Int32) &&& 31).toUInt32).toInt32) = (0 : Int32))] at q; exact q
  have R3 : ∀ t, own_S p e below s₁ (mkF m 27 #[rv a1, iv (0 : Int32), iv (2 : Int32), iv p4, iv (0 : Int32), iv (1 : Int32), iv (0 : Int32), .unset] [(.int (0 : Int32)), (.ref a1)]) t → own_S p e below s₁ f0 t := fun t k => R2 t (by
    refine XS.istore X0.here hx rfl (hb hby d13_22) rfl (l' := #[rv a1, iv (0 : Int32), iv (2 : Int32), iv p4, iv (0 : Int32), iv (1 : Int32), iv (0 : Int32), .unset]) rfl ?_
    refine XS.aloadN X0.here hx rfl (hb hby d13_24) rfl rfl ?_
    refine XS.iload X0.here hx rfl (hb hby d13_25) rfl  ?_
    exact k)
  obtain ⟨cl4, Ar4, q4, S4, n4_, H4, G4⟩ := id A_a1
  have hin4 : ¬ ((0 : Int32) < 0 ∨ cl4.slots.size ≤ ((0 : Int32)).toNatClampNeg) := inb_of S4 ⟨by decide, by decide⟩
  have hat4 : cl4.slots[((0 : Int32)).toNatClampNeg]? = some (.int x0) := Has.at H4 hin4 rfl
  have R5 : ∀ t, own_S p e below s₁ (mkF m 28 #[rv a1, iv (0 : Int32), iv (2 : Int32), iv p4, iv (0 : Int32), iv (1 : Int32), iv (0 : Int32), .unset] [(.int x0)]) t → own_S p e below s₁ f0 t := fun t k => R3 t (X0.iaload hx (j := (0 : Int32)) (v := (.int x0)) (by rw [e0]; exact Ar4.1) (State.isArrayOf_alike hZ.alike Ar4.2.1) Ar4.2.2 hin4 hat4 (g := (mkF m 27 #[rv a1, iv (0 : Int32), iv (2 : Int32), iv p4, iv (0 : Int32), iv (1 : Int32), iv (0 : Int32), .unset] [(.int (0 : Int32)), (.ref a1)])) rfl rfl (hb hby d13_27) _ k)
  have R6 : ∀ t, own_S p e below s₁ (mkF m 71 #[rv a1, iv (0 : Int32), iv (2 : Int32), iv p4, iv (0 : Int32), iv (-1 : Int32), iv (0 : Int32), iv x0] [(.int (-(1 : Int32)))]) t → own_S p e below s₁ f0 t := fun t k => R5 t (by
    refine XS.istore X0.here hx rfl (hb hby d13_28) rfl (l' := #[rv a1, iv (0 : Int32), iv (2 : Int32), iv p4, iv (0 : Int32), iv (1 : Int32), iv (0 : Int32), iv x0]) rfl ?_
    refine XS.iload X0.here hx rfl (hb hby d13_30) rfl  ?_
    refine XS.iloadN X0.here hx rfl (hb hby d13_32) rfl  ?_
    refine XS.icmpYes X0.here hx rfl (pc0 := 33) (pc' := 45) rfl (hb hby d13_33) rfl (flt (own_asym ho0)).2.1 (by decide) (by decide) ?_
    refine XS.iload X0.here hx rfl (hb hby d13_45) rfl  ?_
    refine XS.iloadN X0.here hx rfl (hb hby d13_47) rfl  ?_
    show own_S p e below s₁ (mkF m 48 #[rv a1, iv (0 : Int32), iv (2 : Int32), iv p4, iv (0 : Int32), iv (1 : Int32), iv (0 : Int32), iv x0] [(.int p4), (.int x0)]) _
    refine XS.icmpNo X0.here hx rfl (hb hby d13_48) rfl (tlt ho0).2.2.2 ?_
    refine XS.iload X0.here hx rfl (hb hby d13_51) rfl  ?_
    refine XS.iconst X0.here hx rfl (hb hby d13_53) ?_
    refine XS.isub X0.here hx rfl (hb hby d13_54) rfl ?_
    refine XS.istore X0.here hx rfl (hb hby d13_55) rfl (l' := #[rv a1, iv (0 : Int32), iv (2 : Int32), iv p4, iv (0 : Int32), iv (-1 : Int32), iv (0 : Int32), iv x0]) rfl ?_
    refine XS.goto X0.here hx rfl (pc0 := 57) (pc' := 63) rfl (hb hby d13_57) (by decide) (by decide) ?_
    show own_S p e below s₁ (mkF m 63 #[rv a1, iv (0 : Int32), iv (2 : Int32), iv p4, iv (0 : Int32), iv (-1 : Int32), iv (0 : Int32), iv x0] []) _
    refine XS.goto X0.here hx rfl (pc0 := 63) (pc' := 8) rfl (hb hby d13_63) (by decide) (by decide) ?_
    refine XS.iload X0.here hx rfl (hb hby d13_8) rfl  ?_
    refine XS.iload X0.here hx rfl (hb hby d13_10) rfl  ?_
    refine XS.icmpYes X0.here hx rfl (pc0 := 12) (pc' := 66) rfl (hb hby d13_12) rfl (tlt (by decide : (-1 : Int32) < (0 : Int32))).2.2.1 (by decide) (by decide) ?_
    refine XS.iload X0.here hx rfl (hb hby d13_66) rfl  ?_
    refine XS.iconst X0.here hx rfl (hb hby d13_68) ?_
    show own_S p e below s₁ (mkF m 69 #[rv a1, iv (0 : Int32), iv (2 : Int32), iv p4, iv (0 : Int32), iv (-1 : Int32), iv (0 : Int32), iv x0] [(.int (1 : Int32)), (.int (0 : Int32))]) _
    refine XS.iadd X0.here hx rfl (hb hby d13_69) rfl ?_
    refine XS.ineg X0.here hx rfl (hb hby d13_70) rfl ?_
    exact k)
  have R7 : ∀ t, own_S p e below s₁ (mkF m 71 #[rv a1, iv (0 : Int32), iv (2 : Int32), iv p4, iv (0 : Int32), iv (-1 : Int32), iv (0 : Int32), iv x0] [(.int (-1 : Int32))]) t → own_S p e below s₁ f0 t := by have q := R6; rw [((by decide) : (-(1 : Int32)) = (-1 : Int32))] at q; exact q
  obtain ⟨fs, hr, hrun, hended, hW, hsame⟩ := X0.leave (v := some (.int (-1 : Int32))) (fun h => by rw [Bd.returns] at h; cases h)
  refine ⟨_, _, pre0 _ (R7 _ ?_), hrun, hended, _, _, rfl, ?_, ⟨_, rfl⟩, hW, hsame.mono (by decide) (by decide)⟩
  · show own_S p e below s₁ (mkF m 71 #[rv a1, iv (0 : Int32), iv (2 : Int32), iv p4, iv (0 : Int32), iv (-1 : Int32), iv (0 : Int32), iv x0] [(.int (-1 : Int32))]) _
    exact retI X0 hx Bd.returns (hb hby d13_71) hr
  · show Q_rmBz256_2_0_3 Z a1 p4 k1 x0 x1 x2 h0 n0 _ s₁.heap _
    rw [e0]
    exact ⟨rfl, N0, rfl⟩
theorem ef_rmBs256_2_0_3 (m : MethodId) (x0 : Addr) (x1 : Int32) (x2 : Int32) (x3 : Int32) : entryFrame m #[(.ref x0), (.int x1), (.int x2), (.int x3)] 4 = mkF m 0 #[rv x0, iv x1, iv x2, iv x3] [] := by first | (simp [entryFrame, mkF, argsToLocals, Value.category]; done) | rfl
def Q_rmBs256_2_0_3 (Z : State) (a1 : Addr) (p4 : Int32) (k1 : ClassId) (x0 : Int32) (x1 : Int32) (x2 : Int32) (h0 : Heap) (n0 : Nat) (v : Option Value) (h : Heap) (L : List Loc) : Prop := v = some (.int (-1 : Int32)) ∧ Fr n0 L ∧ h = h0
set_option maxRecDepth 65536 in
set_option maxHeartbeats 40000000 in
theorem rmBs256_2_0_3 (l : Launch) (Z : State) (a0 : Array Value) (hw : ∀ d ∈ tables_1, d.before a0 Z = true) (ws : List Jvm.Cond) (a1 : Addr) (p4 : Int32) (k1 : ClassId) (x0 : Int32) (x1 : Int32) (x2 : Int32) (h0 : Heap) (n0 : Nat) (Z0 : n0 ≤ h0.size) (A_a1 : Arv Z h0 a1 k1 .int (256 : Int32) [(.int x0), (.int x1), (.int x2)] (.int (0 : Int32))) (ho0 : p4 < x0) (ho1 : p4 < x1) :
    own_M l (⟨"java/util/Arrays", "binarySearch", "([IIII)I"⟩ : MethodName) (Jvm.Cond.code (⟨"java/util/Arrays", "binarySearch", "([IIII)I"⟩ : MethodName) jdk_65_method_58_code 4 (some .int) :: ws) ({ frames := 1, cells := 0, slots := 0, locals := 19 } : Room) #[(.ref a1), (.int (0 : Int32)), (.int (2 : Int32)), (.int p4)] Z h0 (Q_rmBs256_2_0_3 Z a1 p4 k1 x0 x1 x2 h0 n0) := by
  refine MetFree.of_bodySF (plainFor_of_name pn_7) hisR ?_
  intro p e s m args below meth c s₁ Bd hml0 hP hK
  obtain ⟨rfl, hZ, hh⟩ := hP
  have hx := Bd.exec
  have hby := Bd.bytes
  have hml : c.maxLocals = 4 := hml0
  have hown : s.vm.findClass "java/util/Arrays" = some m.cls := findClass_of_methodNamed Bd.named
  have hnm := (name_of_methodNamed Bd.named Bd.method).1
  have X0 : Stand p l e ({ frames := 1, cells := 0, slots := 0, locals := 19 } : Room) s m #[(.ref a1), (.int (0 : Int32)), (.int (2 : Int32)), (.int p4)] below meth c s₁ [] 0 0 := Stand.of_body Bd
  have hU : ∀ (i : Nat) (d : Jvm.Cond), tables_1[i]? = some d → d.before a0 Z = true := fun i d h => hw d (List.mem_of_getElem? h)
  have e0 : s₁.heap = h0 := by rw [← hh, Bd.state]; rfl
  have N0 := Fr.nil n0
  obtain ⟨f0, hf0⟩ : ∃ f : JFrame, f = mkF m 0 #[rv a1, iv (0 : Int32), iv (2 : Int32), iv p4] [] := ⟨_, rfl⟩
  have pre0 : ∀ t, own_S p e below s₁ f0 t → Steps p.tables e below (s₁.setTop (entryFrame m #[(.ref a1), (.int (0 : Int32)), (.int (2 : Int32)), (.int p4)] 4)) t := fun t k => castTop ((ef_rmBs256_2_0_3 m a1 (0 : Int32) (2 : Int32) p4).trans hf0.symm) k
  have R0 : ∀ t, own_S p e below s₁ (mkF m 0 #[rv a1, iv (0 : Int32), iv (2 : Int32), iv p4] []) t → own_S p e below s₁ f0 t := by rw [hf0]; exact fun t k => k
  have R1 : ∀ t, own_S p e below s₁ (mkF m 1 #[rv a1, iv (0 : Int32), iv (2 : Int32), iv p4] [(.ref a1)]) t → own_S p e below s₁ f0 t := fun t k => R0 t (by
    refine XS.aloadN X0.here hx rfl (hb hby d11_0) rfl rfl ?_
    exact k)
  obtain ⟨cl2, Ar2, -, S2, N2_, -, -⟩ := id A_a1
  have R3 : ∀ t, own_S p e below s₁ (mkF m 2 #[rv a1, iv (0 : Int32), iv (2 : Int32), iv p4] [(.int (256 : Int32))]) t → own_S p e below s₁ f0 t := fun t k => R1 t (X0.arraylength hx (by rw [e0]; exact Ar2.1) (State.isArrayOf_alike hZ.alike Ar2.2.1) (g := (mkF m 1 #[rv a1, iv (0 : Int32), iv (2 : Int32), iv p4] [(.ref a1)])) rfl rfl (hb hby d11_1) _ (by rw [len_of S2 N2_]; exact k))
  have R4 : ∀ t, own_S p e below s₁ (mkF m 4 #[rv a1, iv (0 : Int32), iv (2 : Int32), iv p4] [(.int (2 : Int32)), (.int (0 : Int32)), (.int (256 : Int32))]) t → own_S p e below s₁ f0 t := fun t k => R3 t (by
    refine XS.iloadN X0.here hx rfl (hb hby d11_2) rfl  ?_
    refine XS.iloadN X0.here hx rfl (hb hby d11_3) rfl  ?_
    exact k)
  obtain ⟨_, _, ⟨T5, L5, k5, n5⟩, -, X5, ⟨Lc5, hQ5, l5, y5, z5⟩, st5⟩ := Jvm.LawKit.callS X0 hx (y := (⟨"java/util/Arrays", "rangeCheck", "(III)V"⟩ : MethodName)) hown (mvT hZ (hU 91 _ rfl)) (mvT hZ (hU 92 _ rfl)) (mvT hZ (hU 89 _ rfl)) (mvT hZ (hU 93 _ rfl)) (by decide) (backOf (W := 0) (rmRc256_2 l Z a0 hw []  h0 n0 Z0) hZ (hU 93 _ rfl) (hU 89 _ rfl) (by decide) (by decide)) (g := (mkF m 4 #[rv a1, iv (0 : Int32), iv (2 : Int32), iv p4] [(.int (2 : Int32)), (.int (0 : Int32)), (.int (256 : Int32))])) rfl (by rw [hml]; rfl) (argsL := [(.int (256 : Int32)), (.int (0 : Int32)), (.int (2 : Int32))]) (rest := []) (lenOf pd_8 rfl) rfl (Nat.le_of_eq rfl) (hb hby d11_4) (fun _ _ => ⟨rfl, e0, (by decide : 0 + 0 ≤ _), (by decide : 0 + 0 ≤ _)⟩)
  dsimp only [Pt.U, Pt.locs, Pt.cells, Pt.slots] at X5 l5 y5 z5 st5 hQ5
  subst l5 y5 z5
  obtain ⟨rfl, N5q, p5_0⟩ := hQ5
  have N5 := Fr.app N0 N5q
  have R6 := fun t k => R4 t (st5 t k)
  have R7 : ∀ t, own_S p e below T5 (mkF m 11 #[rv a1, iv (0 : Int32), iv (2 : Int32), iv p4] [(.int p4), (.int (2 : Int32)), (.int (0 : Int32)), (.ref a1)]) t → own_S p e below s₁ f0 t := fun t k => R6 t (by
    refine XS.aloadN X5.here hx rfl (hb hby d11_7) rfl rfl ?_
    refine XS.iloadN X5.here hx rfl (hb hby d11_8) rfl  ?_
    refine XS.iloadN X5.here hx rfl (hb hby d11_9) rfl  ?_
    refine XS.iloadN X5.here hx rfl (hb hby d11_10) rfl  ?_
    exact k)
  obtain ⟨_, _, ⟨T8, L8, k8, n8⟩, -, X8, ⟨Lc8, hQ8, l8, y8, z8⟩, st8⟩ := Jvm.LawKit.callS X5 hx (y := (⟨"java/util/Arrays", "binarySearch0", "([IIII)I"⟩ : MethodName)) hown (mvT hZ (hU 94 _ rfl)) (mvT hZ (hU 95 _ rfl)) (mvT hZ (hU 89 _ rfl)) (mvT hZ (hU 96 _ rfl)) (by decide) (backOf (W := 0) (rmBz256_2_0_3 l Z a0 hw [] a1 p4 k1 x0 x1 x2 h0 n0 Z0 A_a1 ho0 ho1) hZ (hU 96 _ rfl) (hU 89 _ rfl) (by decide) (by decide)) (g := (mkF m 11 #[rv a1, iv (0 : Int32), iv (2 : Int32), iv p4] [(.int p4), (.int (2 : Int32)), (.int (0 : Int32)), (.ref a1)])) rfl (by rw [hml]; rfl) (argsL := [(.ref a1), (.int (0 : Int32)), (.int (2 : Int32)), (.int p4)]) (rest := []) (lenOf pd_9 rfl) rfl (Nat.le_of_eq rfl) (hb hby d11_11) (fun _ _ => ⟨rfl, p5_0, (by decide : 0 + 0 ≤ _), (by decide : 0 + 0 ≤ _)⟩)
  dsimp only [Pt.U, Pt.locs, Pt.cells, Pt.slots] at X8 l8 y8 z8 st8 hQ8
  subst l8 y8 z8
  obtain ⟨rfl, N8q, p8_0⟩ := hQ8
  have N8 := Fr.app N5 N8q
  have R9 := fun t k => R7 t (st8 t k)
  obtain ⟨fs, hr, hrun, hended, hW, hsame⟩ := X8.leave (v := some (.int (-1 : Int32))) (fun h => by rw [Bd.returns] at h; cases h)
  refine ⟨_, _, pre0 _ (R9 _ ?_), hrun, hended, _, _, rfl, ?_, ⟨_, rfl⟩, hW, hsame.mono (by decide) (by decide)⟩
  · show own_S p e below T8 (mkF m 14 #[rv a1, iv (0 : Int32), iv (2 : Int32), iv p4] [(.int (-1 : Int32))]) _
    exact retI X8 hx Bd.returns (hb hby d11_14) hr
  · show Q_rmBs256_2_0_3 Z a1 p4 k1 x0 x1 x2 h0 n0 _ T8.heap _
    rw [p8_0]
    exact ⟨rfl, N8, rfl⟩
theorem ef_rmFind2_0 (m : MethodId) (x0 : Addr) (x1 : Int32) : entryFrame m #[(.ref x0), (.int x1)] 6 = mkF m 0 #[rv x0, iv x1, .unset, .unset, .unset, .unset] [] := by first | (simp [entryFrame, mkF, argsToLocals, Value.category]; done) | rfl
def Q_rmFind2_0 (Z : State) (oR : Addr) (p2 : Int32) (ckR : Addr) (kckR : ClassId) (kkR : Addr) (x0 : Int32) (x1 : Int32) (saR : Addr) (kstR : ClassId) (fiR : Addr) (kfiR : ClassId) (h0 : Heap) (n0 : Nat) (v : Option Value) (h : Heap) (L : List Loc) : Prop := v = some (.long (256 : Int64)) ∧ Fr n0 L ∧ h = h0
set_option maxRecDepth 65536 in
set_option maxHeartbeats 40000000 in
theorem rmFind2_0 (l : Launch) (Z : State) (a0 : Array Value) (hw : ∀ d ∈ tables_1, d.before a0 Z = true) (ws : List Jvm.Cond) (oR : Addr) (p2 : Int32) (ckR : Addr) (kckR : ClassId) (kkR : Addr) (x0 : Int32) (x1 : Int32) (saR : Addr) (kstR : ClassId) (fiR : Addr) (kfiR : ClassId) (h0 : Heap) (n0 : Nat) (Z0 : n0 ≤ h0.size) (F_chunks_oR : Fld Z h0 oR sN0 "chunks" sN3 (.ref ckR)) (F_chunkCount_oR : Fld Z h0 oR sN0 "chunkCount" "I" (.int (1 : Int32))) (A_ckR : Arv Z h0 ckR kckR (.object sN1) (1 : Int32) [(.ref kkR)] .null) (F_size_kkR : Fld Z h0 kkR sN1 "size" "I" (.int (2 : Int32))) (F_starts_kkR : Fld Z h0 kkR sN1 "starts" "[I" (.ref saR)) (A_saR : Arv Z h0 saR kstR .int (256 : Int32) [(.int x0), (.int x1), (.int (0 : Int32))] (.int (0 : Int32))) (F_firsts_oR : Fld Z h0 oR sN0 "firsts" "[I" (.ref fiR)) (A_fiR : Arv Z h0 fiR kfiR .int (1 : Int32) [(.int x0)] (.int (0 : Int32))) (ho0 : p2 < x0) (ho1 : p2 < x1) :
    own_M l (⟨sN0, "find", "(I)J"⟩ : MethodName) (Jvm.Cond.code (⟨sN0, "find", "(I)J"⟩ : MethodName) prog_118_method_2_code 6 (some .long) :: ws) ({ frames := 2, cells := 0, slots := 0, locals := 34 } : Room) #[(.ref oR), (.int p2)] Z h0 (Q_rmFind2_0 Z oR p2 ckR kckR kkR x0 x1 saR kstR fiR kfiR h0 n0) := by
  refine MetFree.of_bodySF (plainFor_of_name pn_1) hisR ?_
  intro p e s m args below meth c s₁ Bd hml0 hP hK
  obtain ⟨rfl, hZ, hh⟩ := hP
  have hx := Bd.exec
  have hby := Bd.bytes
  have hml : c.maxLocals = 6 := hml0
  have hown : s.vm.findClass sN0 = some m.cls := findClass_of_methodNamed Bd.named
  have hnm := (name_of_methodNamed Bd.named Bd.method).1
  have X0 : Stand p l e ({ frames := 2, cells := 0, slots := 0, locals := 34 } : Room) s m #[(.ref oR), (.int p2)] below meth c s₁ [] 0 0 := Stand.of_body Bd
  have hU : ∀ (i : Nat) (d : Jvm.Cond), tables_1[i]? = some d → d.before a0 Z = true := fun i d h => hw d (List.mem_of_getElem? h)
  have e0 : s₁.heap = h0 := by rw [← hh, Bd.state]; rfl
  have N0 := Fr.nil n0
  obtain ⟨f0, hf0⟩ : ∃ f : JFrame, f = mkF m 0 #[rv oR, iv p2, .unset, .unset, .unset, .unset] [] := ⟨_, rfl⟩
  have pre0 : ∀ t, own_S p e below s₁ f0 t → Steps p.tables e below (s₁.setTop (entryFrame m #[(.ref oR), (.int p2)] 6)) t := fun t k => castTop ((ef_rmFind2_0 m oR p2).trans hf0.symm) k
  have R0 : ∀ t, own_S p e below s₁ (mkF m 0 #[rv oR, iv p2, .unset, .unset, .unset, .unset] []) t → own_S p e below s₁ f0 t := by rw [hf0]; exact fun t k => k
  have R1 : ∀ t, own_S p e below s₁ (mkF m 1 #[rv oR, iv p2, .unset, .unset, .unset, .unset] [(.ref oR)]) t → own_S p e below s₁ f0 t := fun t k => R0 t (by
    refine XS.aloadN X0.here hx rfl (hb hby d7_0) rfl rfl ?_
    exact k)
  obtain ⟨T2, X2, e2, st2⟩ := getF X0 hx hZ hown (host := "") (Or.inl (hU 43 _ rfl)) Via.refl e0 F_chunks_oR (g := (mkF m 1 #[rv oR, iv p2, .unset, .unset, .unset, .unset] [(.ref oR)])) rfl rfl (hb hby d7_1)
  have R3 := fun t k => R1 t (st2 t k)
  have R4 : ∀ t, own_S p e below T2 (mkF m 5 #[rv oR, iv p2, .unset, .unset, .unset, .unset] [(.ref oR), (.ref ckR)]) t → own_S p e below s₁ f0 t := fun t k => R3 t (by
    refine XS.aloadN X2.here hx rfl (hb hby d7_4) rfl rfl ?_
    exact k)
  obtain ⟨T5, X5, e5, st5⟩ := getF X2 hx hZ hown (host := "") (Or.inl (hU 22 _ rfl)) Via.refl e2 F_chunkCount_oR (g := (mkF m 5 #[rv oR, iv p2, .unset, .unset, .unset, .unset] [(.ref oR), (.ref ckR)])) rfl rfl (hb hby d7_5)
  have R6 := fun t k => R4 t (st5 t k)
  have R7 : ∀ t, own_S p e below T5 (mkF m 10 #[rv oR, iv p2, .unset, .unset, .unset, .unset] [(.int (0 : Int32)), (.ref ckR)]) t → own_S p e below s₁ f0 t := fun t k => R6 t (by
    refine XS.iconst X5.here hx rfl (hb hby d7_8) ?_
    refine XS.isub X5.here hx rfl (hb hby d7_9) rfl ?_
    exact k)
  obtain ⟨cl8, Ar8, q8, S8, n8_, H8, G8⟩ := id A_ckR
  have hin8 : ¬ ((0 : Int32) < 0 ∨ cl8.slots.size ≤ ((0 : Int32)).toNatClampNeg) := inb_of S8 ⟨by decide, by decide⟩
  have hat8 : cl8.slots[((0 : Int32)).toNatClampNeg]? = some (.ref kkR) := Has.at H8 hin8 rfl
  have R9 : ∀ t, own_S p e below T5 (mkF m 11 #[rv oR, iv p2, .unset, .unset, .unset, .unset] [(.ref kkR)]) t → own_S p e below s₁ f0 t := fun t k => R7 t (X5.aaload hx (j := (0 : Int32)) (v := (.ref kkR)) (by rw [e5]; exact Ar8.1) (State.isArrayOf_alike hZ.alike Ar8.2.1) rfl Ar8.2.2 hin8 hat8 (g := (mkF m 10 #[rv oR, iv p2, .unset, .unset, .unset, .unset] [(.int (0 : Int32)), (.ref ckR)])) rfl rfl (hb hby d7_10) _ k)
  have R10 : ∀ t, own_S p e below T5 (mkF m 13 #[rv oR, iv p2, rv kkR, .unset, .unset, .unset] [(.ref kkR)]) t → own_S p e below s₁ f0 t := fun t k => R9 t (by
    refine XS.astoreN X5.here hx rfl (hb hby d7_11) rfl rfl (l' := #[rv oR, iv p2, rv kkR, .unset, .unset, .unset]) rfl ?_
    refine XS.aloadN X5.here hx rfl (hb hby d7_12) rfl rfl ?_
    exact k)
  obtain ⟨T11, X11, e11, st11⟩ := getF X5 hx hZ hown (Or.inr (hU 66 _ rfl)) Via.refl e5 F_size_kkR (g := (mkF m 13 #[rv oR, iv p2, rv kkR, .unset, .unset, .unset] [(.ref kkR)])) rfl rfl (hb hby d7_13)
  have R12 := fun t k => R10 t (st11 t k)
  have R13 : ∀ t, own_S p e below T11 (mkF m 21 #[rv oR, iv p2, rv kkR, .unset, .unset, .unset] [(.ref kkR), (.int p2)]) t → own_S p e below s₁ f0 t := fun t k => R12 t (by
    refine XS.ifNo X11.here hx rfl (hb hby d7_16) rfl ((if0 _ _).trans (feq (by decide : ¬ ((2 : Int32) = (0 : Int32)))).1) ?_
    refine XS.iloadN X11.here hx rfl (hb hby d7_19) rfl  ?_
    refine XS.aloadN X11.here hx rfl (hb hby d7_20) rfl rfl ?_
    exact k)
  obtain ⟨T14, X14, e14, st14⟩ := getF X11 hx hZ hown (Or.inr (hU 83 _ rfl)) Via.refl e11 F_starts_kkR (g := (mkF m 21 #[rv oR, iv p2, rv kkR, .unset, .unset, .unset] [(.ref kkR), (.int p2)])) rfl rfl (hb hby d7_21)
  have R15 := fun t k => R13 t (st14 t k)
  have R16 : ∀ t, own_S p e below T14 (mkF m 25 #[rv oR, iv p2, rv kkR, .unset, .unset, .unset] [(.ref kkR), (.ref saR), (.int p2)]) t → own_S p e below s₁ f0 t := fun t k => R15 t (by
    refine XS.aloadN X14.here hx rfl (hb hby d7_24) rfl rfl ?_
    exact k)
  obtain ⟨T17, X17, e17, st17⟩ := getF X14 hx hZ hown (Or.inr (hU 66 _ rfl)) Via.refl e14 F_size_kkR (g := (mkF m 25 #[rv oR, iv p2, rv kkR, .unset, .unset, .unset] [(.ref kkR), (.ref saR), (.int p2)])) rfl rfl (hb hby d7_25)
  have R18 := fun t k => R16 t (st17 t k)
  have R19 : ∀ t, own_S p e below T17 (mkF m 30 #[rv oR, iv p2, rv kkR, .unset, .unset, .unset] [(.int (1 : Int32)), (.ref saR), (.int p2)]) t → own_S p e below s₁ f0 t := fun t k => R18 t (by
    refine XS.iconst X17.here hx rfl (hb hby d7_28) ?_
    refine XS.isub X17.here hx rfl (hb hby d7_29) rfl ?_
    exact k)
  obtain ⟨cl20, Ar20, q20, S20, n20_, H20, G20⟩ := id A_saR
  have hin20 : ¬ ((1 : Int32) < 0 ∨ cl20.slots.size ≤ ((1 : Int32)).toNatClampNeg) := inb_of S20 ⟨by decide, by decide⟩
  have hat20 : cl20.slots[((1 : Int32)).toNatClampNeg]? = some (.int x1) := Has.at H20 hin20 rfl
  have R21 : ∀ t, own_S p e below T17 (mkF m 31 #[rv oR, iv p2, rv kkR, .unset, .unset, .unset] [(.int x1), (.int p2)]) t → own_S p e below s₁ f0 t := fun t k => R19 t (X17.iaload hx (j := (1 : Int32)) (v := (.int x1)) (by rw [e17]; exact Ar20.1) (State.isArrayOf_alike hZ.alike Ar20.2.1) Ar20.2.2 hin20 hat20 (g := (mkF m 30 #[rv oR, iv p2, rv kkR, .unset, .unset, .unset] [(.int (1 : Int32)), (.ref saR), (.int p2)])) rfl rfl (hb hby d7_30) _ k)
  have R22 : ∀ t, own_S p e below T17 (mkF m 56 #[rv oR, iv p2, rv kkR, .unset, .unset, .unset] [(.ref oR)]) t → own_S p e below s₁ f0 t := fun t k => R21 t (by
    refine XS.icmpYes X17.here hx rfl (pc0 := 31) (pc' := 55) rfl (hb hby d7_31) rfl (flt (own_asym ho1)).2.2.2 (by decide) (by decide) ?_
    refine XS.aloadN X17.here hx rfl (hb hby d7_55) rfl rfl ?_
    exact k)
  obtain ⟨T23, X23, e23, st23⟩ := getF X17 hx hZ hown (host := "") (Or.inl (hU 20 _ rfl)) Via.refl e17 F_firsts_oR (g := (mkF m 56 #[rv oR, iv p2, rv kkR, .unset, .unset, .unset] [(.ref oR)])) rfl rfl (hb hby d7_56)
  have R24 := fun t k => R22 t (st23 t k)
  have R25 : ∀ t, own_S p e below T23 (mkF m 61 #[rv oR, iv p2, rv kkR, .unset, .unset, .unset] [(.ref oR), (.int (0 : Int32)), (.ref fiR)]) t → own_S p e below s₁ f0 t := fun t k => R24 t (by
    refine XS.iconst X23.here hx rfl (hb hby d7_59) ?_
    refine XS.aloadN X23.here hx rfl (hb hby d7_60) rfl rfl ?_
    exact k)
  obtain ⟨T26, X26, e26, st26⟩ := getF X23 hx hZ hown (host := "") (Or.inl (hU 22 _ rfl)) Via.refl e23 F_chunkCount_oR (g := (mkF m 61 #[rv oR, iv p2, rv kkR, .unset, .unset, .unset] [(.ref oR), (.int (0 : Int32)), (.ref fiR)])) rfl rfl (hb hby d7_61)
  have R27 := fun t k => R25 t (st26 t k)
  have R28 : ∀ t, own_S p e below T26 (mkF m 65 #[rv oR, iv p2, rv kkR, .unset, .unset, .unset] [(.int p2), (.int (1 : Int32)), (.int (0 : Int32)), (.ref fiR)]) t → own_S p e below s₁ f0 t := fun t k => R27 t (by
    refine XS.iloadN X26.here hx rfl (hb hby d7_64) rfl  ?_
    exact k)
  obtain ⟨_, _, ⟨T29, L29, k29, n29⟩, -, X29, ⟨Lc29, hQ29, l29, y29, z29⟩, st29⟩ := Jvm.LawKit.callS X26 hx (y := (⟨"java/util/Arrays", "binarySearch", "([IIII)I"⟩ : MethodName)) hown (mvT hZ (hU 87 _ rfl)) (mvT hZ (hU 88 _ rfl)) (mvT hZ (hU 89 _ rfl)) (mvT hZ (hU 90 _ rfl)) (by decide) (backOf (W := 0) (rmBs1_1_0_1 l Z a0 hw [] fiR p2 kfiR x0 h0 n0 Z0 A_fiR ho0) hZ (hU 90 _ rfl) (hU 89 _ rfl) (by decide) (by decide)) (g := (mkF m 65 #[rv oR, iv p2, rv kkR, .unset, .unset, .unset] [(.int p2), (.int (1 : Int32)), (.int (0 : Int32)), (.ref fiR)])) rfl (by rw [hml]; rfl) (argsL := [(.ref fiR), (.int (0 : Int32)), (.int (1 : Int32)), (.int p2)]) (rest := []) (lenOf pd_9 rfl) rfl (Nat.le_of_eq rfl) (hb hby d7_65) (fun _ _ => ⟨rfl, e26, (by decide : 0 + 0 ≤ _), (by decide : 0 + 0 ≤ _)⟩)
  dsimp only [Pt.U, Pt.locs, Pt.cells, Pt.slots] at X29 l29 y29 z29 st29 hQ29
  subst l29 y29 z29
  obtain ⟨rfl, N29q, p29_0⟩ := hQ29
  have N29 := Fr.app N0 N29q
  have R30 := fun t k => R28 t (st29 t k)
  have R31 : ∀ t, own_S p e below T29 (mkF m 76 #[rv oR, iv p2, rv kkR, iv (-1 : Int32), .unset, .unset] [(.int (-(-1 : Int32))), (.int (0 : Int32))]) t → own_S p e below s₁ f0 t := fun t k => R30 t (by
    refine XS.istoreN X29.here hx rfl (hb hby d7_68) rfl (l' := #[rv oR, iv p2, rv kkR, iv (-1 : Int32), .unset, .unset]) rfl ?_
    refine XS.iloadN X29.here hx rfl (hb hby d7_69) rfl  ?_
    refine XS.ifNo X29.here hx rfl (hb hby d7_70) rfl ((if0 _ _).trans (tlt (by decide : (-1 : Int32) < (0 : Int32))).2.1) ?_
    refine XS.iconst X29.here hx rfl (hb hby d7_73) ?_
    refine XS.iloadN X29.here hx rfl (hb hby d7_74) rfl  ?_
    refine XS.ineg X29.here hx rfl (hb hby d7_75) rfl ?_
    exact k)
  have R32 : ∀ t, own_S p e below T29 (mkF m 76 #[rv oR, iv p2, rv kkR, iv (-1 : Int32), .unset, .unset] [(.int (1 : Int32)), (.int (0 : Int32))]) t → own_S p e below s₁ f0 t := by have q := R31; rw [((by decide) : (-(-1 : Int32)) = (1 : Int32))] at q; exact q
  have R33 : ∀ t, own_S p e below T29 (mkF m 78 #[rv oR, iv p2, rv kkR, iv (-1 : Int32), .unset, .unset] [(.int (-1 : Int32)), (.int (0 : Int32))]) t → own_S p e below s₁ f0 t := fun t k => R32 t (by
    refine XS.iconst X29.here hx rfl (hb hby d7_76) ?_
    refine XS.isub X29.here hx rfl (hb hby d7_77) rfl ?_
    exact k)
  obtain ⟨_, _, ⟨T34, L34, k34, n34⟩, -, X34, ⟨Lc34, hQ34, l34, y34, z34⟩, st34⟩ := Jvm.LawKit.callS X29 hx (y := (⟨"java/lang/Math", "max", "(II)I"⟩ : MethodName)) hown (mvT hZ (hU 97 _ rfl)) (mvT hZ (hU 98 _ rfl)) (mvT hZ (hU 99 _ rfl)) (mvT hZ (hU 100 _ rfl)) (by decide) (backOf (W := 0) (rmMax_0_m1 l Z a0 hw []  h0 n0 Z0) hZ (hU 100 _ rfl) (hU 99 _ rfl) (by decide) (by decide)) (g := (mkF m 78 #[rv oR, iv p2, rv kkR, iv (-1 : Int32), .unset, .unset] [(.int (-1 : Int32)), (.int (0 : Int32))])) rfl (by rw [hml]; rfl) (argsL := [(.int (0 : Int32)), (.int (-1 : Int32))]) (rest := []) (lenOf pd_10 rfl) rfl (Nat.le_of_eq rfl) (hb hby d7_78) (fun _ _ => ⟨rfl, p29_0, (by decide : 0 + 0 ≤ _), (by decide : 0 + 0 ≤ _)⟩)
  dsimp only [Pt.U, Pt.locs, Pt.cells, Pt.slots] at X34 l34 y34 z34 st34 hQ34
  subst l34 y34 z34
  obtain ⟨rfl, N34q, p34_0⟩ := hQ34
  have N34 := Fr.app N29 N34q
  have R35 := fun t k => R33 t (st34 t k)
  have R36 : ∀ t, own_S p e below T34 (mkF m 83 #[rv oR, iv p2, rv kkR, iv (0 : Int32), .unset, .unset] [(.ref oR)]) t → own_S p e below s₁ f0 t := fun t k => R35 t (by
    refine XS.istoreN X34.here hx rfl (hb hby d7_81) rfl (l' := #[rv oR, iv p2, rv kkR, iv (0 : Int32), .unset, .unset]) rfl ?_
    refine XS.aloadN X34.here hx rfl (hb hby d7_82) rfl rfl ?_
    exact k)
  obtain ⟨T37, X37, e37, st37⟩ := getF X34 hx hZ hown (host := "") (Or.inl (hU 43 _ rfl)) Via.refl p34_0 F_chunks_oR (g := (mkF m 83 #[rv oR, iv p2, rv kkR, iv (0 : Int32), .unset, .unset] [(.ref oR)])) rfl rfl (hb hby d7_83)
  have R38 := fun t k => R36 t (st37 t k)
  have R39 : ∀ t, own_S p e below T37 (mkF m 87 #[rv oR, iv p2, rv kkR, iv (0 : Int32), .unset, .unset] [(.int (0 : Int32)), (.ref ckR)]) t → own_S p e below s₁ f0 t := fun t k => R38 t (by
    refine XS.iloadN X37.here hx rfl (hb hby d7_86) rfl  ?_
    exact k)
  obtain ⟨cl40, Ar40, q40, S40, n40_, H40, G40⟩ := id A_ckR
  have hin40 : ¬ ((0 : Int32) < 0 ∨ cl40.slots.size ≤ ((0 : Int32)).toNatClampNeg) := inb_of S40 ⟨by decide, by decide⟩
  have hat40 : cl40.slots[((0 : Int32)).toNatClampNeg]? = some (.ref kkR) := Has.at H40 hin40 rfl
  have R41 : ∀ t, own_S p e below T37 (mkF m 88 #[rv oR, iv p2, rv kkR, iv (0 : Int32), .unset, .unset] [(.ref kkR)]) t → own_S p e below s₁ f0 t := fun t k => R39 t (X37.aaload hx (j := (0 : Int32)) (v := (.ref kkR)) (by rw [e37]; exact Ar40.1) (State.isArrayOf_alike hZ.alike Ar40.2.1) rfl Ar40.2.2 hin40 hat40 (g := (mkF m 87 #[rv oR, iv p2, rv kkR, iv (0 : Int32), .unset, .unset] [(.int (0 : Int32)), (.ref ckR)])) rfl rfl (hb hby d7_87) _ k)
  have R42 : ∀ t, own_S p e below T37 (mkF m 92 #[rv oR, iv p2, rv kkR, iv (0 : Int32), rv kkR, .unset] [(.ref kkR)]) t → own_S p e below s₁ f0 t := fun t k => R41 t (by
    refine XS.astore X37.here hx rfl (hb hby d7_88) rfl rfl (l' := #[rv oR, iv p2, rv kkR, iv (0 : Int32), rv kkR, .unset]) rfl ?_
    refine XS.aload X37.here hx rfl (hb hby d7_90) rfl rfl ?_
    exact k)
  obtain ⟨T43, X43, e43, st43⟩ := getF X37 hx hZ hown (Or.inr (hU 83 _ rfl)) Via.refl e37 F_starts_kkR (g := (mkF m 92 #[rv oR, iv p2, rv kkR, iv (0 : Int32), rv kkR, .unset] [(.ref kkR)])) rfl rfl (hb hby d7_92)
  have R44 := fun t k => R42 t (st43 t k)
  have R45 : ∀ t, own_S p e below T43 (mkF m 98 #[rv oR, iv p2, rv kkR, iv (0 : Int32), rv kkR, .unset] [(.ref kkR), (.int (0 : Int32)), (.ref saR)]) t → own_S p e below s₁ f0 t := fun t k => R44 t (by
    refine XS.iconst X43.here hx rfl (hb hby d7_95) ?_
    refine XS.aload X43.here hx rfl (hb hby d7_96) rfl rfl ?_
    exact k)
  obtain ⟨T46, X46, e46, st46⟩ := getF X43 hx hZ hown (Or.inr (hU 66 _ rfl)) Via.refl e43 F_size_kkR (g := (mkF m 98 #[rv oR, iv p2, rv kkR, iv (0 : Int32), rv kkR, .unset] [(.ref kkR), (.int (0 : Int32)), (.ref saR)])) rfl rfl (hb hby d7_98)
  have R47 := fun t k => R45 t (st46 t k)
  have R48 : ∀ t, own_S p e below T46 (mkF m 102 #[rv oR, iv p2, rv kkR, iv (0 : Int32), rv kkR, .unset] [(.int p2), (.int (2 : Int32)), (.int (0 : Int32)), (.ref saR)]) t → own_S p e below s₁ f0 t := fun t k => R47 t (by
    refine XS.iloadN X46.here hx rfl (hb hby d7_101) rfl  ?_
    exact k)
  obtain ⟨_, _, ⟨T49, L49, k49, n49⟩, -, X49, ⟨Lc49, hQ49, l49, y49, z49⟩, st49⟩ := Jvm.LawKit.callS X46 hx (y := (⟨"java/util/Arrays", "binarySearch", "([IIII)I"⟩ : MethodName)) hown (mvT hZ (hU 87 _ rfl)) (mvT hZ (hU 88 _ rfl)) (mvT hZ (hU 89 _ rfl)) (mvT hZ (hU 90 _ rfl)) (by decide) (backOf (W := 0) (rmBs256_2_0_3 l Z a0 hw [] saR p2 kstR x0 x1 (0 : Int32) h0 n0 Z0 A_saR ho0 ho1) hZ (hU 90 _ rfl) (hU 89 _ rfl) (by decide) (by decide)) (g := (mkF m 102 #[rv oR, iv p2, rv kkR, iv (0 : Int32), rv kkR, .unset] [(.int p2), (.int (2 : Int32)), (.int (0 : Int32)), (.ref saR)])) rfl (by rw [hml]; rfl) (argsL := [(.ref saR), (.int (0 : Int32)), (.int (2 : Int32)), (.int p2)]) (rest := []) (lenOf pd_9 rfl) rfl (Nat.le_of_eq rfl) (hb hby d7_102) (fun _ _ => ⟨rfl, e46, (by decide : 0 + 0 ≤ _), (by decide : 0 + 0 ≤ _)⟩)
  dsimp only [Pt.U, Pt.locs, Pt.cells, Pt.slots] at X49 l49 y49 z49 st49 hQ49
  subst l49 y49 z49
  obtain ⟨rfl, N49q, p49_0⟩ := hQ49
  have N49 := Fr.app N34 N49q
  have R50 := fun t k => R48 t (st49 t k)
  have R51 : ∀ t, own_S p e below T49 (mkF m 118 #[rv oR, iv p2, rv kkR, iv (0 : Int32), rv kkR, iv (-1 : Int32)] [(.int (-(-1 : Int32))), (.int (256 : Int32))]) t → own_S p e below s₁ f0 t := fun t k => R50 t (by
    refine XS.istore X49.here hx rfl (hb hby d7_105) rfl (l' := #[rv oR, iv p2, rv kkR, iv (0 : Int32), rv kkR, iv (-1 : Int32)]) rfl ?_
    refine XS.iload X49.here hx rfl (hb hby d7_107) rfl  ?_
    refine XS.ifNo X49.here hx rfl (hb hby d7_109) rfl ((if0 _ _).trans (tlt (by decide : (-1 : Int32) < (0 : Int32))).2.1) ?_
    refine XS.sipush X49.here hx rfl (hb hby d7_112) ?_
    refine XS.iload X49.here hx rfl (hb hby d7_115) rfl  ?_
    refine XS.ineg X49.here hx rfl (hb hby d7_117) rfl ?_
    exact k)
  have R52 : ∀ t, own_S p e below T49 (mkF m 118 #[rv oR, iv p2, rv kkR, iv (0 : Int32), rv kkR, iv (-1 : Int32)] [(.int (1 : Int32)), (.int (256 : Int32))]) t → own_S p e below s₁ f0 t := by have q := R51; rw [((by decide) : (-(-1 : Int32)) = (1 : Int32))] at q; exact q
  have R53 : ∀ t, own_S p e below T49 (mkF m 125 #[rv oR, iv p2, rv kkR, iv (0 : Int32), rv kkR, iv (256 : Int32)] [(.long ((0 : Int32).toInt64))]) t → own_S p e below s₁ f0 t := fun t k => R52 t (by
    refine XS.iconst X49.here hx rfl (hb hby d7_118) ?_
    refine XS.isub X49.here hx rfl (hb hby d7_119) rfl ?_
    refine XS.iadd X49.here hx rfl (hb hby d7_120) rfl ?_
    refine XS.istore X49.here hx rfl (hb hby d7_121) rfl (l' := #[rv oR, iv p2, rv kkR, iv (0 : Int32), rv kkR, iv (256 : Int32)]) rfl ?_
    refine XS.iloadN X49.here hx rfl (hb hby d7_123) rfl  ?_
    refine XS.i2l X49.here hx rfl (hb hby d7_124) rfl ?_
    exact k)
  have R54 : ∀ t, own_S p e below T49 (mkF m 125 #[rv oR, iv p2, rv kkR, iv (0 : Int32), rv kkR, iv (256 : Int32)] [(.long (0 : Int64))]) t → own_S p e below s₁ f0 t := by have q := R53; rw [((by decide) : ((0 : Int32).toInt64) = (0 : Int64))] at q; exact q
  have R55 : ∀ t, own_S p e below T49 (mkF m 128 #[rv oR, iv p2, rv kkR, iv (0 : Int32), rv kkR, iv (256 : Int32)] [(.long ((0 : Int64) <<< ((32 : Int32) &&& 0x3f).toInt64))]) t → own_S p e below s₁ f0 t := fun t k => R54 t (by
    refine XS.bipush X49.here hx rfl (hb hby d7_125) ?_
    refine XS.lshl X49.here hx rfl (hb hby d7_127) rfl ?_
    exact k)
  have R56 : ∀ t, own_S p e below T49 (mkF m 128 #[rv oR, iv p2, rv kkR, iv (0 : Int32), rv kkR, iv (256 : Int32)] [(.long (0 : Int64))]) t → own_S p e below s₁ f0 t := by have q := R55; rw [((by decide) : ((0 : Int64) <<< ((32 : Int32) &&& 0x3f).toInt64) = (0 : Int64))] at q; exact q
  have R57 : ∀ t, own_S p e below T49 (mkF m 131 #[rv oR, iv p2, rv kkR, iv (0 : Int32), rv kkR, iv (256 : Int32)] [(.long ((256 : Int32).toInt64)), (.long (0 : Int64))]) t → own_S p e below s₁ f0 t := fun t k => R56 t (by
    refine XS.iload X49.here hx rfl (hb hby d7_128) rfl  ?_
    refine XS.i2l X49.here hx rfl (hb hby d7_130) rfl ?_
    exact k)
  have R58 : ∀ t, own_S p e below T49 (mkF m 131 #[rv oR, iv p2, rv kkR, iv (0 : Int32), rv kkR, iv (256 : Int32)] [(.long (256 : Int64)), (.long (0 : Int64))]) t → own_S p e below s₁ f0 t := by have q := R57; rw [((by decide) : ((256 : Int32).toInt64) = (256 : Int64))] at q; exact q
  have R59 : ∀ t, own_S p e below T49 (mkF m 132 #[rv oR, iv p2, rv kkR, iv (0 : Int32), rv kkR, iv (256 : Int32)] [(.long (256 : Int64))]) t → own_S p e below s₁ f0 t := fun t k => R58 t (by
    refine XS.lor X49.here hx rfl (hb hby d7_131) rfl ?_
    exact k)
  obtain ⟨fs, hr, hrun, hended, hW, hsame⟩ := X49.leave (v := some (.long (256 : Int64))) (fun h => by rw [Bd.returns] at h; cases h)
  refine ⟨_, _, pre0 _ (R59 _ ?_), hrun, hended, _, _, rfl, ?_, ⟨_, rfl⟩, hW, hsame.mono (by decide) (by decide)⟩
  · show own_S p e below T49 (mkF m 132 #[rv oR, iv p2, rv kkR, iv (0 : Int32), rv kkR, iv (256 : Int32)] [(.long (256 : Int64))]) _
    exact retOut X49 hx (t := .long) Bd.returns rfl (Or.inr (Or.inl ⟨rfl, rfl, _, rfl⟩)) (hb hby d7_132) hr
  · show Q_rmFind2_0 Z oR p2 ckR kckR kkR x0 x1 saR kstR fiR kfiR h0 n0 _ T49.heap _
    rw [p49_0]
    exact ⟨rfl, N49, rfl⟩
theorem ef_rmFf2_0 (m : MethodId) (x0 : Addr) (x1 : Int32) : entryFrame m #[(.ref x0), (.int x1)] 4 = mkF m 0 #[rv x0, iv x1, .unset, .unset] [] := by first | (simp [entryFrame, mkF, argsToLocals, Value.category]; done) | rfl
def Q_rmFf2_0 (Z : State) (a1 : Addr) (p2 : Int32) (oR : Addr) (ckR : Addr) (kckR : ClassId) (kkR : Addr) (x0 : Int32) (x1 : Int32) (saR : Addr) (kstR : ClassId) (fiR : Addr) (kfiR : ClassId) (oU : Addr) (ckU : Addr) (kckU : ClassId) (kkU : Addr) (h0 : Heap) (n0 : Nat) (v : Option Value) (h : Heap) (L : List Loc) : Prop := v = some (.long (256 : Int64)) ∧ Fr n0 L ∧ h = h0
set_option maxRecDepth 65536 in
set_option maxHeartbeats 40000000 in
theorem rmFf2_0 (l : Launch) (Z : State) (a0 : Array Value) (hw : ∀ d ∈ tables_1, d.before a0 Z = true) (ws : List Jvm.Cond) (a1 : Addr) (p2 : Int32) (oR : Addr) (ckR : Addr) (kckR : ClassId) (kkR : Addr) (x0 : Int32) (x1 : Int32) (saR : Addr) (kstR : ClassId) (fiR : Addr) (kfiR : ClassId) (oU : Addr) (ckU : Addr) (kckU : ClassId) (kkU : Addr) (h0 : Heap) (n0 : Nat) (Z0 : n0 ≤ h0.size) (F_read_a1 : Fld Z h0 a1 sN2 "read" sN4 (.ref oR)) (F_unread_a1 : Fld Z h0 a1 sN2 "unread" sN4 (.ref oU)) (E_oR : Exa Z h0 oR sN0) (F_chunks_oR : Fld Z h0 oR sN0 "chunks" sN3 (.ref ckR)) (F_chunkCount_oR : Fld Z h0 oR sN0 "chunkCount" "I" (.int (1 : Int32))) (A_ckR : Arv Z h0 ckR kckR (.object sN1) (1 : Int32) [(.ref kkR)] .null) (F_size_kkR : Fld Z h0 kkR sN1 "size" "I" (.int (2 : Int32))) (F_starts_kkR : Fld Z h0 kkR sN1 "starts" "[I" (.ref saR)) (A_saR : Arv Z h0 saR kstR .int (256 : Int32) [(.int x0), (.int x1), (.int (0 : Int32))] (.int (0 : Int32))) (F_firsts_oR : Fld Z h0 oR sN0 "firsts" "[I" (.ref fiR)) (A_fiR : Arv Z h0 fiR kfiR .int (1 : Int32) [(.int x0)] (.int (0 : Int32))) (E_oU : Exa Z h0 oU sN0) (F_chunks_oU : Fld Z h0 oU sN0 "chunks" sN3 (.ref ckU)) (A_ckU : Arv Z h0 ckU kckU (.object sN1) (1 : Int32) [(.ref kkU)] .null) (E_kkU : Exa Z h0 kkU sN1) (F_size_kkU : Fld Z h0 kkU sN1 "size" "I" (.int (0 : Int32))) (ho0 : p2 < x0) (ho1 : p2 < x1) :
    own_M l (⟨sN2, "find", "(I)J"⟩ : MethodName) (Jvm.Cond.code (⟨sN2, "find", "(I)J"⟩ : MethodName) prog_116_method_2_code 4 (some .long) :: ws) ({ frames := 3, cells := 0, slots := 0, locals := 51 } : Room) #[(.ref a1), (.int p2)] Z h0 (Q_rmFf2_0 Z a1 p2 oR ckR kckR kkR x0 x1 saR kstR fiR kfiR oU ckU kckU kkU h0 n0) := by
  refine MetFree.of_bodySF (plainFor_of_name pn_3) hisR ?_
  intro p e s m args below meth c s₁ Bd hml0 hP hK
  obtain ⟨rfl, hZ, hh⟩ := hP
  have hx := Bd.exec
  have hby := Bd.bytes
  have hml : c.maxLocals = 4 := hml0
  have hown : s.vm.findClass sN2 = some m.cls := findClass_of_methodNamed Bd.named
  have hnm := (name_of_methodNamed Bd.named Bd.method).1
  have X0 : Stand p l e ({ frames := 3, cells := 0, slots := 0, locals := 51 } : Room) s m #[(.ref a1), (.int p2)] below meth c s₁ [] 0 0 := Stand.of_body Bd
  have hU : ∀ (i : Nat) (d : Jvm.Cond), tables_1[i]? = some d → d.before a0 Z = true := fun i d h => hw d (List.mem_of_getElem? h)
  have e0 : s₁.heap = h0 := by rw [← hh, Bd.state]; rfl
  have N0 := Fr.nil n0
  obtain ⟨f0, hf0⟩ : ∃ f : JFrame, f = mkF m 0 #[rv a1, iv p2, .unset, .unset] [] := ⟨_, rfl⟩
  have pre0 : ∀ t, own_S p e below s₁ f0 t → Steps p.tables e below (s₁.setTop (entryFrame m #[(.ref a1), (.int p2)] 4)) t := fun t k => castTop ((ef_rmFf2_0 m a1 p2).trans hf0.symm) k
  have R0 : ∀ t, own_S p e below s₁ (mkF m 0 #[rv a1, iv p2, .unset, .unset] []) t → own_S p e below s₁ f0 t := by rw [hf0]; exact fun t k => k
  have R1 : ∀ t, own_S p e below s₁ (mkF m 1 #[rv a1, iv p2, .unset, .unset] [(.ref a1)]) t → own_S p e below s₁ f0 t := fun t k => R0 t (by
    refine XS.aloadN X0.here hx rfl (hb hby d6_0) rfl rfl ?_
    exact k)
  obtain ⟨T2, X2, e2, st2⟩ := getF X0 hx hZ hown (host := "") (Or.inl (hU 45 _ rfl)) Via.refl e0 F_read_a1 (g := (mkF m 1 #[rv a1, iv p2, .unset, .unset] [(.ref a1)])) rfl rfl (hb hby d6_1)
  have R3 := fun t k => R1 t (st2 t k)
  have R4 : ∀ t, own_S p e below T2 (mkF m 5 #[rv a1, iv p2, .unset, .unset] [(.int p2), (.ref oR)]) t → own_S p e below s₁ f0 t := fun t k => R3 t (by
    refine XS.iloadN X2.here hx rfl (hb hby d6_4) rfl  ?_
    exact k)
  obtain ⟨cq5, kq5, q5a, q5b, q5c⟩ := isOf hZ e2 E_oR
  obtain ⟨_, _, ⟨T5, L5, k5, n5⟩, -, X5, ⟨Lc5, hQ5, l5, y5, z5⟩, st5⟩ := X2.virtualBack hx (y := (⟨sN0, "find", "(I)J"⟩ : MethodName)) (z := (⟨sN0, "find", "(I)J"⟩ : MethodName)) hown (mvT hZ (hU 61 _ rfl)) (mvT hZ (hU 62 _ rfl)) (notFace_of_selects (args := #[]) (mvT hZ (hU 64 _ rfl))) (mvT hZ (hU 64 _ rfl)) (mvT hZ (hU 63 _ rfl)) (by decide) (backOf (W := 0) (rmFind2_0 l Z a0 hw [] oR p2 ckR kckR kkR x0 x1 saR kstR fiR kfiR h0 n0 Z0 F_chunks_oR F_chunkCount_oR A_ckR F_size_kkR F_starts_kkR A_saR F_firsts_oR A_fiR ho0 ho1) hZ (hU 65 _ rfl) (hU 14 _ rfl) (by decide) (by decide)) q5a q5c (g := (mkF m 5 #[rv a1, iv p2, .unset, .unset] [(.int p2), (.ref oR)])) rfl (by rw [hml]; rfl) (Steps.refl _) (argsL := [(.int p2)]) (rest := []) (lenOf pd_5 rfl) rfl (Nat.le_of_eq rfl) (hb hby d6_5) (fun _ _ => ⟨rfl, e2, (by decide : 0 + 0 ≤ _), (by decide : 0 + 0 ≤ _)⟩)
  dsimp only [Pt.U, Pt.locs, Pt.cells, Pt.slots] at X5 l5 y5 z5 st5 hQ5
  subst l5 y5 z5
  obtain ⟨rfl, N5q, p5_0⟩ := hQ5
  have N5 := Fr.app N0 N5q
  have R6 := fun t k => R4 t (st5.trans k)
  have R7 : ∀ t, own_S p e below T5 (mkF m 11 #[rv a1, iv p2, own_l (256 : Int64), .second] [(.int ((256 : Int64).toInt32))]) t → own_S p e below s₁ f0 t := fun t k => R6 t (by
    refine XS.lstoreN X5.here hx rfl (hb hby d6_8) rfl (l' := #[rv a1, iv p2, own_l (256 : Int64), .second]) rfl ?_
    refine XS.lloadN X5.here hx rfl (hb hby d6_9) rfl  ?_
    refine XS.l2i X5.here hx rfl (hb hby d6_10) rfl ?_
    exact k)
  have R8 : ∀ t, own_S p e below T5 (mkF m 11 #[rv a1, iv p2, own_l (256 : Int64), .second] [(.int (256 : Int32))]) t → own_S p e below s₁ f0 t := by have q := R7; rw [((by decide) : ((256 : Int64).toInt32) = (256 : Int32))] at q; exact q
  have R9 : ∀ t, own_S p e below T5 (mkF m 18 #[rv a1, iv p2, own_l (256 : Int64), .second] [(.ref a1)]) t → own_S p e below s₁ f0 t := fun t k => R8 t (by
    refine XS.sipush X5.here hx rfl (hb hby d6_11) ?_
    refine XS.icmpNo X5.here hx rfl (hb hby d6_14) rfl (flt (by decide : ¬ ((256 : Int32) < (256 : Int32)))).1 ?_
    refine XS.aloadN X5.here hx rfl (hb hby d6_17) rfl rfl ?_
    exact k)
  obtain ⟨T10, X10, e10, st10⟩ := getF X5 hx hZ hown (host := "") (Or.inl (hU 47 _ rfl)) Via.refl p5_0 F_unread_a1 (g := (mkF m 18 #[rv a1, iv p2, own_l (256 : Int64), .second] [(.ref a1)])) rfl rfl (hb hby d6_18)
  have R11 := fun t k => R9 t (st10 t k)
  obtain ⟨cq12, kq12, q12a, q12b, q12c⟩ := isOf hZ e10 E_oU
  obtain ⟨_, _, ⟨T12, L12, k12, n12⟩, -, X12, ⟨Lc12, hQ12, l12, y12, z12⟩, st12⟩ := X10.virtualBack hx (y := (⟨sN0, "isEmpty", "()Z"⟩ : MethodName)) (z := (⟨sN0, "isEmpty", "()Z"⟩ : MethodName)) hown (mvT hZ (hU 68 _ rfl)) (mvT hZ (hU 69 _ rfl)) (notFace_of_selects (args := #[]) (mvT hZ (hU 71 _ rfl))) (mvT hZ (hU 71 _ rfl)) (mvT hZ (hU 70 _ rfl)) (by decide) (backOf (W := 0) (rmEmp0 l Z a0 hw [] oU ckU kckU kkU h0 n0 Z0 F_chunks_oU A_ckU F_size_kkU) hZ (hU 72 _ rfl) (hU 14 _ rfl) (by decide) (by decide)) q12a q12c (g := (mkF m 21 #[rv a1, iv p2, own_l (256 : Int64), .second] [(.ref oU)])) rfl (by rw [hml]; rfl) (Steps.refl _) (argsL := []) (rest := []) (lenOf pd_6 rfl) rfl (Nat.le_of_eq rfl) (hb hby d6_21) (fun _ _ => ⟨rfl, e10, (by decide : 0 + 0 ≤ _), (by decide : 0 + 0 ≤ _)⟩)
  dsimp only [Pt.U, Pt.locs, Pt.cells, Pt.slots] at X12 l12 y12 z12 st12 hQ12
  subst l12 y12 z12
  obtain ⟨rfl, N12q, p12_0⟩ := hQ12
  have N12 := Fr.app N5 N12q
  have R13 := fun t k => R11 t (st12.trans k)
  have R14 : ∀ t, own_S p e below T12 (mkF m 43 #[rv a1, iv p2, own_l (256 : Int64), .second] [(.long (256 : Int64))]) t → own_S p e below s₁ f0 t := fun t k => R13 t (by
    refine XS.ifYes X12.here hx rfl (pc0 := 24) (pc' := 42) rfl (hb hby d6_24) rfl ((if0 _ _).trans (feq (by decide : ¬ ((1 : Int32) = (0 : Int32)))).2) (by decide) (by decide) ?_
    refine XS.lloadN X12.here hx rfl (hb hby d6_42) rfl  ?_
    exact k)
  obtain ⟨fs, hr, hrun, hended, hW, hsame⟩ := X12.leave (v := some (.long (256 : Int64))) (fun h => by rw [Bd.returns] at h; cases h)
  refine ⟨_, _, pre0 _ (R14 _ ?_), hrun, hended, _, _, rfl, ?_, ⟨_, rfl⟩, hW, hsame.mono (by decide) (by decide)⟩
  · show own_S p e below T12 (mkF m 43 #[rv a1, iv p2, own_l (256 : Int64), .second] [(.long (256 : Int64))]) _
    exact retOut X12 hx (t := .long) Bd.returns rfl (Or.inr (Or.inl ⟨rfl, rfl, _, rfl⟩)) (hb hby d6_43) hr
  · show Q_rmFf2_0 Z a1 p2 oR ckR kckR kkR x0 x1 saR kstR fiR kfiR oU ckU kckU kkU h0 n0 _ T12.heap _
    rw [p12_0]
    exact ⟨rfl, N12, rfl⟩
theorem ef_rmCt2_0 (m : MethodId) (x0 : Addr) (x1 : Int64) (x2 : Int32) : entryFrame m #[(.ref x0), (.long x1), (.int x2)] 7 = mkF m 0 #[rv x0, own_l x1, .second, iv x2, .unset, .unset, .unset] [] := by first | (simp [entryFrame, mkF, argsToLocals, Value.category]; done) | rfl
def Q_rmCt2_0 (Z : State) (a1 : Addr) (p3 : Int32) (oR : Addr) (h0 : Heap) (n0 : Nat) (v : Option Value) (h : Heap) (L : List Loc) : Prop := v = some (.int (-1 : Int32)) ∧ Fr n0 L ∧ h = h0
set_option maxRecDepth 65536 in
set_option maxHeartbeats 40000000 in
theorem rmCt2_0 (l : Launch) (Z : State) (a0 : Array Value) (hw : ∀ d ∈ tables_1, d.before a0 Z = true) (ws : List Jvm.Cond) (a1 : Addr) (p3 : Int32) (oR : Addr) (h0 : Heap) (n0 : Nat) (Z0 : n0 ≤ h0.size) (F_read_a1 : Fld Z h0 a1 sN2 "read" sN4 (.ref oR)) :
    own_M l (⟨sN2, "containing", "(JI)I"⟩ : MethodName) (Jvm.Cond.code (⟨sN2, "containing", "(JI)I"⟩ : MethodName) prog_116_method_7_code 7 (some .int) :: ws) ({ frames := 0, cells := 0, slots := 0, locals := 0 } : Room) #[(.ref a1), (.long (256 : Int64)), (.int p3)] Z h0 (Q_rmCt2_0 Z a1 p3 oR h0 n0) := by
  refine MetFree.of_bodySF (plainFor_of_name pn_3) hisR ?_
  intro p e s m args below meth c s₁ Bd hml0 hP hK
  obtain ⟨rfl, hZ, hh⟩ := hP
  have hx := Bd.exec
  have hby := Bd.bytes
  have hml : c.maxLocals = 7 := hml0
  have hown : s.vm.findClass sN2 = some m.cls := findClass_of_methodNamed Bd.named
  have hnm := (name_of_methodNamed Bd.named Bd.method).1
  have X0 : Stand p l e ({ frames := 0, cells := 0, slots := 0, locals := 0 } : Room) s m #[(.ref a1), (.long (256 : Int64)), (.int p3)] below meth c s₁ [] 0 0 := Stand.of_body Bd
  have hU : ∀ (i : Nat) (d : Jvm.Cond), tables_1[i]? = some d → d.before a0 Z = true := fun i d h => hw d (List.mem_of_getElem? h)
  have e0 : s₁.heap = h0 := by rw [← hh, Bd.state]; rfl
  have N0 := Fr.nil n0
  obtain ⟨f0, hf0⟩ : ∃ f : JFrame, f = mkF m 0 #[rv a1, own_l (256 : Int64), .second, iv p3, .unset, .unset, .unset] [] := ⟨_, rfl⟩
  have pre0 : ∀ t, own_S p e below s₁ f0 t → Steps p.tables e below (s₁.setTop (entryFrame m #[(.ref a1), (.long (256 : Int64)), (.int p3)] 7)) t := fun t k => castTop ((ef_rmCt2_0 m a1 (256 : Int64) p3).trans hf0.symm) k
  have R0 : ∀ t, own_S p e below s₁ (mkF m 0 #[rv a1, own_l (256 : Int64), .second, iv p3, .unset, .unset, .unset] []) t → own_S p e below s₁ f0 t := by rw [hf0]; exact fun t k => k
  have R1 : ∀ t, own_S p e below s₁ (mkF m 4 #[rv a1, own_l (256 : Int64), .second, iv p3, .unset, .unset, .unset] [(.long (((256 : Int64).toUInt64 >>> ((32 : Int32) &&& 0x3f).toInt64.toUInt64).toInt64))]) t → own_S p e below s₁ f0 t := fun t k => R0 t (by
    refine XS.lloadN X0.here hx rfl (hb hby d18_0) rfl  ?_
    refine XS.bipush X0.here hx rfl (hb hby d18_1) ?_
    refine XS.lushr X0.here hx rfl (hb hby d18_3) rfl ?_
    exact k)
  have R2 : ∀ t, own_S p e below s₁ (mkF m 4 #[rv a1, own_l (256 : Int64), .second, iv p3, .unset, .unset, .unset] [(.long (0 : Int64))]) t → own_S p e below s₁ f0 t := by have q := R1; rw [((by decide) : (((256 : Int64).toUInt64 >>> ((32 : Int32) &&& 0x3f).toInt64.toUInt64).toInt64) = (0 : Int64))] at q; exact q
  have R3 : ∀ t, own_S p e below s₁ (mkF m 5 #[rv a1, own_l (256 : Int64), .second, iv p3, .unset, .unset, .unset] [(.int ((0 : Int64).toInt32))]) t → own_S p e below s₁ f0 t := fun t k => R2 t (by
    refine XS.l2i X0.here hx rfl (hb hby d18_4) rfl ?_
    exact k)
  have R4 : ∀ t, own_S p e below s₁ (mkF m 5 #[rv a1, own_l (256 : Int64), .second, iv p3, .unset, .unset, .unset] [(.int (0 : Int32))]) t → own_S p e below s₁ f0 t := by have q := R3; rw [((by decide) : ((0 : Int64).toInt32) = (0 : Int32))] at q; exact q
  have R5 : ∀ t, own_S p e below s₁ (mkF m 9 #[rv a1, own_l (256 : Int64), .second, iv p3, iv (0 : Int32), .unset, .unset] [(.int ((256 : Int64).toInt32))]) t → own_S p e below s₁ f0 t := fun t k => R4 t (by
    refine XS.istore X0.here hx rfl (hb hby d18_5) rfl (l' := #[rv a1, own_l (256 : Int64), .second, iv p3, iv (0 : Int32), .unset, .unset]) rfl ?_
    refine XS.lloadN X0.here hx rfl (hb hby d18_7) rfl  ?_
    refine XS.l2i X0.here hx rfl (hb hby d18_8) rfl ?_
    exact k)
  have R6 : ∀ t, own_S p e below s₁ (mkF m 9 #[rv a1, own_l (256 : Int64), .second, iv p3, iv (0 : Int32), .unset, .unset] [(.int (256 : Int32))]) t → own_S p e below s₁ f0 t := by have q := R5; rw [((by decide) : ((256 : Int64).toInt32) = (256 : Int32))] at q; exact q
  have R7 : ∀ t, own_S p e below s₁ (mkF m 26 #[rv a1, own_l (256 : Int64), .second, iv p3, iv (0 : Int32), iv (0 : Int32), .unset] [(.int (-1 : Int32))]) t → own_S p e below s₁ f0 t := fun t k => R6 t (by
    refine XS.sipush X0.here hx rfl (hb hby d18_9) ?_
    refine XS.isub X0.here hx rfl (hb hby d18_12) rfl ?_
    refine XS.istore X0.here hx rfl (hb hby d18_13) rfl (l' := #[rv a1, own_l (256 : Int64), .second, iv p3, iv (0 : Int32), iv (0 : Int32), .unset]) rfl ?_
    refine XS.iload X0.here hx rfl (hb hby d18_15) rfl  ?_
    refine XS.ifNo X0.here hx rfl (hb hby d18_17) rfl ((if0 _ _).trans (teq (by decide : (0 : Int32) = (0 : Int32))).2) ?_
    refine XS.iload X0.here hx rfl (hb hby d18_20) rfl  ?_
    show own_S p e below s₁ (mkF m 22 #[rv a1, own_l (256 : Int64), .second, iv p3, iv (0 : Int32), iv (0 : Int32), .unset] [(.int (0 : Int32))]) _
    refine XS.ifNo X0.here hx rfl (hb hby d18_22) rfl ((if0 _ _).trans (teq (by decide : (0 : Int32) = (0 : Int32))).2) ?_
    refine XS.iconst X0.here hx rfl (hb hby d18_25) ?_
    exact k)
  obtain ⟨fs, hr, hrun, hended, hW, hsame⟩ := X0.leave (v := some (.int (-1 : Int32))) (fun h => by rw [Bd.returns] at h; cases h)
  refine ⟨_, _, pre0 _ (R7 _ ?_), hrun, hended, _, _, rfl, ?_, ⟨_, rfl⟩, hW, hsame.mono (by decide) (by decide)⟩
  · show own_S p e below s₁ (mkF m 26 #[rv a1, own_l (256 : Int64), .second, iv p3, iv (0 : Int32), iv (0 : Int32), .unset] [(.int (-1 : Int32))]) _
    exact retI X0 hx Bd.returns (hb hby d18_26) hr
  · show Q_rmCt2_0 Z a1 p3 oR h0 n0 _ s₁.heap _
    rw [e0]
    exact ⟨rfl, N0, rfl⟩
theorem ef_rmBz1_1_1_1 (m : MethodId) (x0 : Addr) (x1 : Int32) (x2 : Int32) (x3 : Int32) : entryFrame m #[(.ref x0), (.int x1), (.int x2), (.int x3)] 8 = mkF m 0 #[rv x0, iv x1, iv x2, iv x3, .unset, .unset, .unset, .unset] [] := by first | (simp [entryFrame, mkF, argsToLocals, Value.category]; done) | rfl
def Q_rmBz1_1_1_1 (Z : State) (a1 : Addr) (p4 : Int32) (k1 : ClassId) (x0 : Int32) (h0 : Heap) (n0 : Nat) (v : Option Value) (h : Heap) (L : List Loc) : Prop := v = some (.int (-2 : Int32)) ∧ Fr n0 L ∧ h = h0
set_option maxRecDepth 65536 in
set_option maxHeartbeats 40000000 in
theorem rmBz1_1_1_1 (l : Launch) (Z : State) (a0 : Array Value) (hw : ∀ d ∈ tables_1, d.before a0 Z = true) (ws : List Jvm.Cond) (a1 : Addr) (p4 : Int32) (k1 : ClassId) (x0 : Int32) (h0 : Heap) (n0 : Nat) (Z0 : n0 ≤ h0.size) (A_a1 : Arv Z h0 a1 k1 .int (1 : Int32) [(.int x0)] (.int (0 : Int32))) (ho0 : x0 < p4) :
    own_M l (⟨"java/util/Arrays", "binarySearch0", "([IIII)I"⟩ : MethodName) (Jvm.Cond.code (⟨"java/util/Arrays", "binarySearch0", "([IIII)I"⟩ : MethodName) jdk_65_method_59_code 8 (some .int) :: ws) ({ frames := 0, cells := 0, slots := 0, locals := 0 } : Room) #[(.ref a1), (.int (0 : Int32)), (.int (1 : Int32)), (.int p4)] Z h0 (Q_rmBz1_1_1_1 Z a1 p4 k1 x0 h0 n0) := by
  refine MetFree.of_bodySF (plainFor_of_name pn_7) hisR ?_
  intro p e s m args below meth c s₁ Bd hml0 hP hK
  obtain ⟨rfl, hZ, hh⟩ := hP
  have hx := Bd.exec
  have hby := Bd.bytes
  have hml : c.maxLocals = 8 := hml0
  have hown : s.vm.findClass "java/util/Arrays" = some m.cls := findClass_of_methodNamed Bd.named
  have hnm := (name_of_methodNamed Bd.named Bd.method).1
  have X0 : Stand p l e ({ frames := 0, cells := 0, slots := 0, locals := 0 } : Room) s m #[(.ref a1), (.int (0 : Int32)), (.int (1 : Int32)), (.int p4)] below meth c s₁ [] 0 0 := Stand.of_body Bd
  have hU : ∀ (i : Nat) (d : Jvm.Cond), tables_1[i]? = some d → d.before a0 Z = true := fun i d h => hw d (List.mem_of_getElem? h)
  have e0 : s₁.heap = h0 := by rw [← hh, Bd.state]; rfl
  have N0 := Fr.nil n0
  obtain ⟨f0, hf0⟩ : ∃ f : JFrame, f = mkF m 0 #[rv a1, iv (0 : Int32), iv (1 : Int32), iv p4, .unset, .unset, .unset, .unset] [] := ⟨_, rfl⟩
  have pre0 : ∀ t, own_S p e below s₁ f0 t → Steps p.tables e below (s₁.setTop (entryFrame m #[(.ref a1), (.int (0 : Int32)), (.int (1 : Int32)), (.int p4)] 8)) t := fun t k => castTop ((ef_rmBz1_1_1_1 m a1 (0 : Int32) (1 : Int32) p4).trans hf0.symm) k
  have R0 : ∀ t, own_S p e below s₁ (mkF m 0 #[rv a1, iv (0 : Int32), iv (1 : Int32), iv p4, .unset, .unset, .unset, .unset] []) t → own_S p e below s₁ f0 t := by rw [hf0]; exact fun t k => k
  have R1 : ∀ t, own_S p e below s₁ (mkF m 22 #[rv a1, iv (0 : Int32), iv (1 : Int32), iv p4, iv (0 : Int32), iv (0 : Int32), .unset, .unset] [(.int (((0 : Int32).toUInt32 >>> ((1 : Int32) &&& 31).toUInt32).toInt32))]) t → own_S p e below s₁ f0 t := fun t k => R0 t (by
    refine XS.iloadN X0.here hx rfl (hb hby d13_0) rfl  ?_
    refine XS.istore X0.here hx rfl (hb hby d13_1) rfl (l' := #[rv a1, iv (0 : Int32), iv (1 : Int32), iv p4, iv (0 : Int32), .unset, .unset, .unset]) rfl ?_
    refine XS.iloadN X0.here hx rfl (hb hby d13_3) rfl  ?_
    refine XS.iconst X0.here hx rfl (hb hby d13_4) ?_
    refine XS.isub X0.here hx rfl (hb hby d13_5) rfl ?_
    refine XS.istore X0.here hx rfl (hb hby d13_6) rfl (l' := #[rv a1, iv (0 : Int32), iv (1 : Int32), iv p4, iv (0 : Int32), iv (0 : Int32), .unset, .unset]) rfl ?_
    show own_S p e below s₁ (mkF m 8 #[rv a1, iv (0 : Int32), iv (1 : Int32), iv p4, iv (0 : Int32), iv (0 : Int32), .unset, .unset] []) _
    refine XS.iload X0.here hx rfl (hb hby d13_8) rfl  ?_
    refine XS.iload X0.here hx rfl (hb hby d13_10) rfl  ?_
    refine XS.icmpNo X0.here hx rfl (hb hby d13_12) rfl (flt (by decide : ¬ ((0 : Int32) < (0 : Int32)))).2.2.1 ?_
    refine XS.iload X0.here hx rfl (hb hby d13_15) rfl  ?_
    refine XS.iload X0.here hx rfl (hb hby d13_17) rfl  ?_
    refine XS.iadd X0.here hx rfl (hb hby d13_19) rfl ?_
    show own_S p e below s₁ (mkF m 20 #[rv a1, iv (0 : Int32), iv (1 : Int32), iv p4, iv (0 : Int32), iv (0 : Int32), .unset, .unset] [(.int (0 : Int32))]) _
    refine XS.iconst X0.here hx rfl (hb hby d13_20) ?_
    refine XS.iushr X0.here hx rfl (hb hby d13_21) rfl ?_
    exact k)
  have R2 : ∀ t, own_S p e below s₁ (mkF m 22 #[rv a1, iv (0 : Int32), iv (1 : Int32), iv p4, iv (0 : Int32), iv (0 : Int32), .unset, .unset] [(.int (0 : Int32))]) t → own_S p e below s₁ f0 t := by have q := R1; rw [((by decide) : (((0 : Int32).toUInt32 >>> ((1 : Int32) &&& 31).toUInt32).toInt32) = (0 : Int32))] at q; exact q
  have R3 : ∀ t, own_S p e below s₁ (mkF m 27 #[rv a1, iv (0 : Int32), iv (1 : Int32), iv p4, iv (0 : Int32), iv (0 : Int32), iv (0 : Int32), .unset] [(.int (0 : Int32)), (.ref a1)]) t → own_S p e below s₁ f0 t := fun t k => R2 t (by
    refine XS.istore X0.here hx rfl (hb hby d13_22) rfl (l' := #[rv a1, iv (0 : Int32), iv (1 : Int32), iv p4, iv (0 : Int32), iv (0 : Int32), iv (0 : Int32), .unset]) rfl ?_
    refine XS.aloadN X0.here hx rfl (hb hby d13_24) rfl rfl ?_
    refine XS.iload X0.here hx rfl (hb hby d13_25) rfl  ?_
    exact k)
  obtain ⟨cl4, Ar4, q4, S4, n4_, H4, G4⟩ := id A_a1
  have hin4 : ¬ ((0 : Int32) < 0 ∨ cl4.slots.size ≤ ((0 : Int32)).toNatClampNeg) := inb_of S4 ⟨by decide, by decide⟩
  have hat4 : cl4.slots[((0 : Int32)).toNatClampNeg]? = some (.int x0) := Has.at H4 hin4 rfl
  have R5 : ∀ t, own_S p e below s₁ (mkF m 28 #[rv a1, iv (0 : Int32), iv (1 : Int32), iv p4, iv (0 : Int32), iv (0 : Int32), iv (0 : Int32), .unset] [(.int x0)]) t → own_S p e below s₁ f0 t := fun t k => R3 t (X0.iaload hx (j := (0 : Int32)) (v := (.int x0)) (by rw [e0]; exact Ar4.1) (State.isArrayOf_alike hZ.alike Ar4.2.1) Ar4.2.2 hin4 hat4 (g := (mkF m 27 #[rv a1, iv (0 : Int32), iv (1 : Int32), iv p4, iv (0 : Int32), iv (0 : Int32), iv (0 : Int32), .unset] [(.int (0 : Int32)), (.ref a1)])) rfl rfl (hb hby d13_27) _ k)
  have R6 : ∀ t, own_S p e below s₁ (mkF m 71 #[rv a1, iv (0 : Int32), iv (1 : Int32), iv p4, iv (1 : Int32), iv (0 : Int32), iv (0 : Int32), iv x0] [(.int (-(2 : Int32)))]) t → own_S p e below s₁ f0 t := fun t k => R5 t (by
    refine XS.istore X0.here hx rfl (hb hby d13_28) rfl (l' := #[rv a1, iv (0 : Int32), iv (1 : Int32), iv p4, iv (0 : Int32), iv (0 : Int32), iv (0 : Int32), iv x0]) rfl ?_
    refine XS.iload X0.here hx rfl (hb hby d13_30) rfl  ?_
    refine XS.iloadN X0.here hx rfl (hb hby d13_32) rfl  ?_
    refine XS.icmpNo X0.here hx rfl (hb hby d13_33) rfl (tlt ho0).2.1 ?_
    refine XS.iload X0.here hx rfl (hb hby d13_36) rfl  ?_
    refine XS.iconst X0.here hx rfl (hb hby d13_38) ?_
    show own_S p e below s₁ (mkF m 39 #[rv a1, iv (0 : Int32), iv (1 : Int32), iv p4, iv (0 : Int32), iv (0 : Int32), iv (0 : Int32), iv x0] [(.int (1 : Int32)), (.int (0 : Int32))]) _
    refine XS.iadd X0.here hx rfl (hb hby d13_39) rfl ?_
    refine XS.istore X0.here hx rfl (hb hby d13_40) rfl (l' := #[rv a1, iv (0 : Int32), iv (1 : Int32), iv p4, iv (1 : Int32), iv (0 : Int32), iv (0 : Int32), iv x0]) rfl ?_
    refine XS.goto X0.here hx rfl (pc0 := 42) (pc' := 63) rfl (hb hby d13_42) (by decide) (by decide) ?_
    refine XS.goto X0.here hx rfl (pc0 := 63) (pc' := 8) rfl (hb hby d13_63) (by decide) (by decide) ?_
    refine XS.iload X0.here hx rfl (hb hby d13_8) rfl  ?_
    refine XS.iload X0.here hx rfl (hb hby d13_10) rfl  ?_
    show own_S p e below s₁ (mkF m 12 #[rv a1, iv (0 : Int32), iv (1 : Int32), iv p4, iv (1 : Int32), iv (0 : Int32), iv (0 : Int32), iv x0] [(.int (0 : Int32)), (.int (1 : Int32))]) _
    refine XS.icmpYes X0.here hx rfl (pc0 := 12) (pc' := 66) rfl (hb hby d13_12) rfl (tlt (by decide : (0 : Int32) < (1 : Int32))).2.2.1 (by decide) (by decide) ?_
    refine XS.iload X0.here hx rfl (hb hby d13_66) rfl  ?_
    refine XS.iconst X0.here hx rfl (hb hby d13_68) ?_
    refine XS.iadd X0.here hx rfl (hb hby d13_69) rfl ?_
    refine XS.ineg X0.here hx rfl (hb hby d13_70) rfl ?_
    exact k)
  have R7 : ∀ t, own_S p e below s₁ (mkF m 71 #[rv a1, iv (0 : Int32), iv (1 : Int32), iv p4, iv (1 : Int32), iv (0 : Int32), iv (0 : Int32), iv x0] [(.int (-2 : Int32))]) t → own_S p e below s₁ f0 t := by have q := R6; rw [((by decide) : (-(2 : Int32)) = (-2 : Int32))] at q; exact q
  obtain ⟨fs, hr, hrun, hended, hW, hsame⟩ := X0.leave (v := some (.int (-2 : Int32))) (fun h => by rw [Bd.returns] at h; cases h)
  refine ⟨_, _, pre0 _ (R7 _ ?_), hrun, hended, _, _, rfl, ?_, ⟨_, rfl⟩, hW, hsame.mono (by decide) (by decide)⟩
  · show own_S p e below s₁ (mkF m 71 #[rv a1, iv (0 : Int32), iv (1 : Int32), iv p4, iv (1 : Int32), iv (0 : Int32), iv (0 : Int32), iv x0] [(.int (-2 : Int32))]) _
    exact retI X0 hx Bd.returns (hb hby d13_71) hr
  · show Q_rmBz1_1_1_1 Z a1 p4 k1 x0 h0 n0 _ s₁.heap _
    rw [e0]
    exact ⟨rfl, N0, rfl⟩
theorem ef_rmBs1_1_1_1 (m : MethodId) (x0 : Addr) (x1 : Int32) (x2 : Int32) (x3 : Int32) : entryFrame m #[(.ref x0), (.int x1), (.int x2), (.int x3)] 4 = mkF m 0 #[rv x0, iv x1, iv x2, iv x3] [] := by first | (simp [entryFrame, mkF, argsToLocals, Value.category]; done) | rfl
def Q_rmBs1_1_1_1 (Z : State) (a1 : Addr) (p4 : Int32) (k1 : ClassId) (x0 : Int32) (h0 : Heap) (n0 : Nat) (v : Option Value) (h : Heap) (L : List Loc) : Prop := v = some (.int (-2 : Int32)) ∧ Fr n0 L ∧ h = h0
set_option maxRecDepth 65536 in
set_option maxHeartbeats 40000000 in
theorem rmBs1_1_1_1 (l : Launch) (Z : State) (a0 : Array Value) (hw : ∀ d ∈ tables_1, d.before a0 Z = true) (ws : List Jvm.Cond) (a1 : Addr) (p4 : Int32) (k1 : ClassId) (x0 : Int32) (h0 : Heap) (n0 : Nat) (Z0 : n0 ≤ h0.size) (A_a1 : Arv Z h0 a1 k1 .int (1 : Int32) [(.int x0)] (.int (0 : Int32))) (ho0 : x0 < p4) :
    own_M l (⟨"java/util/Arrays", "binarySearch", "([IIII)I"⟩ : MethodName) (Jvm.Cond.code (⟨"java/util/Arrays", "binarySearch", "([IIII)I"⟩ : MethodName) jdk_65_method_58_code 4 (some .int) :: ws) ({ frames := 1, cells := 0, slots := 0, locals := 19 } : Room) #[(.ref a1), (.int (0 : Int32)), (.int (1 : Int32)), (.int p4)] Z h0 (Q_rmBs1_1_1_1 Z a1 p4 k1 x0 h0 n0) := by
  refine MetFree.of_bodySF (plainFor_of_name pn_7) hisR ?_
  intro p e s m args below meth c s₁ Bd hml0 hP hK
  obtain ⟨rfl, hZ, hh⟩ := hP
  have hx := Bd.exec
  have hby := Bd.bytes
  have hml : c.maxLocals = 4 := hml0
  have hown : s.vm.findClass "java/util/Arrays" = some m.cls := findClass_of_methodNamed Bd.named
  have hnm := (name_of_methodNamed Bd.named Bd.method).1
  have X0 : Stand p l e ({ frames := 1, cells := 0, slots := 0, locals := 19 } : Room) s m #[(.ref a1), (.int (0 : Int32)), (.int (1 : Int32)), (.int p4)] below meth c s₁ [] 0 0 := Stand.of_body Bd
  have hU : ∀ (i : Nat) (d : Jvm.Cond), tables_1[i]? = some d → d.before a0 Z = true := fun i d h => hw d (List.mem_of_getElem? h)
  have e0 : s₁.heap = h0 := by rw [← hh, Bd.state]; rfl
  have N0 := Fr.nil n0
  obtain ⟨f0, hf0⟩ : ∃ f : JFrame, f = mkF m 0 #[rv a1, iv (0 : Int32), iv (1 : Int32), iv p4] [] := ⟨_, rfl⟩
  have pre0 : ∀ t, own_S p e below s₁ f0 t → Steps p.tables e below (s₁.setTop (entryFrame m #[(.ref a1), (.int (0 : Int32)), (.int (1 : Int32)), (.int p4)] 4)) t := fun t k => castTop ((ef_rmBs1_1_1_1 m a1 (0 : Int32) (1 : Int32) p4).trans hf0.symm) k
  have R0 : ∀ t, own_S p e below s₁ (mkF m 0 #[rv a1, iv (0 : Int32), iv (1 : Int32), iv p4] []) t → own_S p e below s₁ f0 t := by rw [hf0]; exact fun t k => k
  have R1 : ∀ t, own_S p e below s₁ (mkF m 1 #[rv a1, iv (0 : Int32), iv (1 : Int32), iv p4] [(.ref a1)]) t → own_S p e below s₁ f0 t := fun t k => R0 t (by
    refine XS.aloadN X0.here hx rfl (hb hby d11_0) rfl rfl ?_
    exact k)
  obtain ⟨cl2, Ar2, -, S2, N2_, -, -⟩ := id A_a1
  have R3 : ∀ t, own_S p e below s₁ (mkF m 2 #[rv a1, iv (0 : Int32), iv (1 : Int32), iv p4] [(.int (1 : Int32))]) t → own_S p e below s₁ f0 t := fun t k => R1 t (X0.arraylength hx (by rw [e0]; exact Ar2.1) (State.isArrayOf_alike hZ.alike Ar2.2.1) (g := (mkF m 1 #[rv a1, iv (0 : Int32), iv (1 : Int32), iv p4] [(.ref a1)])) rfl rfl (hb hby d11_1) _ (by rw [len_of S2 N2_]; exact k))
  have R4 : ∀ t, own_S p e below s₁ (mkF m 4 #[rv a1, iv (0 : Int32), iv (1 : Int32), iv p4] [(.int (1 : Int32)), (.int (0 : Int32)), (.int (1 : Int32))]) t → own_S p e below s₁ f0 t := fun t k => R3 t (by
    refine XS.iloadN X0.here hx rfl (hb hby d11_2) rfl  ?_
    refine XS.iloadN X0.here hx rfl (hb hby d11_3) rfl  ?_
    exact k)
  obtain ⟨_, _, ⟨T5, L5, k5, n5⟩, -, X5, ⟨Lc5, hQ5, l5, y5, z5⟩, st5⟩ := Jvm.LawKit.callS X0 hx (y := (⟨"java/util/Arrays", "rangeCheck", "(III)V"⟩ : MethodName)) hown (mvT hZ (hU 91 _ rfl)) (mvT hZ (hU 92 _ rfl)) (mvT hZ (hU 89 _ rfl)) (mvT hZ (hU 93 _ rfl)) (by decide) (backOf (W := 0) (rmRc1_1 l Z a0 hw []  h0 n0 Z0) hZ (hU 93 _ rfl) (hU 89 _ rfl) (by decide) (by decide)) (g := (mkF m 4 #[rv a1, iv (0 : Int32), iv (1 : Int32), iv p4] [(.int (1 : Int32)), (.int (0 : Int32)), (.int (1 : Int32))])) rfl (by rw [hml]; rfl) (argsL := [(.int (1 : Int32)), (.int (0 : Int32)), (.int (1 : Int32))]) (rest := []) (lenOf pd_8 rfl) rfl (Nat.le_of_eq rfl) (hb hby d11_4) (fun _ _ => ⟨rfl, e0, (by decide : 0 + 0 ≤ _), (by decide : 0 + 0 ≤ _)⟩)
  dsimp only [Pt.U, Pt.locs, Pt.cells, Pt.slots] at X5 l5 y5 z5 st5 hQ5
  subst l5 y5 z5
  obtain ⟨rfl, N5q, p5_0⟩ := hQ5
  have N5 := Fr.app N0 N5q
  have R6 := fun t k => R4 t (st5 t k)
  have R7 : ∀ t, own_S p e below T5 (mkF m 11 #[rv a1, iv (0 : Int32), iv (1 : Int32), iv p4] [(.int p4), (.int (1 : Int32)), (.int (0 : Int32)), (.ref a1)]) t → own_S p e below s₁ f0 t := fun t k => R6 t (by
    refine XS.aloadN X5.here hx rfl (hb hby d11_7) rfl rfl ?_
    refine XS.iloadN X5.here hx rfl (hb hby d11_8) rfl  ?_
    refine XS.iloadN X5.here hx rfl (hb hby d11_9) rfl  ?_
    refine XS.iloadN X5.here hx rfl (hb hby d11_10) rfl  ?_
    exact k)
  obtain ⟨_, _, ⟨T8, L8, k8, n8⟩, -, X8, ⟨Lc8, hQ8, l8, y8, z8⟩, st8⟩ := Jvm.LawKit.callS X5 hx (y := (⟨"java/util/Arrays", "binarySearch0", "([IIII)I"⟩ : MethodName)) hown (mvT hZ (hU 94 _ rfl)) (mvT hZ (hU 95 _ rfl)) (mvT hZ (hU 89 _ rfl)) (mvT hZ (hU 96 _ rfl)) (by decide) (backOf (W := 0) (rmBz1_1_1_1 l Z a0 hw [] a1 p4 k1 x0 h0 n0 Z0 A_a1 ho0) hZ (hU 96 _ rfl) (hU 89 _ rfl) (by decide) (by decide)) (g := (mkF m 11 #[rv a1, iv (0 : Int32), iv (1 : Int32), iv p4] [(.int p4), (.int (1 : Int32)), (.int (0 : Int32)), (.ref a1)])) rfl (by rw [hml]; rfl) (argsL := [(.ref a1), (.int (0 : Int32)), (.int (1 : Int32)), (.int p4)]) (rest := []) (lenOf pd_9 rfl) rfl (Nat.le_of_eq rfl) (hb hby d11_11) (fun _ _ => ⟨rfl, p5_0, (by decide : 0 + 0 ≤ _), (by decide : 0 + 0 ≤ _)⟩)
  dsimp only [Pt.U, Pt.locs, Pt.cells, Pt.slots] at X8 l8 y8 z8 st8 hQ8
  subst l8 y8 z8
  obtain ⟨rfl, N8q, p8_0⟩ := hQ8
  have N8 := Fr.app N5 N8q
  have R9 := fun t k => R7 t (st8 t k)
  obtain ⟨fs, hr, hrun, hended, hW, hsame⟩ := X8.leave (v := some (.int (-2 : Int32))) (fun h => by rw [Bd.returns] at h; cases h)
  refine ⟨_, _, pre0 _ (R9 _ ?_), hrun, hended, _, _, rfl, ?_, ⟨_, rfl⟩, hW, hsame.mono (by decide) (by decide)⟩
  · show own_S p e below T8 (mkF m 14 #[rv a1, iv (0 : Int32), iv (1 : Int32), iv p4] [(.int (-2 : Int32))]) _
    exact retI X8 hx Bd.returns (hb hby d11_14) hr
  · show Q_rmBs1_1_1_1 Z a1 p4 k1 x0 h0 n0 _ T8.heap _
    rw [p8_0]
    exact ⟨rfl, N8, rfl⟩
theorem ef_rmBz256_2_1_3 (m : MethodId) (x0 : Addr) (x1 : Int32) (x2 : Int32) (x3 : Int32) : entryFrame m #[(.ref x0), (.int x1), (.int x2), (.int x3)] 8 = mkF m 0 #[rv x0, iv x1, iv x2, iv x3, .unset, .unset, .unset, .unset] [] := by first | (simp [entryFrame, mkF, argsToLocals, Value.category]; done) | rfl
def Q_rmBz256_2_1_3 (Z : State) (a1 : Addr) (p4 : Int32) (k1 : ClassId) (x0 : Int32) (x1 : Int32) (x2 : Int32) (h0 : Heap) (n0 : Nat) (v : Option Value) (h : Heap) (L : List Loc) : Prop := v = some (.int (-2 : Int32)) ∧ Fr n0 L ∧ h = h0
set_option maxRecDepth 65536 in
set_option maxHeartbeats 40000000 in
theorem rmBz256_2_1_3 (l : Launch) (Z : State) (a0 : Array Value) (hw : ∀ d ∈ tables_1, d.before a0 Z = true) (ws : List Jvm.Cond) (a1 : Addr) (p4 : Int32) (k1 : ClassId) (x0 : Int32) (x1 : Int32) (x2 : Int32) (h0 : Heap) (n0 : Nat) (Z0 : n0 ≤ h0.size) (A_a1 : Arv Z h0 a1 k1 .int (256 : Int32) [(.int x0), (.int x1), (.int x2)] (.int (0 : Int32))) (ho0 : x0 < p4) (ho1 : p4 < x1) :
    own_M l (⟨"java/util/Arrays", "binarySearch0", "([IIII)I"⟩ : MethodName) (Jvm.Cond.code (⟨"java/util/Arrays", "binarySearch0", "([IIII)I"⟩ : MethodName) jdk_65_method_59_code 8 (some .int) :: ws) ({ frames := 0, cells := 0, slots := 0, locals := 0 } : Room) #[(.ref a1), (.int (0 : Int32)), (.int (2 : Int32)), (.int p4)] Z h0 (Q_rmBz256_2_1_3 Z a1 p4 k1 x0 x1 x2 h0 n0) := by
  refine MetFree.of_bodySF (plainFor_of_name pn_7) hisR ?_
  intro p e s m args below meth c s₁ Bd hml0 hP hK
  obtain ⟨rfl, hZ, hh⟩ := hP
  have hx := Bd.exec
  have hby := Bd.bytes
  have hml : c.maxLocals = 8 := hml0
  have hown : s.vm.findClass "java/util/Arrays" = some m.cls := findClass_of_methodNamed Bd.named
  have hnm := (name_of_methodNamed Bd.named Bd.method).1
  have X0 : Stand p l e ({ frames := 0, cells := 0, slots := 0, locals := 0 } : Room) s m #[(.ref a1), (.int (0 : Int32)), (.int (2 : Int32)), (.int p4)] below meth c s₁ [] 0 0 := Stand.of_body Bd
  have hU : ∀ (i : Nat) (d : Jvm.Cond), tables_1[i]? = some d → d.before a0 Z = true := fun i d h => hw d (List.mem_of_getElem? h)
  have e0 : s₁.heap = h0 := by rw [← hh, Bd.state]; rfl
  have N0 := Fr.nil n0
  obtain ⟨f0, hf0⟩ : ∃ f : JFrame, f = mkF m 0 #[rv a1, iv (0 : Int32), iv (2 : Int32), iv p4, .unset, .unset, .unset, .unset] [] := ⟨_, rfl⟩
  have pre0 : ∀ t, own_S p e below s₁ f0 t → Steps p.tables e below (s₁.setTop (entryFrame m #[(.ref a1), (.int (0 : Int32)), (.int (2 : Int32)), (.int p4)] 8)) t := fun t k => castTop ((ef_rmBz256_2_1_3 m a1 (0 : Int32) (2 : Int32) p4).trans hf0.symm) k
  have R0 : ∀ t, own_S p e below s₁ (mkF m 0 #[rv a1, iv (0 : Int32), iv (2 : Int32), iv p4, .unset, .unset, .unset, .unset] []) t → own_S p e below s₁ f0 t := by rw [hf0]; exact fun t k => k
  have R1 : ∀ t, own_S p e below s₁ (mkF m 22 #[rv a1, iv (0 : Int32), iv (2 : Int32), iv p4, iv (0 : Int32), iv (1 : Int32), .unset, .unset] [(.int (((1 : Int32).toUInt32 >>> ((1 : Int32) &&& 31).toUInt32).toInt32))]) t → own_S p e below s₁ f0 t := fun t k => R0 t (by
    refine XS.iloadN X0.here hx rfl (hb hby d13_0) rfl  ?_
    refine XS.istore X0.here hx rfl (hb hby d13_1) rfl (l' := #[rv a1, iv (0 : Int32), iv (2 : Int32), iv p4, iv (0 : Int32), .unset, .unset, .unset]) rfl ?_
    refine XS.iloadN X0.here hx rfl (hb hby d13_3) rfl  ?_
    refine XS.iconst X0.here hx rfl (hb hby d13_4) ?_
    refine XS.isub X0.here hx rfl (hb hby d13_5) rfl ?_
    refine XS.istore X0.here hx rfl (hb hby d13_6) rfl (l' := #[rv a1, iv (0 : Int32), iv (2 : Int32), iv p4, iv (0 : Int32), iv (1 : Int32), .unset, .unset]) rfl ?_
    show own_S p e below s₁ (mkF m 8 #[rv a1, iv (0 : Int32), iv (2 : Int32), iv p4, iv (0 : Int32), iv (1 : Int32), .unset, .unset] []) _
    refine XS.iload X0.here hx rfl (hb hby d13_8) rfl  ?_
    refine XS.iload X0.here hx rfl (hb hby d13_10) rfl  ?_
    refine XS.icmpNo X0.here hx rfl (hb hby d13_12) rfl (flt (by decide : ¬ ((1 : Int32) < (0 : Int32)))).2.2.1 ?_
    refine XS.iload X0.here hx rfl (hb hby d13_15) rfl  ?_
    refine XS.iload X0.here hx rfl (hb hby d13_17) rfl  ?_
    refine XS.iadd X0.here hx rfl (hb hby d13_19) rfl ?_
    show own_S p e below s₁ (mkF m 20 #[rv a1, iv (0 : Int32), iv (2 : Int32), iv p4, iv (0 : Int32), iv (1 : Int32), .unset, .unset] [(.int (1 : Int32))]) _
    refine XS.iconst X0.here hx rfl (hb hby d13_20) ?_
    refine XS.iushr X0.here hx rfl (hb hby d13_21) rfl ?_
    exact k)
  have R2 : ∀ t, own_S p e below s₁ (mkF m 22 #[rv a1, iv (0 : Int32), iv (2 : Int32), iv p4, iv (0 : Int32), iv (1 : Int32), .unset, .unset] [(.int (0 : Int32))]) t → own_S p e below s₁ f0 t := by have q := R1; rw [((by decide) : (((1 : Int32).toUInt32 >>> ((1 : Int32) &&& 31).toUInt32).toInt32) = (0 : Int32))] at q; exact q
  have R3 : ∀ t, own_S p e below s₁ (mkF m 27 #[rv a1, iv (0 : Int32), iv (2 : Int32), iv p4, iv (0 : Int32), iv (1 : Int32), iv (0 : Int32), .unset] [(.int (0 : Int32)), (.ref a1)]) t → own_S p e below s₁ f0 t := fun t k => R2 t (by
    refine XS.istore X0.here hx rfl (hb hby d13_22) rfl (l' := #[rv a1, iv (0 : Int32), iv (2 : Int32), iv p4, iv (0 : Int32), iv (1 : Int32), iv (0 : Int32), .unset]) rfl ?_
    refine XS.aloadN X0.here hx rfl (hb hby d13_24) rfl rfl ?_
    refine XS.iload X0.here hx rfl (hb hby d13_25) rfl  ?_
    exact k)
  obtain ⟨cl4, Ar4, q4, S4, n4_, H4, G4⟩ := id A_a1
  have hin4 : ¬ ((0 : Int32) < 0 ∨ cl4.slots.size ≤ ((0 : Int32)).toNatClampNeg) := inb_of S4 ⟨by decide, by decide⟩
  have hat4 : cl4.slots[((0 : Int32)).toNatClampNeg]? = some (.int x0) := Has.at H4 hin4 rfl
  have R5 : ∀ t, own_S p e below s₁ (mkF m 28 #[rv a1, iv (0 : Int32), iv (2 : Int32), iv p4, iv (0 : Int32), iv (1 : Int32), iv (0 : Int32), .unset] [(.int x0)]) t → own_S p e below s₁ f0 t := fun t k => R3 t (X0.iaload hx (j := (0 : Int32)) (v := (.int x0)) (by rw [e0]; exact Ar4.1) (State.isArrayOf_alike hZ.alike Ar4.2.1) Ar4.2.2 hin4 hat4 (g := (mkF m 27 #[rv a1, iv (0 : Int32), iv (2 : Int32), iv p4, iv (0 : Int32), iv (1 : Int32), iv (0 : Int32), .unset] [(.int (0 : Int32)), (.ref a1)])) rfl rfl (hb hby d13_27) _ k)
  have R6 : ∀ t, own_S p e below s₁ (mkF m 22 #[rv a1, iv (0 : Int32), iv (2 : Int32), iv p4, iv (1 : Int32), iv (1 : Int32), iv (0 : Int32), iv x0] [(.int (((2 : Int32).toUInt32 >>> ((1 : Int32) &&& 31).toUInt32).toInt32))]) t → own_S p e below s₁ f0 t := fun t k => R5 t (by
    refine XS.istore X0.here hx rfl (hb hby d13_28) rfl (l' := #[rv a1, iv (0 : Int32), iv (2 : Int32), iv p4, iv (0 : Int32), iv (1 : Int32), iv (0 : Int32), iv x0]) rfl ?_
    refine XS.iload X0.here hx rfl (hb hby d13_30) rfl  ?_
    refine XS.iloadN X0.here hx rfl (hb hby d13_32) rfl  ?_
    refine XS.icmpNo X0.here hx rfl (hb hby d13_33) rfl (tlt ho0).2.1 ?_
    refine XS.iload X0.here hx rfl (hb hby d13_36) rfl  ?_
    refine XS.iconst X0.here hx rfl (hb hby d13_38) ?_
    show own_S p e below s₁ (mkF m 39 #[rv a1, iv (0 : Int32), iv (2 : Int32), iv p4, iv (0 : Int32), iv (1 : Int32), iv (0 : Int32), iv x0] [(.int (1 : Int32)), (.int (0 : Int32))]) _
    refine XS.iadd X0.here hx rfl (hb hby d13_39) rfl ?_
    refine XS.istore X0.here hx rfl (hb hby d13_40) rfl (l' := #[rv a1, iv (0 : Int32), iv (2 : Int32), iv p4, iv (1 : Int32), iv (1 : Int32), iv (0 : Int32), iv x0]) rfl ?_
    refine XS.goto X0.here hx rfl (pc0 := 42) (pc' := 63) rfl (hb hby d13_42) (by decide) (by decide) ?_
    refine XS.goto X0.here hx rfl (pc0 := 63) (pc' := 8) rfl (hb hby d13_63) (by decide) (by decide) ?_
    refine XS.iload X0.here hx rfl (hb hby d13_8) rfl  ?_
    refine XS.iload X0.here hx rfl (hb hby d13_10) rfl  ?_
    show own_S p e below s₁ (mkF m 12 #[rv a1, iv (0 : Int32), iv (2 : Int32), iv p4, iv (1 : Int32), iv (1 : Int32), iv (0 : Int32), iv x0] [(.int (1 : Int32)), (.int (1 : Int32))]) _
    refine XS.icmpNo X0.here hx rfl (hb hby d13_12) rfl (flt (by decide : ¬ ((1 : Int32) < (1 : Int32)))).2.2.1 ?_
    refine XS.iload X0.here hx rfl (hb hby d13_15) rfl  ?_
    refine XS.iload X0.here hx rfl (hb hby d13_17) rfl  ?_
    refine XS.iadd X0.here hx rfl (hb hby d13_19) rfl ?_
    refine XS.iconst X0.here hx rfl (hb hby d13_20) ?_
    refine XS.iushr X0.here hx rfl (hb hby d13_21) rfl ?_
    exact k)
  have R7 : ∀ t, own_S p e below s₁ (mkF m 22 #[rv a1, iv (0 : Int32), iv (2 : Int32), iv p4, iv (1 : Int32), iv (1 : Int32), iv (0 : Int32), iv x0] [(.int (1 : Int32))]) t → own_S p e below s₁ f0 t := by have q := R6; rw [((by decide) : (((2 : Int32).toUInt32 >>> ((1 : Int32) &&& 31).toUInt32).toInt32) = (1 : Int32))] at q; exact q
  have R8 : ∀ t, own_S p e below s₁ (mkF m 27 #[rv a1, iv (0 : Int32), iv (2 : Int32), iv p4, iv (1 : Int32), iv (1 : Int32), iv (1 : Int32), iv x0] [(.int (1 : Int32)), (.ref a1)]) t → own_S p e below s₁ f0 t := fun t k => R7 t (by
    refine XS.istore X0.here hx rfl (hb hby d13_22) rfl (l' := #[rv a1, iv (0 : Int32), iv (2 : Int32), iv p4, iv (1 : Int32), iv (1 : Int32), iv (1 : Int32), iv x0]) rfl ?_
    refine XS.aloadN X0.here hx rfl (hb hby d13_24) rfl rfl ?_
    refine XS.iload X0.here hx rfl (hb hby d13_25) rfl  ?_
    exact k)
  obtain ⟨cl9, Ar9, q9, S9, n9_, H9, G9⟩ := id A_a1
  have hin9 : ¬ ((1 : Int32) < 0 ∨ cl9.slots.size ≤ ((1 : Int32)).toNatClampNeg) := inb_of S9 ⟨by decide, by decide⟩
  have hat9 : cl9.slots[((1 : Int32)).toNatClampNeg]? = some (.int x1) := Has.at H9 hin9 rfl
  have R10 : ∀ t, own_S p e below s₁ (mkF m 28 #[rv a1, iv (0 : Int32), iv (2 : Int32), iv p4, iv (1 : Int32), iv (1 : Int32), iv (1 : Int32), iv x0] [(.int x1)]) t → own_S p e below s₁ f0 t := fun t k => R8 t (X0.iaload hx (j := (1 : Int32)) (v := (.int x1)) (by rw [e0]; exact Ar9.1) (State.isArrayOf_alike hZ.alike Ar9.2.1) Ar9.2.2 hin9 hat9 (g := (mkF m 27 #[rv a1, iv (0 : Int32), iv (2 : Int32), iv p4, iv (1 : Int32), iv (1 : Int32), iv (1 : Int32), iv x0] [(.int (1 : Int32)), (.ref a1)])) rfl rfl (hb hby d13_27) _ k)
  have R11 : ∀ t, own_S p e below s₁ (mkF m 71 #[rv a1, iv (0 : Int32), iv (2 : Int32), iv p4, iv (1 : Int32), iv (0 : Int32), iv (1 : Int32), iv x1] [(.int (-(2 : Int32)))]) t → own_S p e below s₁ f0 t := fun t k => R10 t (by
    refine XS.istore X0.here hx rfl (hb hby d13_28) rfl (l' := #[rv a1, iv (0 : Int32), iv (2 : Int32), iv p4, iv (1 : Int32), iv (1 : Int32), iv (1 : Int32), iv x1]) rfl ?_
    refine XS.iload X0.here hx rfl (hb hby d13_30) rfl  ?_
    refine XS.iloadN X0.here hx rfl (hb hby d13_32) rfl  ?_
    refine XS.icmpYes X0.here hx rfl (pc0 := 33) (pc' := 45) rfl (hb hby d13_33) rfl (flt (own_asym ho1)).2.1 (by decide) (by decide) ?_
    refine XS.iload X0.here hx rfl (hb hby d13_45) rfl  ?_
    refine XS.iloadN X0.here hx rfl (hb hby d13_47) rfl  ?_
    show own_S p e below s₁ (mkF m 48 #[rv a1, iv (0 : Int32), iv (2 : Int32), iv p4, iv (1 : Int32), iv (1 : Int32), iv (1 : Int32), iv x1] [(.int p4), (.int x1)]) _
    refine XS.icmpNo X0.here hx rfl (hb hby d13_48) rfl (tlt ho1).2.2.2 ?_
    refine XS.iload X0.here hx rfl (hb hby d13_51) rfl  ?_
    refine XS.iconst X0.here hx rfl (hb hby d13_53) ?_
    refine XS.isub X0.here hx rfl (hb hby d13_54) rfl ?_
    refine XS.istore X0.here hx rfl (hb hby d13_55) rfl (l' := #[rv a1, iv (0 : Int32), iv (2 : Int32), iv p4, iv (1 : Int32), iv (0 : Int32), iv (1 : Int32), iv x1]) rfl ?_
    refine XS.goto X0.here hx rfl (pc0 := 57) (pc' := 63) rfl (hb hby d13_57) (by decide) (by decide) ?_
    show own_S p e below s₁ (mkF m 63 #[rv a1, iv (0 : Int32), iv (2 : Int32), iv p4, iv (1 : Int32), iv (0 : Int32), iv (1 : Int32), iv x1] []) _
    refine XS.goto X0.here hx rfl (pc0 := 63) (pc' := 8) rfl (hb hby d13_63) (by decide) (by decide) ?_
    refine XS.iload X0.here hx rfl (hb hby d13_8) rfl  ?_
    refine XS.iload X0.here hx rfl (hb hby d13_10) rfl  ?_
    refine XS.icmpYes X0.here hx rfl (pc0 := 12) (pc' := 66) rfl (hb hby d13_12) rfl (tlt (by decide : (0 : Int32) < (1 : Int32))).2.2.1 (by decide) (by decide) ?_
    refine XS.iload X0.here hx rfl (hb hby d13_66) rfl  ?_
    refine XS.iconst X0.here hx rfl (hb hby d13_68) ?_
    show own_S p e below s₁ (mkF m 69 #[rv a1, iv (0 : Int32), iv (2 : Int32), iv p4, iv (1 : Int32), iv (0 : Int32), iv (1 : Int32), iv x1] [(.int (1 : Int32)), (.int (1 : Int32))]) _
    refine XS.iadd X0.here hx rfl (hb hby d13_69) rfl ?_
    refine XS.ineg X0.here hx rfl (hb hby d13_70) rfl ?_
    exact k)
  have R12 : ∀ t, own_S p e below s₁ (mkF m 71 #[rv a1, iv (0 : Int32), iv (2 : Int32), iv p4, iv (1 : Int32), iv (0 : Int32), iv (1 : Int32), iv x1] [(.int (-2 : Int32))]) t → own_S p e below s₁ f0 t := by have q := R11; rw [((by decide) : (-(2 : Int32)) = (-2 : Int32))] at q; exact q
  obtain ⟨fs, hr, hrun, hended, hW, hsame⟩ := X0.leave (v := some (.int (-2 : Int32))) (fun h => by rw [Bd.returns] at h; cases h)
  refine ⟨_, _, pre0 _ (R12 _ ?_), hrun, hended, _, _, rfl, ?_, ⟨_, rfl⟩, hW, hsame.mono (by decide) (by decide)⟩
  · show own_S p e below s₁ (mkF m 71 #[rv a1, iv (0 : Int32), iv (2 : Int32), iv p4, iv (1 : Int32), iv (0 : Int32), iv (1 : Int32), iv x1] [(.int (-2 : Int32))]) _
    exact retI X0 hx Bd.returns (hb hby d13_71) hr
  · show Q_rmBz256_2_1_3 Z a1 p4 k1 x0 x1 x2 h0 n0 _ s₁.heap _
    rw [e0]
    exact ⟨rfl, N0, rfl⟩
theorem ef_rmBs256_2_1_3 (m : MethodId) (x0 : Addr) (x1 : Int32) (x2 : Int32) (x3 : Int32) : entryFrame m #[(.ref x0), (.int x1), (.int x2), (.int x3)] 4 = mkF m 0 #[rv x0, iv x1, iv x2, iv x3] [] := by first | (simp [entryFrame, mkF, argsToLocals, Value.category]; done) | rfl
def Q_rmBs256_2_1_3 (Z : State) (a1 : Addr) (p4 : Int32) (k1 : ClassId) (x0 : Int32) (x1 : Int32) (x2 : Int32) (h0 : Heap) (n0 : Nat) (v : Option Value) (h : Heap) (L : List Loc) : Prop := v = some (.int (-2 : Int32)) ∧ Fr n0 L ∧ h = h0
set_option maxRecDepth 65536 in
set_option maxHeartbeats 40000000 in
theorem rmBs256_2_1_3 (l : Launch) (Z : State) (a0 : Array Value) (hw : ∀ d ∈ tables_1, d.before a0 Z = true) (ws : List Jvm.Cond) (a1 : Addr) (p4 : Int32) (k1 : ClassId) (x0 : Int32) (x1 : Int32) (x2 : Int32) (h0 : Heap) (n0 : Nat) (Z0 : n0 ≤ h0.size) (A_a1 : Arv Z h0 a1 k1 .int (256 : Int32) [(.int x0), (.int x1), (.int x2)] (.int (0 : Int32))) (ho0 : x0 < p4) (ho1 : p4 < x1) :
    own_M l (⟨"java/util/Arrays", "binarySearch", "([IIII)I"⟩ : MethodName) (Jvm.Cond.code (⟨"java/util/Arrays", "binarySearch", "([IIII)I"⟩ : MethodName) jdk_65_method_58_code 4 (some .int) :: ws) ({ frames := 1, cells := 0, slots := 0, locals := 19 } : Room) #[(.ref a1), (.int (0 : Int32)), (.int (2 : Int32)), (.int p4)] Z h0 (Q_rmBs256_2_1_3 Z a1 p4 k1 x0 x1 x2 h0 n0) := by
  refine MetFree.of_bodySF (plainFor_of_name pn_7) hisR ?_
  intro p e s m args below meth c s₁ Bd hml0 hP hK
  obtain ⟨rfl, hZ, hh⟩ := hP
  have hx := Bd.exec
  have hby := Bd.bytes
  have hml : c.maxLocals = 4 := hml0
  have hown : s.vm.findClass "java/util/Arrays" = some m.cls := findClass_of_methodNamed Bd.named
  have hnm := (name_of_methodNamed Bd.named Bd.method).1
  have X0 : Stand p l e ({ frames := 1, cells := 0, slots := 0, locals := 19 } : Room) s m #[(.ref a1), (.int (0 : Int32)), (.int (2 : Int32)), (.int p4)] below meth c s₁ [] 0 0 := Stand.of_body Bd
  have hU : ∀ (i : Nat) (d : Jvm.Cond), tables_1[i]? = some d → d.before a0 Z = true := fun i d h => hw d (List.mem_of_getElem? h)
  have e0 : s₁.heap = h0 := by rw [← hh, Bd.state]; rfl
  have N0 := Fr.nil n0
  obtain ⟨f0, hf0⟩ : ∃ f : JFrame, f = mkF m 0 #[rv a1, iv (0 : Int32), iv (2 : Int32), iv p4] [] := ⟨_, rfl⟩
  have pre0 : ∀ t, own_S p e below s₁ f0 t → Steps p.tables e below (s₁.setTop (entryFrame m #[(.ref a1), (.int (0 : Int32)), (.int (2 : Int32)), (.int p4)] 4)) t := fun t k => castTop ((ef_rmBs256_2_1_3 m a1 (0 : Int32) (2 : Int32) p4).trans hf0.symm) k
  have R0 : ∀ t, own_S p e below s₁ (mkF m 0 #[rv a1, iv (0 : Int32), iv (2 : Int32), iv p4] []) t → own_S p e below s₁ f0 t := by rw [hf0]; exact fun t k => k
  have R1 : ∀ t, own_S p e below s₁ (mkF m 1 #[rv a1, iv (0 : Int32), iv (2 : Int32), iv p4] [(.ref a1)]) t → own_S p e below s₁ f0 t := fun t k => R0 t (by
    refine XS.aloadN X0.here hx rfl (hb hby d11_0) rfl rfl ?_
    exact k)
  obtain ⟨cl2, Ar2, -, S2, N2_, -, -⟩ := id A_a1
  have R3 : ∀ t, own_S p e below s₁ (mkF m 2 #[rv a1, iv (0 : Int32), iv (2 : Int32), iv p4] [(.int (256 : Int32))]) t → own_S p e below s₁ f0 t := fun t k => R1 t (X0.arraylength hx (by rw [e0]; exact Ar2.1) (State.isArrayOf_alike hZ.alike Ar2.2.1) (g := (mkF m 1 #[rv a1, iv (0 : Int32), iv (2 : Int32), iv p4] [(.ref a1)])) rfl rfl (hb hby d11_1) _ (by rw [len_of S2 N2_]; exact k))
  have R4 : ∀ t, own_S p e below s₁ (mkF m 4 #[rv a1, iv (0 : Int32), iv (2 : Int32), iv p4] [(.int (2 : Int32)), (.int (0 : Int32)), (.int (256 : Int32))]) t → own_S p e below s₁ f0 t := fun t k => R3 t (by
    refine XS.iloadN X0.here hx rfl (hb hby d11_2) rfl  ?_
    refine XS.iloadN X0.here hx rfl (hb hby d11_3) rfl  ?_
    exact k)
  obtain ⟨_, _, ⟨T5, L5, k5, n5⟩, -, X5, ⟨Lc5, hQ5, l5, y5, z5⟩, st5⟩ := Jvm.LawKit.callS X0 hx (y := (⟨"java/util/Arrays", "rangeCheck", "(III)V"⟩ : MethodName)) hown (mvT hZ (hU 91 _ rfl)) (mvT hZ (hU 92 _ rfl)) (mvT hZ (hU 89 _ rfl)) (mvT hZ (hU 93 _ rfl)) (by decide) (backOf (W := 0) (rmRc256_2 l Z a0 hw []  h0 n0 Z0) hZ (hU 93 _ rfl) (hU 89 _ rfl) (by decide) (by decide)) (g := (mkF m 4 #[rv a1, iv (0 : Int32), iv (2 : Int32), iv p4] [(.int (2 : Int32)), (.int (0 : Int32)), (.int (256 : Int32))])) rfl (by rw [hml]; rfl) (argsL := [(.int (256 : Int32)), (.int (0 : Int32)), (.int (2 : Int32))]) (rest := []) (lenOf pd_8 rfl) rfl (Nat.le_of_eq rfl) (hb hby d11_4) (fun _ _ => ⟨rfl, e0, (by decide : 0 + 0 ≤ _), (by decide : 0 + 0 ≤ _)⟩)
  dsimp only [Pt.U, Pt.locs, Pt.cells, Pt.slots] at X5 l5 y5 z5 st5 hQ5
  subst l5 y5 z5
  obtain ⟨rfl, N5q, p5_0⟩ := hQ5
  have N5 := Fr.app N0 N5q
  have R6 := fun t k => R4 t (st5 t k)
  have R7 : ∀ t, own_S p e below T5 (mkF m 11 #[rv a1, iv (0 : Int32), iv (2 : Int32), iv p4] [(.int p4), (.int (2 : Int32)), (.int (0 : Int32)), (.ref a1)]) t → own_S p e below s₁ f0 t := fun t k => R6 t (by
    refine XS.aloadN X5.here hx rfl (hb hby d11_7) rfl rfl ?_
    refine XS.iloadN X5.here hx rfl (hb hby d11_8) rfl  ?_
    refine XS.iloadN X5.here hx rfl (hb hby d11_9) rfl  ?_
    refine XS.iloadN X5.here hx rfl (hb hby d11_10) rfl  ?_
    exact k)
  obtain ⟨_, _, ⟨T8, L8, k8, n8⟩, -, X8, ⟨Lc8, hQ8, l8, y8, z8⟩, st8⟩ := Jvm.LawKit.callS X5 hx (y := (⟨"java/util/Arrays", "binarySearch0", "([IIII)I"⟩ : MethodName)) hown (mvT hZ (hU 94 _ rfl)) (mvT hZ (hU 95 _ rfl)) (mvT hZ (hU 89 _ rfl)) (mvT hZ (hU 96 _ rfl)) (by decide) (backOf (W := 0) (rmBz256_2_1_3 l Z a0 hw [] a1 p4 k1 x0 x1 x2 h0 n0 Z0 A_a1 ho0 ho1) hZ (hU 96 _ rfl) (hU 89 _ rfl) (by decide) (by decide)) (g := (mkF m 11 #[rv a1, iv (0 : Int32), iv (2 : Int32), iv p4] [(.int p4), (.int (2 : Int32)), (.int (0 : Int32)), (.ref a1)])) rfl (by rw [hml]; rfl) (argsL := [(.ref a1), (.int (0 : Int32)), (.int (2 : Int32)), (.int p4)]) (rest := []) (lenOf pd_9 rfl) rfl (Nat.le_of_eq rfl) (hb hby d11_11) (fun _ _ => ⟨rfl, p5_0, (by decide : 0 + 0 ≤ _), (by decide : 0 + 0 ≤ _)⟩)
  dsimp only [Pt.U, Pt.locs, Pt.cells, Pt.slots] at X8 l8 y8 z8 st8 hQ8
  subst l8 y8 z8
  obtain ⟨rfl, N8q, p8_0⟩ := hQ8
  have N8 := Fr.app N5 N8q
  have R9 := fun t k => R7 t (st8 t k)
  obtain ⟨fs, hr, hrun, hended, hW, hsame⟩ := X8.leave (v := some (.int (-2 : Int32))) (fun h => by rw [Bd.returns] at h; cases h)
  refine ⟨_, _, pre0 _ (R9 _ ?_), hrun, hended, _, _, rfl, ?_, ⟨_, rfl⟩, hW, hsame.mono (by decide) (by decide)⟩
  · show own_S p e below T8 (mkF m 14 #[rv a1, iv (0 : Int32), iv (2 : Int32), iv p4] [(.int (-2 : Int32))]) _
    exact retI X8 hx Bd.returns (hb hby d11_14) hr
  · show Q_rmBs256_2_1_3 Z a1 p4 k1 x0 x1 x2 h0 n0 _ T8.heap _
    rw [p8_0]
    exact ⟨rfl, N8, rfl⟩
theorem ef_rmMax_0_0 (m : MethodId) (x0 : Int32) (x1 : Int32) : entryFrame m #[(.int x0), (.int x1)] 2 = mkF m 0 #[iv x0, iv x1] [] := by first | (simp [entryFrame, mkF, argsToLocals, Value.category]; done) | rfl
def Q_rmMax_0_0 (Z : State)  (h0 : Heap) (n0 : Nat) (v : Option Value) (h : Heap) (L : List Loc) : Prop := v = some (.int (0 : Int32)) ∧ Fr n0 L ∧ h = h0
set_option maxRecDepth 65536 in
set_option maxHeartbeats 40000000 in
theorem rmMax_0_0 (l : Launch) (Z : State) (a0 : Array Value) (hw : ∀ d ∈ tables_1, d.before a0 Z = true) (ws : List Jvm.Cond)  (h0 : Heap) (n0 : Nat) (Z0 : n0 ≤ h0.size) :
    own_M l (⟨"java/lang/Math", "max", "(II)I"⟩ : MethodName) (Jvm.Cond.code (⟨"java/lang/Math", "max", "(II)I"⟩ : MethodName) jdk_29_method_65_code 2 (some .int) :: ws) ({ frames := 0, cells := 0, slots := 0, locals := 0 } : Room) #[(.int (0 : Int32)), (.int (0 : Int32))] Z h0 (Q_rmMax_0_0 Z  h0 n0) := by
  refine MetFree.of_bodySF (Jvm.Free.JP.mathPlain rfl (by decide +kernel)) hisR ?_
  intro p e s m args below meth c s₁ Bd hml0 hP hK
  obtain ⟨rfl, hZ, hh⟩ := hP
  have hx := Bd.exec
  have hby := Bd.bytes
  have hml : c.maxLocals = 2 := hml0
  have hown : s.vm.findClass "java/lang/Math" = some m.cls := findClass_of_methodNamed Bd.named
  have hnm := (name_of_methodNamed Bd.named Bd.method).1
  have X0 : Stand p l e ({ frames := 0, cells := 0, slots := 0, locals := 0 } : Room) s m #[(.int (0 : Int32)), (.int (0 : Int32))] below meth c s₁ [] 0 0 := Stand.of_body Bd
  have hU : ∀ (i : Nat) (d : Jvm.Cond), tables_1[i]? = some d → d.before a0 Z = true := fun i d h => hw d (List.mem_of_getElem? h)
  have e0 : s₁.heap = h0 := by rw [← hh, Bd.state]; rfl
  have N0 := Fr.nil n0
  obtain ⟨f0, hf0⟩ : ∃ f : JFrame, f = mkF m 0 #[iv (0 : Int32), iv (0 : Int32)] [] := ⟨_, rfl⟩
  have pre0 : ∀ t, own_S p e below s₁ f0 t → Steps p.tables e below (s₁.setTop (entryFrame m #[(.int (0 : Int32)), (.int (0 : Int32))] 2)) t := fun t k => castTop ((ef_rmMax_0_0 m (0 : Int32) (0 : Int32)).trans hf0.symm) k
  have R0 : ∀ t, own_S p e below s₁ (mkF m 0 #[iv (0 : Int32), iv (0 : Int32)] []) t → own_S p e below s₁ f0 t := by rw [hf0]; exact fun t k => k
  have R1 : ∀ t, own_S p e below s₁ (mkF m 10 #[iv (0 : Int32), iv (0 : Int32)] [(.int (0 : Int32))]) t → own_S p e below s₁ f0 t := fun t k => R0 t (by
    refine XS.iloadN X0.here hx rfl (hb hby d14_0) rfl  ?_
    refine XS.iloadN X0.here hx rfl (hb hby d14_1) rfl  ?_
    refine XS.icmpNo X0.here hx rfl (hb hby d14_2) rfl (flt (by decide : ¬ ((0 : Int32) < (0 : Int32)))).1 ?_
    refine XS.iloadN X0.here hx rfl (hb hby d14_5) rfl  ?_
    refine XS.goto X0.here hx rfl (pc0 := 6) (pc' := 10) rfl (hb hby d14_6) (by decide) (by decide) ?_
    exact k)
  obtain ⟨fs, hr, hrun, hended, hW, hsame⟩ := X0.leave (v := some (.int (0 : Int32))) (fun h => by rw [Bd.returns] at h; cases h)
  refine ⟨_, _, pre0 _ (R1 _ ?_), hrun, hended, _, _, rfl, ?_, ⟨_, rfl⟩, hW, hsame.mono (by decide) (by decide)⟩
  · show own_S p e below s₁ (mkF m 10 #[iv (0 : Int32), iv (0 : Int32)] [(.int (0 : Int32))]) _
    exact retI X0 hx Bd.returns (hb hby d14_10) hr
  · show Q_rmMax_0_0 Z  h0 n0 _ s₁.heap _
    rw [e0]
    exact ⟨rfl, N0, rfl⟩
theorem ef_rmFind2_1 (m : MethodId) (x0 : Addr) (x1 : Int32) : entryFrame m #[(.ref x0), (.int x1)] 6 = mkF m 0 #[rv x0, iv x1, .unset, .unset, .unset, .unset] [] := by first | (simp [entryFrame, mkF, argsToLocals, Value.category]; done) | rfl
def Q_rmFind2_1 (Z : State) (oR : Addr) (p2 : Int32) (ckR : Addr) (kckR : ClassId) (kkR : Addr) (x0 : Int32) (x1 : Int32) (saR : Addr) (kstR : ClassId) (fiR : Addr) (kfiR : ClassId) (h0 : Heap) (n0 : Nat) (v : Option Value) (h : Heap) (L : List Loc) : Prop := v = some (.long (257 : Int64)) ∧ Fr n0 L ∧ h = h0
set_option maxRecDepth 65536 in
set_option maxHeartbeats 40000000 in
theorem rmFind2_1 (l : Launch) (Z : State) (a0 : Array Value) (hw : ∀ d ∈ tables_1, d.before a0 Z = true) (ws : List Jvm.Cond) (oR : Addr) (p2 : Int32) (ckR : Addr) (kckR : ClassId) (kkR : Addr) (x0 : Int32) (x1 : Int32) (saR : Addr) (kstR : ClassId) (fiR : Addr) (kfiR : ClassId) (h0 : Heap) (n0 : Nat) (Z0 : n0 ≤ h0.size) (F_chunks_oR : Fld Z h0 oR sN0 "chunks" sN3 (.ref ckR)) (F_chunkCount_oR : Fld Z h0 oR sN0 "chunkCount" "I" (.int (1 : Int32))) (A_ckR : Arv Z h0 ckR kckR (.object sN1) (1 : Int32) [(.ref kkR)] .null) (F_size_kkR : Fld Z h0 kkR sN1 "size" "I" (.int (2 : Int32))) (F_starts_kkR : Fld Z h0 kkR sN1 "starts" "[I" (.ref saR)) (A_saR : Arv Z h0 saR kstR .int (256 : Int32) [(.int x0), (.int x1), (.int (0 : Int32))] (.int (0 : Int32))) (F_firsts_oR : Fld Z h0 oR sN0 "firsts" "[I" (.ref fiR)) (A_fiR : Arv Z h0 fiR kfiR .int (1 : Int32) [(.int x0)] (.int (0 : Int32))) (ho0 : x0 < p2) (ho1 : p2 < x1) :
    own_M l (⟨sN0, "find", "(I)J"⟩ : MethodName) (Jvm.Cond.code (⟨sN0, "find", "(I)J"⟩ : MethodName) prog_118_method_2_code 6 (some .long) :: ws) ({ frames := 2, cells := 0, slots := 0, locals := 34 } : Room) #[(.ref oR), (.int p2)] Z h0 (Q_rmFind2_1 Z oR p2 ckR kckR kkR x0 x1 saR kstR fiR kfiR h0 n0) := by
  refine MetFree.of_bodySF (plainFor_of_name pn_1) hisR ?_
  intro p e s m args below meth c s₁ Bd hml0 hP hK
  obtain ⟨rfl, hZ, hh⟩ := hP
  have hx := Bd.exec
  have hby := Bd.bytes
  have hml : c.maxLocals = 6 := hml0
  have hown : s.vm.findClass sN0 = some m.cls := findClass_of_methodNamed Bd.named
  have hnm := (name_of_methodNamed Bd.named Bd.method).1
  have X0 : Stand p l e ({ frames := 2, cells := 0, slots := 0, locals := 34 } : Room) s m #[(.ref oR), (.int p2)] below meth c s₁ [] 0 0 := Stand.of_body Bd
  have hU : ∀ (i : Nat) (d : Jvm.Cond), tables_1[i]? = some d → d.before a0 Z = true := fun i d h => hw d (List.mem_of_getElem? h)
  have e0 : s₁.heap = h0 := by rw [← hh, Bd.state]; rfl
  have N0 := Fr.nil n0
  obtain ⟨f0, hf0⟩ : ∃ f : JFrame, f = mkF m 0 #[rv oR, iv p2, .unset, .unset, .unset, .unset] [] := ⟨_, rfl⟩
  have pre0 : ∀ t, own_S p e below s₁ f0 t → Steps p.tables e below (s₁.setTop (entryFrame m #[(.ref oR), (.int p2)] 6)) t := fun t k => castTop ((ef_rmFind2_1 m oR p2).trans hf0.symm) k
  have R0 : ∀ t, own_S p e below s₁ (mkF m 0 #[rv oR, iv p2, .unset, .unset, .unset, .unset] []) t → own_S p e below s₁ f0 t := by rw [hf0]; exact fun t k => k
  have R1 : ∀ t, own_S p e below s₁ (mkF m 1 #[rv oR, iv p2, .unset, .unset, .unset, .unset] [(.ref oR)]) t → own_S p e below s₁ f0 t := fun t k => R0 t (by
    refine XS.aloadN X0.here hx rfl (hb hby d7_0) rfl rfl ?_
    exact k)
  obtain ⟨T2, X2, e2, st2⟩ := getF X0 hx hZ hown (host := "") (Or.inl (hU 43 _ rfl)) Via.refl e0 F_chunks_oR (g := (mkF m 1 #[rv oR, iv p2, .unset, .unset, .unset, .unset] [(.ref oR)])) rfl rfl (hb hby d7_1)
  have R3 := fun t k => R1 t (st2 t k)
  have R4 : ∀ t, own_S p e below T2 (mkF m 5 #[rv oR, iv p2, .unset, .unset, .unset, .unset] [(.ref oR), (.ref ckR)]) t → own_S p e below s₁ f0 t := fun t k => R3 t (by
    refine XS.aloadN X2.here hx rfl (hb hby d7_4) rfl rfl ?_
    exact k)
  obtain ⟨T5, X5, e5, st5⟩ := getF X2 hx hZ hown (host := "") (Or.inl (hU 22 _ rfl)) Via.refl e2 F_chunkCount_oR (g := (mkF m 5 #[rv oR, iv p2, .unset, .unset, .unset, .unset] [(.ref oR), (.ref ckR)])) rfl rfl (hb hby d7_5)
  have R6 := fun t k => R4 t (st5 t k)
  have R7 : ∀ t, own_S p e below T5 (mkF m 10 #[rv oR, iv p2, .unset, .unset, .unset, .unset] [(.int (0 : Int32)), (.ref ckR)]) t → own_S p e below s₁ f0 t := fun t k => R6 t (by
    refine XS.iconst X5.here hx rfl (hb hby d7_8) ?_
    refine XS.isub X5.here hx rfl (hb hby d7_9) rfl ?_
    exact k)
  obtain ⟨cl8, Ar8, q8, S8, n8_, H8, G8⟩ := id A_ckR
  have hin8 : ¬ ((0 : Int32) < 0 ∨ cl8.slots.size ≤ ((0 : Int32)).toNatClampNeg) := inb_of S8 ⟨by decide, by decide⟩
  have hat8 : cl8.slots[((0 : Int32)).toNatClampNeg]? = some (.ref kkR) := Has.at H8 hin8 rfl
  have R9 : ∀ t, own_S p e below T5 (mkF m 11 #[rv oR, iv p2, .unset, .unset, .unset, .unset] [(.ref kkR)]) t → own_S p e below s₁ f0 t := fun t k => R7 t (X5.aaload hx (j := (0 : Int32)) (v := (.ref kkR)) (by rw [e5]; exact Ar8.1) (State.isArrayOf_alike hZ.alike Ar8.2.1) rfl Ar8.2.2 hin8 hat8 (g := (mkF m 10 #[rv oR, iv p2, .unset, .unset, .unset, .unset] [(.int (0 : Int32)), (.ref ckR)])) rfl rfl (hb hby d7_10) _ k)
  have R10 : ∀ t, own_S p e below T5 (mkF m 13 #[rv oR, iv p2, rv kkR, .unset, .unset, .unset] [(.ref kkR)]) t → own_S p e below s₁ f0 t := fun t k => R9 t (by
    refine XS.astoreN X5.here hx rfl (hb hby d7_11) rfl rfl (l' := #[rv oR, iv p2, rv kkR, .unset, .unset, .unset]) rfl ?_
    refine XS.aloadN X5.here hx rfl (hb hby d7_12) rfl rfl ?_
    exact k)
  obtain ⟨T11, X11, e11, st11⟩ := getF X5 hx hZ hown (Or.inr (hU 66 _ rfl)) Via.refl e5 F_size_kkR (g := (mkF m 13 #[rv oR, iv p2, rv kkR, .unset, .unset, .unset] [(.ref kkR)])) rfl rfl (hb hby d7_13)
  have R12 := fun t k => R10 t (st11 t k)
  have R13 : ∀ t, own_S p e below T11 (mkF m 21 #[rv oR, iv p2, rv kkR, .unset, .unset, .unset] [(.ref kkR), (.int p2)]) t → own_S p e below s₁ f0 t := fun t k => R12 t (by
    refine XS.ifNo X11.here hx rfl (hb hby d7_16) rfl ((if0 _ _).trans (feq (by decide : ¬ ((2 : Int32) = (0 : Int32)))).1) ?_
    refine XS.iloadN X11.here hx rfl (hb hby d7_19) rfl  ?_
    refine XS.aloadN X11.here hx rfl (hb hby d7_20) rfl rfl ?_
    exact k)
  obtain ⟨T14, X14, e14, st14⟩ := getF X11 hx hZ hown (Or.inr (hU 83 _ rfl)) Via.refl e11 F_starts_kkR (g := (mkF m 21 #[rv oR, iv p2, rv kkR, .unset, .unset, .unset] [(.ref kkR), (.int p2)])) rfl rfl (hb hby d7_21)
  have R15 := fun t k => R13 t (st14 t k)
  have R16 : ∀ t, own_S p e below T14 (mkF m 25 #[rv oR, iv p2, rv kkR, .unset, .unset, .unset] [(.ref kkR), (.ref saR), (.int p2)]) t → own_S p e below s₁ f0 t := fun t k => R15 t (by
    refine XS.aloadN X14.here hx rfl (hb hby d7_24) rfl rfl ?_
    exact k)
  obtain ⟨T17, X17, e17, st17⟩ := getF X14 hx hZ hown (Or.inr (hU 66 _ rfl)) Via.refl e14 F_size_kkR (g := (mkF m 25 #[rv oR, iv p2, rv kkR, .unset, .unset, .unset] [(.ref kkR), (.ref saR), (.int p2)])) rfl rfl (hb hby d7_25)
  have R18 := fun t k => R16 t (st17 t k)
  have R19 : ∀ t, own_S p e below T17 (mkF m 30 #[rv oR, iv p2, rv kkR, .unset, .unset, .unset] [(.int (1 : Int32)), (.ref saR), (.int p2)]) t → own_S p e below s₁ f0 t := fun t k => R18 t (by
    refine XS.iconst X17.here hx rfl (hb hby d7_28) ?_
    refine XS.isub X17.here hx rfl (hb hby d7_29) rfl ?_
    exact k)
  obtain ⟨cl20, Ar20, q20, S20, n20_, H20, G20⟩ := id A_saR
  have hin20 : ¬ ((1 : Int32) < 0 ∨ cl20.slots.size ≤ ((1 : Int32)).toNatClampNeg) := inb_of S20 ⟨by decide, by decide⟩
  have hat20 : cl20.slots[((1 : Int32)).toNatClampNeg]? = some (.int x1) := Has.at H20 hin20 rfl
  have R21 : ∀ t, own_S p e below T17 (mkF m 31 #[rv oR, iv p2, rv kkR, .unset, .unset, .unset] [(.int x1), (.int p2)]) t → own_S p e below s₁ f0 t := fun t k => R19 t (X17.iaload hx (j := (1 : Int32)) (v := (.int x1)) (by rw [e17]; exact Ar20.1) (State.isArrayOf_alike hZ.alike Ar20.2.1) Ar20.2.2 hin20 hat20 (g := (mkF m 30 #[rv oR, iv p2, rv kkR, .unset, .unset, .unset] [(.int (1 : Int32)), (.ref saR), (.int p2)])) rfl rfl (hb hby d7_30) _ k)
  have R22 : ∀ t, own_S p e below T17 (mkF m 56 #[rv oR, iv p2, rv kkR, .unset, .unset, .unset] [(.ref oR)]) t → own_S p e below s₁ f0 t := fun t k => R21 t (by
    refine XS.icmpYes X17.here hx rfl (pc0 := 31) (pc' := 55) rfl (hb hby d7_31) rfl (flt (own_asym ho1)).2.2.2 (by decide) (by decide) ?_
    refine XS.aloadN X17.here hx rfl (hb hby d7_55) rfl rfl ?_
    exact k)
  obtain ⟨T23, X23, e23, st23⟩ := getF X17 hx hZ hown (host := "") (Or.inl (hU 20 _ rfl)) Via.refl e17 F_firsts_oR (g := (mkF m 56 #[rv oR, iv p2, rv kkR, .unset, .unset, .unset] [(.ref oR)])) rfl rfl (hb hby d7_56)
  have R24 := fun t k => R22 t (st23 t k)
  have R25 : ∀ t, own_S p e below T23 (mkF m 61 #[rv oR, iv p2, rv kkR, .unset, .unset, .unset] [(.ref oR), (.int (0 : Int32)), (.ref fiR)]) t → own_S p e below s₁ f0 t := fun t k => R24 t (by
    refine XS.iconst X23.here hx rfl (hb hby d7_59) ?_
    refine XS.aloadN X23.here hx rfl (hb hby d7_60) rfl rfl ?_
    exact k)
  obtain ⟨T26, X26, e26, st26⟩ := getF X23 hx hZ hown (host := "") (Or.inl (hU 22 _ rfl)) Via.refl e23 F_chunkCount_oR (g := (mkF m 61 #[rv oR, iv p2, rv kkR, .unset, .unset, .unset] [(.ref oR), (.int (0 : Int32)), (.ref fiR)])) rfl rfl (hb hby d7_61)
  have R27 := fun t k => R25 t (st26 t k)
  have R28 : ∀ t, own_S p e below T26 (mkF m 65 #[rv oR, iv p2, rv kkR, .unset, .unset, .unset] [(.int p2), (.int (1 : Int32)), (.int (0 : Int32)), (.ref fiR)]) t → own_S p e below s₁ f0 t := fun t k => R27 t (by
    refine XS.iloadN X26.here hx rfl (hb hby d7_64) rfl  ?_
    exact k)
  obtain ⟨_, _, ⟨T29, L29, k29, n29⟩, -, X29, ⟨Lc29, hQ29, l29, y29, z29⟩, st29⟩ := Jvm.LawKit.callS X26 hx (y := (⟨"java/util/Arrays", "binarySearch", "([IIII)I"⟩ : MethodName)) hown (mvT hZ (hU 87 _ rfl)) (mvT hZ (hU 88 _ rfl)) (mvT hZ (hU 89 _ rfl)) (mvT hZ (hU 90 _ rfl)) (by decide) (backOf (W := 0) (rmBs1_1_1_1 l Z a0 hw [] fiR p2 kfiR x0 h0 n0 Z0 A_fiR ho0) hZ (hU 90 _ rfl) (hU 89 _ rfl) (by decide) (by decide)) (g := (mkF m 65 #[rv oR, iv p2, rv kkR, .unset, .unset, .unset] [(.int p2), (.int (1 : Int32)), (.int (0 : Int32)), (.ref fiR)])) rfl (by rw [hml]; rfl) (argsL := [(.ref fiR), (.int (0 : Int32)), (.int (1 : Int32)), (.int p2)]) (rest := []) (lenOf pd_9 rfl) rfl (Nat.le_of_eq rfl) (hb hby d7_65) (fun _ _ => ⟨rfl, e26, (by decide : 0 + 0 ≤ _), (by decide : 0 + 0 ≤ _)⟩)
  dsimp only [Pt.U, Pt.locs, Pt.cells, Pt.slots] at X29 l29 y29 z29 st29 hQ29
  subst l29 y29 z29
  obtain ⟨rfl, N29q, p29_0⟩ := hQ29
  have N29 := Fr.app N0 N29q
  have R30 := fun t k => R28 t (st29 t k)
  have R31 : ∀ t, own_S p e below T29 (mkF m 76 #[rv oR, iv p2, rv kkR, iv (-2 : Int32), .unset, .unset] [(.int (-(-2 : Int32))), (.int (0 : Int32))]) t → own_S p e below s₁ f0 t := fun t k => R30 t (by
    refine XS.istoreN X29.here hx rfl (hb hby d7_68) rfl (l' := #[rv oR, iv p2, rv kkR, iv (-2 : Int32), .unset, .unset]) rfl ?_
    refine XS.iloadN X29.here hx rfl (hb hby d7_69) rfl  ?_
    refine XS.ifNo X29.here hx rfl (hb hby d7_70) rfl ((if0 _ _).trans (tlt (by decide : (-2 : Int32) < (0 : Int32))).2.1) ?_
    refine XS.iconst X29.here hx rfl (hb hby d7_73) ?_
    refine XS.iloadN X29.here hx rfl (hb hby d7_74) rfl  ?_
    refine XS.ineg X29.here hx rfl (hb hby d7_75) rfl ?_
    exact k)
  have R32 : ∀ t, own_S p e below T29 (mkF m 76 #[rv oR, iv p2, rv kkR, iv (-2 : Int32), .unset, .unset] [(.int (2 : Int32)), (.int (0 : Int32))]) t → own_S p e below s₁ f0 t := by have q := R31; rw [((by decide) : (-(-2 : Int32)) = (2 : Int32))] at q; exact q
  have R33 : ∀ t, own_S p e below T29 (mkF m 78 #[rv oR, iv p2, rv kkR, iv (-2 : Int32), .unset, .unset] [(.int (0 : Int32)), (.int (0 : Int32))]) t → own_S p e below s₁ f0 t := fun t k => R32 t (by
    refine XS.iconst X29.here hx rfl (hb hby d7_76) ?_
    refine XS.isub X29.here hx rfl (hb hby d7_77) rfl ?_
    exact k)
  obtain ⟨_, _, ⟨T34, L34, k34, n34⟩, -, X34, ⟨Lc34, hQ34, l34, y34, z34⟩, st34⟩ := Jvm.LawKit.callS X29 hx (y := (⟨"java/lang/Math", "max", "(II)I"⟩ : MethodName)) hown (mvT hZ (hU 97 _ rfl)) (mvT hZ (hU 98 _ rfl)) (mvT hZ (hU 99 _ rfl)) (mvT hZ (hU 100 _ rfl)) (by decide) (backOf (W := 0) (rmMax_0_0 l Z a0 hw []  h0 n0 Z0) hZ (hU 100 _ rfl) (hU 99 _ rfl) (by decide) (by decide)) (g := (mkF m 78 #[rv oR, iv p2, rv kkR, iv (-2 : Int32), .unset, .unset] [(.int (0 : Int32)), (.int (0 : Int32))])) rfl (by rw [hml]; rfl) (argsL := [(.int (0 : Int32)), (.int (0 : Int32))]) (rest := []) (lenOf pd_10 rfl) rfl (Nat.le_of_eq rfl) (hb hby d7_78) (fun _ _ => ⟨rfl, p29_0, (by decide : 0 + 0 ≤ _), (by decide : 0 + 0 ≤ _)⟩)
  dsimp only [Pt.U, Pt.locs, Pt.cells, Pt.slots] at X34 l34 y34 z34 st34 hQ34
  subst l34 y34 z34
  obtain ⟨rfl, N34q, p34_0⟩ := hQ34
  have N34 := Fr.app N29 N34q
  have R35 := fun t k => R33 t (st34 t k)
  have R36 : ∀ t, own_S p e below T34 (mkF m 83 #[rv oR, iv p2, rv kkR, iv (0 : Int32), .unset, .unset] [(.ref oR)]) t → own_S p e below s₁ f0 t := fun t k => R35 t (by
    refine XS.istoreN X34.here hx rfl (hb hby d7_81) rfl (l' := #[rv oR, iv p2, rv kkR, iv (0 : Int32), .unset, .unset]) rfl ?_
    refine XS.aloadN X34.here hx rfl (hb hby d7_82) rfl rfl ?_
    exact k)
  obtain ⟨T37, X37, e37, st37⟩ := getF X34 hx hZ hown (host := "") (Or.inl (hU 43 _ rfl)) Via.refl p34_0 F_chunks_oR (g := (mkF m 83 #[rv oR, iv p2, rv kkR, iv (0 : Int32), .unset, .unset] [(.ref oR)])) rfl rfl (hb hby d7_83)
  have R38 := fun t k => R36 t (st37 t k)
  have R39 : ∀ t, own_S p e below T37 (mkF m 87 #[rv oR, iv p2, rv kkR, iv (0 : Int32), .unset, .unset] [(.int (0 : Int32)), (.ref ckR)]) t → own_S p e below s₁ f0 t := fun t k => R38 t (by
    refine XS.iloadN X37.here hx rfl (hb hby d7_86) rfl  ?_
    exact k)
  obtain ⟨cl40, Ar40, q40, S40, n40_, H40, G40⟩ := id A_ckR
  have hin40 : ¬ ((0 : Int32) < 0 ∨ cl40.slots.size ≤ ((0 : Int32)).toNatClampNeg) := inb_of S40 ⟨by decide, by decide⟩
  have hat40 : cl40.slots[((0 : Int32)).toNatClampNeg]? = some (.ref kkR) := Has.at H40 hin40 rfl
  have R41 : ∀ t, own_S p e below T37 (mkF m 88 #[rv oR, iv p2, rv kkR, iv (0 : Int32), .unset, .unset] [(.ref kkR)]) t → own_S p e below s₁ f0 t := fun t k => R39 t (X37.aaload hx (j := (0 : Int32)) (v := (.ref kkR)) (by rw [e37]; exact Ar40.1) (State.isArrayOf_alike hZ.alike Ar40.2.1) rfl Ar40.2.2 hin40 hat40 (g := (mkF m 87 #[rv oR, iv p2, rv kkR, iv (0 : Int32), .unset, .unset] [(.int (0 : Int32)), (.ref ckR)])) rfl rfl (hb hby d7_87) _ k)
  have R42 : ∀ t, own_S p e below T37 (mkF m 92 #[rv oR, iv p2, rv kkR, iv (0 : Int32), rv kkR, .unset] [(.ref kkR)]) t → own_S p e below s₁ f0 t := fun t k => R41 t (by
    refine XS.astore X37.here hx rfl (hb hby d7_88) rfl rfl (l' := #[rv oR, iv p2, rv kkR, iv (0 : Int32), rv kkR, .unset]) rfl ?_
    refine XS.aload X37.here hx rfl (hb hby d7_90) rfl rfl ?_
    exact k)
  obtain ⟨T43, X43, e43, st43⟩ := getF X37 hx hZ hown (Or.inr (hU 83 _ rfl)) Via.refl e37 F_starts_kkR (g := (mkF m 92 #[rv oR, iv p2, rv kkR, iv (0 : Int32), rv kkR, .unset] [(.ref kkR)])) rfl rfl (hb hby d7_92)
  have R44 := fun t k => R42 t (st43 t k)
  have R45 : ∀ t, own_S p e below T43 (mkF m 98 #[rv oR, iv p2, rv kkR, iv (0 : Int32), rv kkR, .unset] [(.ref kkR), (.int (0 : Int32)), (.ref saR)]) t → own_S p e below s₁ f0 t := fun t k => R44 t (by
    refine XS.iconst X43.here hx rfl (hb hby d7_95) ?_
    refine XS.aload X43.here hx rfl (hb hby d7_96) rfl rfl ?_
    exact k)
  obtain ⟨T46, X46, e46, st46⟩ := getF X43 hx hZ hown (Or.inr (hU 66 _ rfl)) Via.refl e43 F_size_kkR (g := (mkF m 98 #[rv oR, iv p2, rv kkR, iv (0 : Int32), rv kkR, .unset] [(.ref kkR), (.int (0 : Int32)), (.ref saR)])) rfl rfl (hb hby d7_98)
  have R47 := fun t k => R45 t (st46 t k)
  have R48 : ∀ t, own_S p e below T46 (mkF m 102 #[rv oR, iv p2, rv kkR, iv (0 : Int32), rv kkR, .unset] [(.int p2), (.int (2 : Int32)), (.int (0 : Int32)), (.ref saR)]) t → own_S p e below s₁ f0 t := fun t k => R47 t (by
    refine XS.iloadN X46.here hx rfl (hb hby d7_101) rfl  ?_
    exact k)
  obtain ⟨_, _, ⟨T49, L49, k49, n49⟩, -, X49, ⟨Lc49, hQ49, l49, y49, z49⟩, st49⟩ := Jvm.LawKit.callS X46 hx (y := (⟨"java/util/Arrays", "binarySearch", "([IIII)I"⟩ : MethodName)) hown (mvT hZ (hU 87 _ rfl)) (mvT hZ (hU 88 _ rfl)) (mvT hZ (hU 89 _ rfl)) (mvT hZ (hU 90 _ rfl)) (by decide) (backOf (W := 0) (rmBs256_2_1_3 l Z a0 hw [] saR p2 kstR x0 x1 (0 : Int32) h0 n0 Z0 A_saR ho0 ho1) hZ (hU 90 _ rfl) (hU 89 _ rfl) (by decide) (by decide)) (g := (mkF m 102 #[rv oR, iv p2, rv kkR, iv (0 : Int32), rv kkR, .unset] [(.int p2), (.int (2 : Int32)), (.int (0 : Int32)), (.ref saR)])) rfl (by rw [hml]; rfl) (argsL := [(.ref saR), (.int (0 : Int32)), (.int (2 : Int32)), (.int p2)]) (rest := []) (lenOf pd_9 rfl) rfl (Nat.le_of_eq rfl) (hb hby d7_102) (fun _ _ => ⟨rfl, e46, (by decide : 0 + 0 ≤ _), (by decide : 0 + 0 ≤ _)⟩)
  dsimp only [Pt.U, Pt.locs, Pt.cells, Pt.slots] at X49 l49 y49 z49 st49 hQ49
  subst l49 y49 z49
  obtain ⟨rfl, N49q, p49_0⟩ := hQ49
  have N49 := Fr.app N34 N49q
  have R50 := fun t k => R48 t (st49 t k)
  have R51 : ∀ t, own_S p e below T49 (mkF m 118 #[rv oR, iv p2, rv kkR, iv (0 : Int32), rv kkR, iv (-2 : Int32)] [(.int (-(-2 : Int32))), (.int (256 : Int32))]) t → own_S p e below s₁ f0 t := fun t k => R50 t (by
    refine XS.istore X49.here hx rfl (hb hby d7_105) rfl (l' := #[rv oR, iv p2, rv kkR, iv (0 : Int32), rv kkR, iv (-2 : Int32)]) rfl ?_
    refine XS.iload X49.here hx rfl (hb hby d7_107) rfl  ?_
    refine XS.ifNo X49.here hx rfl (hb hby d7_109) rfl ((if0 _ _).trans (tlt (by decide : (-2 : Int32) < (0 : Int32))).2.1) ?_
    refine XS.sipush X49.here hx rfl (hb hby d7_112) ?_
    refine XS.iload X49.here hx rfl (hb hby d7_115) rfl  ?_
    refine XS.ineg X49.here hx rfl (hb hby d7_117) rfl ?_
    exact k)
  have R52 : ∀ t, own_S p e below T49 (mkF m 118 #[rv oR, iv p2, rv kkR, iv (0 : Int32), rv kkR, iv (-2 : Int32)] [(.int (2 : Int32)), (.int (256 : Int32))]) t → own_S p e below s₁ f0 t := by have q := R51; rw [((by decide) : (-(-2 : Int32)) = (2 : Int32))] at q; exact q
  have R53 : ∀ t, own_S p e below T49 (mkF m 125 #[rv oR, iv p2, rv kkR, iv (0 : Int32), rv kkR, iv (257 : Int32)] [(.long ((0 : Int32).toInt64))]) t → own_S p e below s₁ f0 t := fun t k => R52 t (by
    refine XS.iconst X49.here hx rfl (hb hby d7_118) ?_
    refine XS.isub X49.here hx rfl (hb hby d7_119) rfl ?_
    refine XS.iadd X49.here hx rfl (hb hby d7_120) rfl ?_
    refine XS.istore X49.here hx rfl (hb hby d7_121) rfl (l' := #[rv oR, iv p2, rv kkR, iv (0 : Int32), rv kkR, iv (257 : Int32)]) rfl ?_
    refine XS.iloadN X49.here hx rfl (hb hby d7_123) rfl  ?_
    refine XS.i2l X49.here hx rfl (hb hby d7_124) rfl ?_
    exact k)
  have R54 : ∀ t, own_S p e below T49 (mkF m 125 #[rv oR, iv p2, rv kkR, iv (0 : Int32), rv kkR, iv (257 : Int32)] [(.long (0 : Int64))]) t → own_S p e below s₁ f0 t := by have q := R53; rw [((by decide) : ((0 : Int32).toInt64) = (0 : Int64))] at q; exact q
  have R55 : ∀ t, own_S p e below T49 (mkF m 128 #[rv oR, iv p2, rv kkR, iv (0 : Int32), rv kkR, iv (257 : Int32)] [(.long ((0 : Int64) <<< ((32 : Int32) &&& 0x3f).toInt64))]) t → own_S p e below s₁ f0 t := fun t k => R54 t (by
    refine XS.bipush X49.here hx rfl (hb hby d7_125) ?_
    refine XS.lshl X49.here hx rfl (hb hby d7_127) rfl ?_
    exact k)
  have R56 : ∀ t, own_S p e below T49 (mkF m 128 #[rv oR, iv p2, rv kkR, iv (0 : Int32), rv kkR, iv (257 : Int32)] [(.long (0 : Int64))]) t → own_S p e below s₁ f0 t := by have q := R55; rw [((by decide) : ((0 : Int64) <<< ((32 : Int32) &&& 0x3f).toInt64) = (0 : Int64))] at q; exact q
  have R57 : ∀ t, own_S p e below T49 (mkF m 131 #[rv oR, iv p2, rv kkR, iv (0 : Int32), rv kkR, iv (257 : Int32)] [(.long ((257 : Int32).toInt64)), (.long (0 : Int64))]) t → own_S p e below s₁ f0 t := fun t k => R56 t (by
    refine XS.iload X49.here hx rfl (hb hby d7_128) rfl  ?_
    refine XS.i2l X49.here hx rfl (hb hby d7_130) rfl ?_
    exact k)
  have R58 : ∀ t, own_S p e below T49 (mkF m 131 #[rv oR, iv p2, rv kkR, iv (0 : Int32), rv kkR, iv (257 : Int32)] [(.long (257 : Int64)), (.long (0 : Int64))]) t → own_S p e below s₁ f0 t := by have q := R57; rw [((by decide) : ((257 : Int32).toInt64) = (257 : Int64))] at q; exact q
  have R59 : ∀ t, own_S p e below T49 (mkF m 132 #[rv oR, iv p2, rv kkR, iv (0 : Int32), rv kkR, iv (257 : Int32)] [(.long (257 : Int64))]) t → own_S p e below s₁ f0 t := fun t k => R58 t (by
    refine XS.lor X49.here hx rfl (hb hby d7_131) rfl ?_
    exact k)
  obtain ⟨fs, hr, hrun, hended, hW, hsame⟩ := X49.leave (v := some (.long (257 : Int64))) (fun h => by rw [Bd.returns] at h; cases h)
  refine ⟨_, _, pre0 _ (R59 _ ?_), hrun, hended, _, _, rfl, ?_, ⟨_, rfl⟩, hW, hsame.mono (by decide) (by decide)⟩
  · show own_S p e below T49 (mkF m 132 #[rv oR, iv p2, rv kkR, iv (0 : Int32), rv kkR, iv (257 : Int32)] [(.long (257 : Int64))]) _
    exact retOut X49 hx (t := .long) Bd.returns rfl (Or.inr (Or.inl ⟨rfl, rfl, _, rfl⟩)) (hb hby d7_132) hr
  · show Q_rmFind2_1 Z oR p2 ckR kckR kkR x0 x1 saR kstR fiR kfiR h0 n0 _ T49.heap _
    rw [p49_0]
    exact ⟨rfl, N49, rfl⟩
theorem ef_rmFf2_1 (m : MethodId) (x0 : Addr) (x1 : Int32) : entryFrame m #[(.ref x0), (.int x1)] 4 = mkF m 0 #[rv x0, iv x1, .unset, .unset] [] := by first | (simp [entryFrame, mkF, argsToLocals, Value.category]; done) | rfl
def Q_rmFf2_1 (Z : State) (a1 : Addr) (p2 : Int32) (oR : Addr) (ckR : Addr) (kckR : ClassId) (kkR : Addr) (x0 : Int32) (x1 : Int32) (saR : Addr) (kstR : ClassId) (fiR : Addr) (kfiR : ClassId) (oU : Addr) (ckU : Addr) (kckU : ClassId) (kkU : Addr) (h0 : Heap) (n0 : Nat) (v : Option Value) (h : Heap) (L : List Loc) : Prop := v = some (.long (257 : Int64)) ∧ Fr n0 L ∧ h = h0
set_option maxRecDepth 65536 in
set_option maxHeartbeats 40000000 in
theorem rmFf2_1 (l : Launch) (Z : State) (a0 : Array Value) (hw : ∀ d ∈ tables_1, d.before a0 Z = true) (ws : List Jvm.Cond) (a1 : Addr) (p2 : Int32) (oR : Addr) (ckR : Addr) (kckR : ClassId) (kkR : Addr) (x0 : Int32) (x1 : Int32) (saR : Addr) (kstR : ClassId) (fiR : Addr) (kfiR : ClassId) (oU : Addr) (ckU : Addr) (kckU : ClassId) (kkU : Addr) (h0 : Heap) (n0 : Nat) (Z0 : n0 ≤ h0.size) (F_read_a1 : Fld Z h0 a1 sN2 "read" sN4 (.ref oR)) (F_unread_a1 : Fld Z h0 a1 sN2 "unread" sN4 (.ref oU)) (E_oR : Exa Z h0 oR sN0) (F_chunks_oR : Fld Z h0 oR sN0 "chunks" sN3 (.ref ckR)) (F_chunkCount_oR : Fld Z h0 oR sN0 "chunkCount" "I" (.int (1 : Int32))) (A_ckR : Arv Z h0 ckR kckR (.object sN1) (1 : Int32) [(.ref kkR)] .null) (F_size_kkR : Fld Z h0 kkR sN1 "size" "I" (.int (2 : Int32))) (F_starts_kkR : Fld Z h0 kkR sN1 "starts" "[I" (.ref saR)) (A_saR : Arv Z h0 saR kstR .int (256 : Int32) [(.int x0), (.int x1), (.int (0 : Int32))] (.int (0 : Int32))) (F_firsts_oR : Fld Z h0 oR sN0 "firsts" "[I" (.ref fiR)) (A_fiR : Arv Z h0 fiR kfiR .int (1 : Int32) [(.int x0)] (.int (0 : Int32))) (E_oU : Exa Z h0 oU sN0) (F_chunks_oU : Fld Z h0 oU sN0 "chunks" sN3 (.ref ckU)) (A_ckU : Arv Z h0 ckU kckU (.object sN1) (1 : Int32) [(.ref kkU)] .null) (E_kkU : Exa Z h0 kkU sN1) (F_size_kkU : Fld Z h0 kkU sN1 "size" "I" (.int (0 : Int32))) (ho0 : x0 < p2) (ho1 : p2 < x1) :
    own_M l (⟨sN2, "find", "(I)J"⟩ : MethodName) (Jvm.Cond.code (⟨sN2, "find", "(I)J"⟩ : MethodName) prog_116_method_2_code 4 (some .long) :: ws) ({ frames := 3, cells := 0, slots := 0, locals := 51 } : Room) #[(.ref a1), (.int p2)] Z h0 (Q_rmFf2_1 Z a1 p2 oR ckR kckR kkR x0 x1 saR kstR fiR kfiR oU ckU kckU kkU h0 n0) := by
  refine MetFree.of_bodySF (plainFor_of_name pn_3) hisR ?_
  intro p e s m args below meth c s₁ Bd hml0 hP hK
  obtain ⟨rfl, hZ, hh⟩ := hP
  have hx := Bd.exec
  have hby := Bd.bytes
  have hml : c.maxLocals = 4 := hml0
  have hown : s.vm.findClass sN2 = some m.cls := findClass_of_methodNamed Bd.named
  have hnm := (name_of_methodNamed Bd.named Bd.method).1
  have X0 : Stand p l e ({ frames := 3, cells := 0, slots := 0, locals := 51 } : Room) s m #[(.ref a1), (.int p2)] below meth c s₁ [] 0 0 := Stand.of_body Bd
  have hU : ∀ (i : Nat) (d : Jvm.Cond), tables_1[i]? = some d → d.before a0 Z = true := fun i d h => hw d (List.mem_of_getElem? h)
  have e0 : s₁.heap = h0 := by rw [← hh, Bd.state]; rfl
  have N0 := Fr.nil n0
  obtain ⟨f0, hf0⟩ : ∃ f : JFrame, f = mkF m 0 #[rv a1, iv p2, .unset, .unset] [] := ⟨_, rfl⟩
  have pre0 : ∀ t, own_S p e below s₁ f0 t → Steps p.tables e below (s₁.setTop (entryFrame m #[(.ref a1), (.int p2)] 4)) t := fun t k => castTop ((ef_rmFf2_1 m a1 p2).trans hf0.symm) k
  have R0 : ∀ t, own_S p e below s₁ (mkF m 0 #[rv a1, iv p2, .unset, .unset] []) t → own_S p e below s₁ f0 t := by rw [hf0]; exact fun t k => k
  have R1 : ∀ t, own_S p e below s₁ (mkF m 1 #[rv a1, iv p2, .unset, .unset] [(.ref a1)]) t → own_S p e below s₁ f0 t := fun t k => R0 t (by
    refine XS.aloadN X0.here hx rfl (hb hby d6_0) rfl rfl ?_
    exact k)
  obtain ⟨T2, X2, e2, st2⟩ := getF X0 hx hZ hown (host := "") (Or.inl (hU 45 _ rfl)) Via.refl e0 F_read_a1 (g := (mkF m 1 #[rv a1, iv p2, .unset, .unset] [(.ref a1)])) rfl rfl (hb hby d6_1)
  have R3 := fun t k => R1 t (st2 t k)
  have R4 : ∀ t, own_S p e below T2 (mkF m 5 #[rv a1, iv p2, .unset, .unset] [(.int p2), (.ref oR)]) t → own_S p e below s₁ f0 t := fun t k => R3 t (by
    refine XS.iloadN X2.here hx rfl (hb hby d6_4) rfl  ?_
    exact k)
  obtain ⟨cq5, kq5, q5a, q5b, q5c⟩ := isOf hZ e2 E_oR
  obtain ⟨_, _, ⟨T5, L5, k5, n5⟩, -, X5, ⟨Lc5, hQ5, l5, y5, z5⟩, st5⟩ := X2.virtualBack hx (y := (⟨sN0, "find", "(I)J"⟩ : MethodName)) (z := (⟨sN0, "find", "(I)J"⟩ : MethodName)) hown (mvT hZ (hU 61 _ rfl)) (mvT hZ (hU 62 _ rfl)) (notFace_of_selects (args := #[]) (mvT hZ (hU 64 _ rfl))) (mvT hZ (hU 64 _ rfl)) (mvT hZ (hU 63 _ rfl)) (by decide) (backOf (W := 0) (rmFind2_1 l Z a0 hw [] oR p2 ckR kckR kkR x0 x1 saR kstR fiR kfiR h0 n0 Z0 F_chunks_oR F_chunkCount_oR A_ckR F_size_kkR F_starts_kkR A_saR F_firsts_oR A_fiR ho0 ho1) hZ (hU 65 _ rfl) (hU 14 _ rfl) (by decide) (by decide)) q5a q5c (g := (mkF m 5 #[rv a1, iv p2, .unset, .unset] [(.int p2), (.ref oR)])) rfl (by rw [hml]; rfl) (Steps.refl _) (argsL := [(.int p2)]) (rest := []) (lenOf pd_5 rfl) rfl (Nat.le_of_eq rfl) (hb hby d6_5) (fun _ _ => ⟨rfl, e2, (by decide : 0 + 0 ≤ _), (by decide : 0 + 0 ≤ _)⟩)
  dsimp only [Pt.U, Pt.locs, Pt.cells, Pt.slots] at X5 l5 y5 z5 st5 hQ5
  subst l5 y5 z5
  obtain ⟨rfl, N5q, p5_0⟩ := hQ5
  have N5 := Fr.app N0 N5q
  have R6 := fun t k => R4 t (st5.trans k)
  have R7 : ∀ t, own_S p e below T5 (mkF m 11 #[rv a1, iv p2, own_l (257 : Int64), .second] [(.int ((257 : Int64).toInt32))]) t → own_S p e below s₁ f0 t := fun t k => R6 t (by
    refine XS.lstoreN X5.here hx rfl (hb hby d6_8) rfl (l' := #[rv a1, iv p2, own_l (257 : Int64), .second]) rfl ?_
    refine XS.lloadN X5.here hx rfl (hb hby d6_9) rfl  ?_
    refine XS.l2i X5.here hx rfl (hb hby d6_10) rfl ?_
    exact k)
  have R8 : ∀ t, own_S p e below T5 (mkF m 11 #[rv a1, iv p2, own_l (257 : Int64), .second] [(.int (257 : Int32))]) t → own_S p e below s₁ f0 t := by have q := R7; rw [((by decide) : ((257 : Int64).toInt32) = (257 : Int32))] at q; exact q
  have R9 : ∀ t, own_S p e below T5 (mkF m 18 #[rv a1, iv p2, own_l (257 : Int64), .second] [(.ref a1)]) t → own_S p e below s₁ f0 t := fun t k => R8 t (by
    refine XS.sipush X5.here hx rfl (hb hby d6_11) ?_
    refine XS.icmpNo X5.here hx rfl (hb hby d6_14) rfl (flt (by decide : ¬ ((257 : Int32) < (256 : Int32)))).1 ?_
    refine XS.aloadN X5.here hx rfl (hb hby d6_17) rfl rfl ?_
    exact k)
  obtain ⟨T10, X10, e10, st10⟩ := getF X5 hx hZ hown (host := "") (Or.inl (hU 47 _ rfl)) Via.refl p5_0 F_unread_a1 (g := (mkF m 18 #[rv a1, iv p2, own_l (257 : Int64), .second] [(.ref a1)])) rfl rfl (hb hby d6_18)
  have R11 := fun t k => R9 t (st10 t k)
  obtain ⟨cq12, kq12, q12a, q12b, q12c⟩ := isOf hZ e10 E_oU
  obtain ⟨_, _, ⟨T12, L12, k12, n12⟩, -, X12, ⟨Lc12, hQ12, l12, y12, z12⟩, st12⟩ := X10.virtualBack hx (y := (⟨sN0, "isEmpty", "()Z"⟩ : MethodName)) (z := (⟨sN0, "isEmpty", "()Z"⟩ : MethodName)) hown (mvT hZ (hU 68 _ rfl)) (mvT hZ (hU 69 _ rfl)) (notFace_of_selects (args := #[]) (mvT hZ (hU 71 _ rfl))) (mvT hZ (hU 71 _ rfl)) (mvT hZ (hU 70 _ rfl)) (by decide) (backOf (W := 0) (rmEmp0 l Z a0 hw [] oU ckU kckU kkU h0 n0 Z0 F_chunks_oU A_ckU F_size_kkU) hZ (hU 72 _ rfl) (hU 14 _ rfl) (by decide) (by decide)) q12a q12c (g := (mkF m 21 #[rv a1, iv p2, own_l (257 : Int64), .second] [(.ref oU)])) rfl (by rw [hml]; rfl) (Steps.refl _) (argsL := []) (rest := []) (lenOf pd_6 rfl) rfl (Nat.le_of_eq rfl) (hb hby d6_21) (fun _ _ => ⟨rfl, e10, (by decide : 0 + 0 ≤ _), (by decide : 0 + 0 ≤ _)⟩)
  dsimp only [Pt.U, Pt.locs, Pt.cells, Pt.slots] at X12 l12 y12 z12 st12 hQ12
  subst l12 y12 z12
  obtain ⟨rfl, N12q, p12_0⟩ := hQ12
  have N12 := Fr.app N5 N12q
  have R13 := fun t k => R11 t (st12.trans k)
  have R14 : ∀ t, own_S p e below T12 (mkF m 43 #[rv a1, iv p2, own_l (257 : Int64), .second] [(.long (257 : Int64))]) t → own_S p e below s₁ f0 t := fun t k => R13 t (by
    refine XS.ifYes X12.here hx rfl (pc0 := 24) (pc' := 42) rfl (hb hby d6_24) rfl ((if0 _ _).trans (feq (by decide : ¬ ((1 : Int32) = (0 : Int32)))).2) (by decide) (by decide) ?_
    refine XS.lloadN X12.here hx rfl (hb hby d6_42) rfl  ?_
    exact k)
  obtain ⟨fs, hr, hrun, hended, hW, hsame⟩ := X12.leave (v := some (.long (257 : Int64))) (fun h => by rw [Bd.returns] at h; cases h)
  refine ⟨_, _, pre0 _ (R14 _ ?_), hrun, hended, _, _, rfl, ?_, ⟨_, rfl⟩, hW, hsame.mono (by decide) (by decide)⟩
  · show own_S p e below T12 (mkF m 43 #[rv a1, iv p2, own_l (257 : Int64), .second] [(.long (257 : Int64))]) _
    exact retOut X12 hx (t := .long) Bd.returns rfl (Or.inr (Or.inl ⟨rfl, rfl, _, rfl⟩)) (hb hby d6_43) hr
  · show Q_rmFf2_1 Z a1 p2 oR ckR kckR kkR x0 x1 saR kstR fiR kfiR oU ckU kckU kkU h0 n0 _ T12.heap _
    rw [p12_0]
    exact ⟨rfl, N12, rfl⟩
theorem ef_rmCt2_1 (m : MethodId) (x0 : Addr) (x1 : Int64) (x2 : Int32) : entryFrame m #[(.ref x0), (.long x1), (.int x2)] 7 = mkF m 0 #[rv x0, own_l x1, .second, iv x2, .unset, .unset, .unset] [] := by first | (simp [entryFrame, mkF, argsToLocals, Value.category]; done) | rfl
def Q_rmCt2_1 (Z : State) (a1 : Addr) (p3 : Int32) (oR : Addr) (ckR : Addr) (kckR : ClassId) (kkR : Addr) (saR : Addr) (kstR : ClassId) (enR : Addr) (kenR : ClassId) (x0 : Int32) (x1 : Int32) (e_0 : Int32) (e_1 : Int32) (h0 : Heap) (n0 : Nat) (v : Option Value) (h : Heap) (L : List Loc) : Prop := v = some (.int (own_ct p3 e_0 x0)) ∧ Fr n0 L ∧ h = h0
set_option maxRecDepth 65536 in
set_option maxHeartbeats 40000000 in
theorem rmCt2_1 (l : Launch) (Z : State) (a0 : Array Value) (hw : ∀ d ∈ tables_1, d.before a0 Z = true) (ws : List Jvm.Cond) (a1 : Addr) (p3 : Int32) (oR : Addr) (ckR : Addr) (kckR : ClassId) (kkR : Addr) (saR : Addr) (kstR : ClassId) (enR : Addr) (kenR : ClassId) (x0 : Int32) (x1 : Int32) (e_0 : Int32) (e_1 : Int32) (h0 : Heap) (n0 : Nat) (Z0 : n0 ≤ h0.size) (F_read_a1 : Fld Z h0 a1 sN2 "read" sN4 (.ref oR)) (F_chunks_oR : Fld Z h0 oR sN0 "chunks" sN3 (.ref ckR)) (A_ckR : Arv Z h0 ckR kckR (.object sN1) (1 : Int32) [(.ref kkR)] .null) (F_starts_kkR : Fld Z h0 kkR sN1 "starts" "[I" (.ref saR)) (F_ends_kkR : Fld Z h0 kkR sN1 "ends" "[I" (.ref enR)) (A_saR : Arv Z h0 saR kstR .int (256 : Int32) [(.int x0), (.int x1), (.int (0 : Int32))] (.int (0 : Int32))) (A_enR : Arv Z h0 enR kenR .int (256 : Int32) [(.int e_0), (.int e_1), (.int (0 : Int32))] (.int (0 : Int32))) :
    own_M l (⟨sN2, "containing", "(JI)I"⟩ : MethodName) (Jvm.Cond.code (⟨sN2, "containing", "(JI)I"⟩ : MethodName) prog_116_method_7_code 7 (some .int) :: ws) ({ frames := 0, cells := 0, slots := 0, locals := 0 } : Room) #[(.ref a1), (.long (257 : Int64)), (.int p3)] Z h0 (Q_rmCt2_1 Z a1 p3 oR ckR kckR kkR saR kstR enR kenR x0 x1 e_0 e_1 h0 n0) := by
  refine MetFree.of_bodySF (plainFor_of_name pn_3) hisR ?_
  intro p e s m args below meth c s₁ Bd hml0 hP hK
  obtain ⟨rfl, hZ, hh⟩ := hP
  have hx := Bd.exec
  have hby := Bd.bytes
  have hml : c.maxLocals = 7 := hml0
  have hown : s.vm.findClass sN2 = some m.cls := findClass_of_methodNamed Bd.named
  have hnm := (name_of_methodNamed Bd.named Bd.method).1
  have X0 : Stand p l e ({ frames := 0, cells := 0, slots := 0, locals := 0 } : Room) s m #[(.ref a1), (.long (257 : Int64)), (.int p3)] below meth c s₁ [] 0 0 := Stand.of_body Bd
  have hU : ∀ (i : Nat) (d : Jvm.Cond), tables_1[i]? = some d → d.before a0 Z = true := fun i d h => hw d (List.mem_of_getElem? h)
  have e0 : s₁.heap = h0 := by rw [← hh, Bd.state]; rfl
  have N0 := Fr.nil n0
  obtain ⟨f0, hf0⟩ : ∃ f : JFrame, f = mkF m 0 #[rv a1, own_l (257 : Int64), .second, iv p3, .unset, .unset, .unset] [] := ⟨_, rfl⟩
  have pre0 : ∀ t, own_S p e below s₁ f0 t → Steps p.tables e below (s₁.setTop (entryFrame m #[(.ref a1), (.long (257 : Int64)), (.int p3)] 7)) t := fun t k => castTop ((ef_rmCt2_1 m a1 (257 : Int64) p3).trans hf0.symm) k
  have R0 : ∀ t, own_S p e below s₁ (mkF m 0 #[rv a1, own_l (257 : Int64), .second, iv p3, .unset, .unset, .unset] []) t → own_S p e below s₁ f0 t := by rw [hf0]; exact fun t k => k
  have R1 : ∀ t, own_S p e below s₁ (mkF m 4 #[rv a1, own_l (257 : Int64), .second, iv p3, .unset, .unset, .unset] [(.long (((257 : Int64).toUInt64 >>> ((32 : Int32) &&& 0x3f).toInt64.toUInt64).toInt64))]) t → own_S p e below s₁ f0 t := fun t k => R0 t (by
    refine XS.lloadN X0.here hx rfl (hb hby d18_0) rfl  ?_
    refine XS.bipush X0.here hx rfl (hb hby d18_1) ?_
    refine XS.lushr X0.here hx rfl (hb hby d18_3) rfl ?_
    exact k)
  have R2 : ∀ t, own_S p e below s₁ (mkF m 4 #[rv a1, own_l (257 : Int64), .second, iv p3, .unset, .unset, .unset] [(.long (0 : Int64))]) t → own_S p e below s₁ f0 t := by have q := R1; rw [((by decide) : (((257 : Int64).toUInt64 >>> ((32 : Int32) &&& 0x3f).toInt64.toUInt64).toInt64) = (0 : Int64))] at q; exact q
  have R3 : ∀ t, own_S p e below s₁ (mkF m 5 #[rv a1, own_l (257 : Int64), .second, iv p3, .unset, .unset, .unset] [(.int ((0 : Int64).toInt32))]) t → own_S p e below s₁ f0 t := fun t k => R2 t (by
    refine XS.l2i X0.here hx rfl (hb hby d18_4) rfl ?_
    exact k)
  have R4 : ∀ t, own_S p e below s₁ (mkF m 5 #[rv a1, own_l (257 : Int64), .second, iv p3, .unset, .unset, .unset] [(.int (0 : Int32))]) t → own_S p e below s₁ f0 t := by have q := R3; rw [((by decide) : ((0 : Int64).toInt32) = (0 : Int32))] at q; exact q
  have R5 : ∀ t, own_S p e below s₁ (mkF m 9 #[rv a1, own_l (257 : Int64), .second, iv p3, iv (0 : Int32), .unset, .unset] [(.int ((257 : Int64).toInt32))]) t → own_S p e below s₁ f0 t := fun t k => R4 t (by
    refine XS.istore X0.here hx rfl (hb hby d18_5) rfl (l' := #[rv a1, own_l (257 : Int64), .second, iv p3, iv (0 : Int32), .unset, .unset]) rfl ?_
    refine XS.lloadN X0.here hx rfl (hb hby d18_7) rfl  ?_
    refine XS.l2i X0.here hx rfl (hb hby d18_8) rfl ?_
    exact k)
  have R6 : ∀ t, own_S p e below s₁ (mkF m 9 #[rv a1, own_l (257 : Int64), .second, iv p3, iv (0 : Int32), .unset, .unset] [(.int (257 : Int32))]) t → own_S p e below s₁ f0 t := by have q := R5; rw [((by decide) : ((257 : Int64).toInt32) = (257 : Int32))] at q; exact q
  have R7 : ∀ t, own_S p e below s₁ (mkF m 46 #[rv a1, own_l (257 : Int64), .second, iv p3, iv (0 : Int32), iv (1 : Int32), .unset] [(.ref a1)]) t → own_S p e below s₁ f0 t := fun t k => R6 t (by
    refine XS.sipush X0.here hx rfl (hb hby d18_9) ?_
    refine XS.isub X0.here hx rfl (hb hby d18_12) rfl ?_
    refine XS.istore X0.here hx rfl (hb hby d18_13) rfl (l' := #[rv a1, own_l (257 : Int64), .second, iv p3, iv (0 : Int32), iv (1 : Int32), .unset]) rfl ?_
    refine XS.iload X0.here hx rfl (hb hby d18_15) rfl  ?_
    refine XS.ifYes X0.here hx rfl (pc0 := 17) (pc' := 45) rfl (hb hby d18_17) rfl ((if0 _ _).trans (feq (by decide : ¬ ((1 : Int32) = (0 : Int32)))).2) (by decide) (by decide) ?_
    refine XS.aloadN X0.here hx rfl (hb hby d18_45) rfl rfl ?_
    exact k)
  obtain ⟨T8, X8, e8, st8⟩ := getF X0 hx hZ hown (host := "") (Or.inl (hU 45 _ rfl)) Via.refl e0 F_read_a1 (g := (mkF m 46 #[rv a1, own_l (257 : Int64), .second, iv p3, iv (0 : Int32), iv (1 : Int32), .unset] [(.ref a1)])) rfl rfl (hb hby d18_46)
  have R9 := fun t k => R7 t (st8 t k)
  have R10 : ∀ t, own_S p e below T8 (mkF m 54 #[rv a1, own_l (257 : Int64), .second, iv p3, iv (0 : Int32), iv (1 : Int32), .unset] [(.int (0 : Int32)), (.ref ckR)]) t → own_S p e below s₁ f0 t := fun t k => R9 t (by
    refine own_getFR X8 hx hZ hown (hU 124 _ rfl) e8 F_chunks_oR (g := (mkF m 49 #[rv a1, own_l (257 : Int64), .second, iv p3, iv (0 : Int32), iv (1 : Int32), .unset] [(.ref oR)])) rfl rfl (hb hby d18_49) _ ?_
    refine XS.iload X8.here hx rfl (hb hby d18_52) rfl  ?_
    exact k)
  obtain ⟨cl11, Ar11, q11, S11, n11_, H11, G11⟩ := id A_ckR
  have hin11 : ¬ ((0 : Int32) < 0 ∨ cl11.slots.size ≤ ((0 : Int32)).toNatClampNeg) := inb_of S11 ⟨by decide, by decide⟩
  have hat11 : cl11.slots[((0 : Int32)).toNatClampNeg]? = some (.ref kkR) := Has.at H11 hin11 rfl
  have R12 : ∀ t, own_S p e below T8 (mkF m 55 #[rv a1, own_l (257 : Int64), .second, iv p3, iv (0 : Int32), iv (1 : Int32), .unset] [(.ref kkR)]) t → own_S p e below s₁ f0 t := fun t k => R10 t (X8.aaload hx (j := (0 : Int32)) (v := (.ref kkR)) (by rw [e8]; exact Ar11.1) (State.isArrayOf_alike hZ.alike Ar11.2.1) rfl Ar11.2.2 hin11 hat11 (g := (mkF m 54 #[rv a1, own_l (257 : Int64), .second, iv p3, iv (0 : Int32), iv (1 : Int32), .unset] [(.int (0 : Int32)), (.ref ckR)])) rfl rfl (hb hby d18_54) _ k)
  have R13 : ∀ t, own_S p e below T8 (mkF m 66 #[rv a1, own_l (257 : Int64), .second, iv p3, iv (0 : Int32), iv (1 : Int32), rv kkR] [(.int (0 : Int32)), (.ref enR)]) t → own_S p e below s₁ f0 t := fun t k => R12 t (by
    refine XS.astore X8.here hx rfl (hb hby d18_55) rfl rfl (l' := #[rv a1, own_l (257 : Int64), .second, iv p3, iv (0 : Int32), iv (1 : Int32), rv kkR]) rfl ?_
    refine XS.aload X8.here hx rfl (hb hby d18_57) rfl rfl ?_
    refine own_getFR X8 hx hZ hown (hU 125 _ rfl) e8 F_ends_kkR (g := (mkF m 59 #[rv a1, own_l (257 : Int64), .second, iv p3, iv (0 : Int32), iv (1 : Int32), rv kkR] [(.ref kkR)])) rfl rfl (hb hby d18_59) _ ?_
    refine XS.iload X8.here hx rfl (hb hby d18_62) rfl  ?_
    refine XS.iconst X8.here hx rfl (hb hby d18_64) ?_
    refine XS.isub X8.here hx rfl (hb hby d18_65) rfl ?_
    exact k)
  obtain ⟨cl14, Ar14, q14, S14, n14_, H14, G14⟩ := id A_enR
  have hin14 : ¬ ((0 : Int32) < 0 ∨ cl14.slots.size ≤ ((0 : Int32)).toNatClampNeg) := inb_of S14 ⟨by decide, by decide⟩
  have hat14 : cl14.slots[((0 : Int32)).toNatClampNeg]? = some (.int e_0) := Has.at H14 hin14 rfl
  have R15 : ∀ t, own_S p e below T8 (mkF m 67 #[rv a1, own_l (257 : Int64), .second, iv p3, iv (0 : Int32), iv (1 : Int32), rv kkR] [(.int e_0)]) t → own_S p e below s₁ f0 t := fun t k => R13 t (X8.iaload hx (j := (0 : Int32)) (v := (.int e_0)) (by rw [e8]; exact Ar14.1) (State.isArrayOf_alike hZ.alike Ar14.2.1) Ar14.2.2 hin14 hat14 (g := (mkF m 66 #[rv a1, own_l (257 : Int64), .second, iv p3, iv (0 : Int32), iv (1 : Int32), rv kkR] [(.int (0 : Int32)), (.ref enR)])) rfl rfl (hb hby d18_66) _ k)
  have R16 : ∀ t, own_S p e below T8 (mkF m 68 #[rv a1, own_l (257 : Int64), .second, iv p3, iv (0 : Int32), iv (1 : Int32), rv kkR] [(.int p3), (.int e_0)]) t → own_S p e below s₁ f0 t := fun t k => R15 t (by
    refine XS.iloadN X8.here hx rfl (hb hby d18_67) rfl  ?_
    exact k)
  by_cases hs1 : p3 < e_0
  · skip
    have R17 : ∀ t, own_S p e below T8 (mkF m 80 #[rv a1, own_l (257 : Int64), .second, iv p3, iv (0 : Int32), iv (1 : Int32), rv kkR] [(.int (0 : Int32)), (.ref saR)]) t → own_S p e below s₁ f0 t := fun t k => R16 t (by
      refine XS.icmpNo X8.here hx rfl (hb hby d18_68) rfl (tlt hs1).2.2.2 ?_
      refine XS.aload X8.here hx rfl (hb hby d18_71) rfl rfl ?_
      refine own_getFR X8 hx hZ hown (hU 126 _ rfl) e8 F_starts_kkR (g := (mkF m 73 #[rv a1, own_l (257 : Int64), .second, iv p3, iv (0 : Int32), iv (1 : Int32), rv kkR] [(.ref kkR)])) rfl rfl (hb hby d18_73) _ ?_
      refine XS.iload X8.here hx rfl (hb hby d18_76) rfl  ?_
      refine XS.iconst X8.here hx rfl (hb hby d18_78) ?_
      refine XS.isub X8.here hx rfl (hb hby d18_79) rfl ?_
      exact k)
    obtain ⟨cl18, Ar18, q18, S18, n18_, H18, G18⟩ := id A_saR
    have hin18 : ¬ ((0 : Int32) < 0 ∨ cl18.slots.size ≤ ((0 : Int32)).toNatClampNeg) := inb_of S18 ⟨by decide, by decide⟩
    have hat18 : cl18.slots[((0 : Int32)).toNatClampNeg]? = some (.int x0) := Has.at H18 hin18 rfl
    have R19 : ∀ t, own_S p e below T8 (mkF m 81 #[rv a1, own_l (257 : Int64), .second, iv p3, iv (0 : Int32), iv (1 : Int32), rv kkR] [(.int x0)]) t → own_S p e below s₁ f0 t := fun t k => R17 t (X8.iaload hx (j := (0 : Int32)) (v := (.int x0)) (by rw [e8]; exact Ar18.1) (State.isArrayOf_alike hZ.alike Ar18.2.1) Ar18.2.2 hin18 hat18 (g := (mkF m 80 #[rv a1, own_l (257 : Int64), .second, iv p3, iv (0 : Int32), iv (1 : Int32), rv kkR] [(.int (0 : Int32)), (.ref saR)])) rfl rfl (hb hby d18_80) _ k)
    have R20 : ∀ t, own_S p e below T8 (mkF m 85 #[rv a1, own_l (257 : Int64), .second, iv p3, iv (0 : Int32), iv (1 : Int32), rv kkR] [(.int x0)]) t → own_S p e below s₁ f0 t := fun t k => R19 t (by
      refine XS.goto X8.here hx rfl (pc0 := 81) (pc' := 85) rfl (hb hby d18_81) (by decide) (by decide) ?_
      exact k)
    obtain ⟨fs, hr, hrun, hended, hW, hsame⟩ := X8.leave (v := some (.int x0)) (fun h => by rw [Bd.returns] at h; cases h)
    refine ⟨_, _, pre0 _ (R20 _ ?_), hrun, hended, _, _, rfl, ?_, ⟨_, rfl⟩, hW, hsame.mono (by decide) (by decide)⟩
    · show own_S p e below T8 (mkF m 85 #[rv a1, own_l (257 : Int64), .second, iv p3, iv (0 : Int32), iv (1 : Int32), rv kkR] [(.int x0)]) _
      exact retI X8 hx Bd.returns (hb hby d18_85) hr
    · show Q_rmCt2_1 Z a1 p3 oR ckR kckR kkR saR kstR enR kenR x0 x1 e_0 e_1 h0 n0 _ T8.heap _
      rw [e8]
      exact ⟨(by (try simp only [lw_gt, lw_lt, lw_eq] at hs1); simp [own_ct, hs1]), N0, rfl⟩
  · skip
    have R21 : ∀ t, own_S p e below T8 (mkF m 85 #[rv a1, own_l (257 : Int64), .second, iv p3, iv (0 : Int32), iv (1 : Int32), rv kkR] [(.int (-1 : Int32))]) t → own_S p e below s₁ f0 t := fun t k => R16 t (by
      refine XS.icmpYes X8.here hx rfl (pc0 := 68) (pc' := 84) rfl (hb hby d18_68) rfl (flt hs1).2.2.2 (by decide) (by decide) ?_
      refine XS.iconst X8.here hx rfl (hb hby d18_84) ?_
      exact k)
    obtain ⟨fs, hr, hrun, hended, hW, hsame⟩ := X8.leave (v := some (.int (-1 : Int32))) (fun h => by rw [Bd.returns] at h; cases h)
    refine ⟨_, _, pre0 _ (R21 _ ?_), hrun, hended, _, _, rfl, ?_, ⟨_, rfl⟩, hW, hsame.mono (by decide) (by decide)⟩
    · show own_S p e below T8 (mkF m 85 #[rv a1, own_l (257 : Int64), .second, iv p3, iv (0 : Int32), iv (1 : Int32), rv kkR] [(.int (-1 : Int32))]) _
      exact retI X8 hx Bd.returns (hb hby d18_85) hr
    · show Q_rmCt2_1 Z a1 p3 oR ckR kckR kkR saR kstR enR kenR x0 x1 e_0 e_1 h0 n0 _ T8.heap _
      rw [e8]
      exact ⟨(by (try simp only [lw_gt, lw_lt, lw_eq] at hs1); simp [own_ct, hs1]), N0, rfl⟩
theorem ef_rmFind2_2 (m : MethodId) (x0 : Addr) (x1 : Int32) : entryFrame m #[(.ref x0), (.int x1)] 6 = mkF m 0 #[rv x0, iv x1, .unset, .unset, .unset, .unset] [] := by first | (simp [entryFrame, mkF, argsToLocals, Value.category]; done) | rfl
def Q_rmFind2_2 (Z : State) (oR : Addr) (p2 : Int32) (ckR : Addr) (kckR : ClassId) (kkR : Addr) (x0 : Int32) (x1 : Int32) (saR : Addr) (kstR : ClassId) (fiR : Addr) (kfiR : ClassId) (h0 : Heap) (n0 : Nat) (v : Option Value) (h : Heap) (L : List Loc) : Prop := v = some (.long (258 : Int64)) ∧ Fr n0 L ∧ h = h0
set_option maxRecDepth 65536 in
set_option maxHeartbeats 40000000 in
theorem rmFind2_2 (l : Launch) (Z : State) (a0 : Array Value) (hw : ∀ d ∈ tables_1, d.before a0 Z = true) (ws : List Jvm.Cond) (oR : Addr) (p2 : Int32) (ckR : Addr) (kckR : ClassId) (kkR : Addr) (x0 : Int32) (x1 : Int32) (saR : Addr) (kstR : ClassId) (fiR : Addr) (kfiR : ClassId) (h0 : Heap) (n0 : Nat) (Z0 : n0 ≤ h0.size) (F_chunks_oR : Fld Z h0 oR sN0 "chunks" sN3 (.ref ckR)) (F_chunkCount_oR : Fld Z h0 oR sN0 "chunkCount" "I" (.int (1 : Int32))) (A_ckR : Arv Z h0 ckR kckR (.object sN1) (1 : Int32) [(.ref kkR)] .null) (F_size_kkR : Fld Z h0 kkR sN1 "size" "I" (.int (2 : Int32))) (F_starts_kkR : Fld Z h0 kkR sN1 "starts" "[I" (.ref saR)) (A_saR : Arv Z h0 saR kstR .int (256 : Int32) [(.int x0), (.int x1), (.int (0 : Int32))] (.int (0 : Int32))) (F_firsts_oR : Fld Z h0 oR sN0 "firsts" "[I" (.ref fiR)) (A_fiR : Arv Z h0 fiR kfiR .int (1 : Int32) [(.int x0)] (.int (0 : Int32))) (ho0 : x0 < p2) (ho1 : x1 < p2) :
    own_M l (⟨sN0, "find", "(I)J"⟩ : MethodName) (Jvm.Cond.code (⟨sN0, "find", "(I)J"⟩ : MethodName) prog_118_method_2_code 6 (some .long) :: ws) ({ frames := 0, cells := 0, slots := 0, locals := 0 } : Room) #[(.ref oR), (.int p2)] Z h0 (Q_rmFind2_2 Z oR p2 ckR kckR kkR x0 x1 saR kstR fiR kfiR h0 n0) := by
  refine MetFree.of_bodySF (plainFor_of_name pn_1) hisR ?_
  intro p e s m args below meth c s₁ Bd hml0 hP hK
  obtain ⟨rfl, hZ, hh⟩ := hP
  have hx := Bd.exec
  have hby := Bd.bytes
  have hml : c.maxLocals = 6 := hml0
  have hown : s.vm.findClass sN0 = some m.cls := findClass_of_methodNamed Bd.named
  have hnm := (name_of_methodNamed Bd.named Bd.method).1
  have X0 : Stand p l e ({ frames := 0, cells := 0, slots := 0, locals := 0 } : Room) s m #[(.ref oR), (.int p2)] below meth c s₁ [] 0 0 := Stand.of_body Bd
  have hU : ∀ (i : Nat) (d : Jvm.Cond), tables_1[i]? = some d → d.before a0 Z = true := fun i d h => hw d (List.mem_of_getElem? h)
  have e0 : s₁.heap = h0 := by rw [← hh, Bd.state]; rfl
  have N0 := Fr.nil n0
  obtain ⟨f0, hf0⟩ : ∃ f : JFrame, f = mkF m 0 #[rv oR, iv p2, .unset, .unset, .unset, .unset] [] := ⟨_, rfl⟩
  have pre0 : ∀ t, own_S p e below s₁ f0 t → Steps p.tables e below (s₁.setTop (entryFrame m #[(.ref oR), (.int p2)] 6)) t := fun t k => castTop ((ef_rmFind2_2 m oR p2).trans hf0.symm) k
  have R0 : ∀ t, own_S p e below s₁ (mkF m 0 #[rv oR, iv p2, .unset, .unset, .unset, .unset] []) t → own_S p e below s₁ f0 t := by rw [hf0]; exact fun t k => k
  have R1 : ∀ t, own_S p e below s₁ (mkF m 1 #[rv oR, iv p2, .unset, .unset, .unset, .unset] [(.ref oR)]) t → own_S p e below s₁ f0 t := fun t k => R0 t (by
    refine XS.aloadN X0.here hx rfl (hb hby d7_0) rfl rfl ?_
    exact k)
  obtain ⟨T2, X2, e2, st2⟩ := getF X0 hx hZ hown (host := "") (Or.inl (hU 43 _ rfl)) Via.refl e0 F_chunks_oR (g := (mkF m 1 #[rv oR, iv p2, .unset, .unset, .unset, .unset] [(.ref oR)])) rfl rfl (hb hby d7_1)
  have R3 := fun t k => R1 t (st2 t k)
  have R4 : ∀ t, own_S p e below T2 (mkF m 5 #[rv oR, iv p2, .unset, .unset, .unset, .unset] [(.ref oR), (.ref ckR)]) t → own_S p e below s₁ f0 t := fun t k => R3 t (by
    refine XS.aloadN X2.here hx rfl (hb hby d7_4) rfl rfl ?_
    exact k)
  obtain ⟨T5, X5, e5, st5⟩ := getF X2 hx hZ hown (host := "") (Or.inl (hU 22 _ rfl)) Via.refl e2 F_chunkCount_oR (g := (mkF m 5 #[rv oR, iv p2, .unset, .unset, .unset, .unset] [(.ref oR), (.ref ckR)])) rfl rfl (hb hby d7_5)
  have R6 := fun t k => R4 t (st5 t k)
  have R7 : ∀ t, own_S p e below T5 (mkF m 10 #[rv oR, iv p2, .unset, .unset, .unset, .unset] [(.int (0 : Int32)), (.ref ckR)]) t → own_S p e below s₁ f0 t := fun t k => R6 t (by
    refine XS.iconst X5.here hx rfl (hb hby d7_8) ?_
    refine XS.isub X5.here hx rfl (hb hby d7_9) rfl ?_
    exact k)
  obtain ⟨cl8, Ar8, q8, S8, n8_, H8, G8⟩ := id A_ckR
  have hin8 : ¬ ((0 : Int32) < 0 ∨ cl8.slots.size ≤ ((0 : Int32)).toNatClampNeg) := inb_of S8 ⟨by decide, by decide⟩
  have hat8 : cl8.slots[((0 : Int32)).toNatClampNeg]? = some (.ref kkR) := Has.at H8 hin8 rfl
  have R9 : ∀ t, own_S p e below T5 (mkF m 11 #[rv oR, iv p2, .unset, .unset, .unset, .unset] [(.ref kkR)]) t → own_S p e below s₁ f0 t := fun t k => R7 t (X5.aaload hx (j := (0 : Int32)) (v := (.ref kkR)) (by rw [e5]; exact Ar8.1) (State.isArrayOf_alike hZ.alike Ar8.2.1) rfl Ar8.2.2 hin8 hat8 (g := (mkF m 10 #[rv oR, iv p2, .unset, .unset, .unset, .unset] [(.int (0 : Int32)), (.ref ckR)])) rfl rfl (hb hby d7_10) _ k)
  have R10 : ∀ t, own_S p e below T5 (mkF m 13 #[rv oR, iv p2, rv kkR, .unset, .unset, .unset] [(.ref kkR)]) t → own_S p e below s₁ f0 t := fun t k => R9 t (by
    refine XS.astoreN X5.here hx rfl (hb hby d7_11) rfl rfl (l' := #[rv oR, iv p2, rv kkR, .unset, .unset, .unset]) rfl ?_
    refine XS.aloadN X5.here hx rfl (hb hby d7_12) rfl rfl ?_
    exact k)
  obtain ⟨T11, X11, e11, st11⟩ := getF X5 hx hZ hown (Or.inr (hU 66 _ rfl)) Via.refl e5 F_size_kkR (g := (mkF m 13 #[rv oR, iv p2, rv kkR, .unset, .unset, .unset] [(.ref kkR)])) rfl rfl (hb hby d7_13)
  have R12 := fun t k => R10 t (st11 t k)
  have R13 : ∀ t, own_S p e below T11 (mkF m 21 #[rv oR, iv p2, rv kkR, .unset, .unset, .unset] [(.ref kkR), (.int p2)]) t → own_S p e below s₁ f0 t := fun t k => R12 t (by
    refine XS.ifNo X11.here hx rfl (hb hby d7_16) rfl ((if0 _ _).trans (feq (by decide : ¬ ((2 : Int32) = (0 : Int32)))).1) ?_
    refine XS.iloadN X11.here hx rfl (hb hby d7_19) rfl  ?_
    refine XS.aloadN X11.here hx rfl (hb hby d7_20) rfl rfl ?_
    exact k)
  obtain ⟨T14, X14, e14, st14⟩ := getF X11 hx hZ hown (Or.inr (hU 83 _ rfl)) Via.refl e11 F_starts_kkR (g := (mkF m 21 #[rv oR, iv p2, rv kkR, .unset, .unset, .unset] [(.ref kkR), (.int p2)])) rfl rfl (hb hby d7_21)
  have R15 := fun t k => R13 t (st14 t k)
  have R16 : ∀ t, own_S p e below T14 (mkF m 25 #[rv oR, iv p2, rv kkR, .unset, .unset, .unset] [(.ref kkR), (.ref saR), (.int p2)]) t → own_S p e below s₁ f0 t := fun t k => R15 t (by
    refine XS.aloadN X14.here hx rfl (hb hby d7_24) rfl rfl ?_
    exact k)
  obtain ⟨T17, X17, e17, st17⟩ := getF X14 hx hZ hown (Or.inr (hU 66 _ rfl)) Via.refl e14 F_size_kkR (g := (mkF m 25 #[rv oR, iv p2, rv kkR, .unset, .unset, .unset] [(.ref kkR), (.ref saR), (.int p2)])) rfl rfl (hb hby d7_25)
  have R18 := fun t k => R16 t (st17 t k)
  have R19 : ∀ t, own_S p e below T17 (mkF m 30 #[rv oR, iv p2, rv kkR, .unset, .unset, .unset] [(.int (1 : Int32)), (.ref saR), (.int p2)]) t → own_S p e below s₁ f0 t := fun t k => R18 t (by
    refine XS.iconst X17.here hx rfl (hb hby d7_28) ?_
    refine XS.isub X17.here hx rfl (hb hby d7_29) rfl ?_
    exact k)
  obtain ⟨cl20, Ar20, q20, S20, n20_, H20, G20⟩ := id A_saR
  have hin20 : ¬ ((1 : Int32) < 0 ∨ cl20.slots.size ≤ ((1 : Int32)).toNatClampNeg) := inb_of S20 ⟨by decide, by decide⟩
  have hat20 : cl20.slots[((1 : Int32)).toNatClampNeg]? = some (.int x1) := Has.at H20 hin20 rfl
  have R21 : ∀ t, own_S p e below T17 (mkF m 31 #[rv oR, iv p2, rv kkR, .unset, .unset, .unset] [(.int x1), (.int p2)]) t → own_S p e below s₁ f0 t := fun t k => R19 t (X17.iaload hx (j := (1 : Int32)) (v := (.int x1)) (by rw [e17]; exact Ar20.1) (State.isArrayOf_alike hZ.alike Ar20.2.1) Ar20.2.2 hin20 hat20 (g := (mkF m 30 #[rv oR, iv p2, rv kkR, .unset, .unset, .unset] [(.int (1 : Int32)), (.ref saR), (.int p2)])) rfl rfl (hb hby d7_30) _ k)
  have R22 : ∀ t, own_S p e below T17 (mkF m 35 #[rv oR, iv p2, rv kkR, .unset, .unset, .unset] [(.ref oR)]) t → own_S p e below s₁ f0 t := fun t k => R21 t (by
    refine XS.icmpNo X17.here hx rfl (hb hby d7_31) rfl (tlt ho1).2.2.2 ?_
    refine XS.aloadN X17.here hx rfl (hb hby d7_34) rfl rfl ?_
    exact k)
  obtain ⟨T23, X23, e23, st23⟩ := getF X17 hx hZ hown (host := "") (Or.inl (hU 22 _ rfl)) Via.refl e17 F_chunkCount_oR (g := (mkF m 35 #[rv oR, iv p2, rv kkR, .unset, .unset, .unset] [(.ref oR)])) rfl rfl (hb hby d7_35)
  have R24 := fun t k => R22 t (st23 t k)
  have R25 : ∀ t, own_S p e below T23 (mkF m 41 #[rv oR, iv p2, rv kkR, .unset, .unset, .unset] [(.long ((0 : Int32).toInt64))]) t → own_S p e below s₁ f0 t := fun t k => R24 t (by
    refine XS.iconst X23.here hx rfl (hb hby d7_38) ?_
    refine XS.isub X23.here hx rfl (hb hby d7_39) rfl ?_
    refine XS.i2l X23.here hx rfl (hb hby d7_40) rfl ?_
    exact k)
  have R26 : ∀ t, own_S p e below T23 (mkF m 41 #[rv oR, iv p2, rv kkR, .unset, .unset, .unset] [(.long (0 : Int64))]) t → own_S p e below s₁ f0 t := by have q := R25; rw [((by decide) : ((0 : Int32).toInt64) = (0 : Int64))] at q; exact q
  have R27 : ∀ t, own_S p e below T23 (mkF m 44 #[rv oR, iv p2, rv kkR, .unset, .unset, .unset] [(.long ((0 : Int64) <<< ((32 : Int32) &&& 0x3f).toInt64))]) t → own_S p e below s₁ f0 t := fun t k => R26 t (by
    refine XS.bipush X23.here hx rfl (hb hby d7_41) ?_
    refine XS.lshl X23.here hx rfl (hb hby d7_43) rfl ?_
    exact k)
  have R28 : ∀ t, own_S p e below T23 (mkF m 44 #[rv oR, iv p2, rv kkR, .unset, .unset, .unset] [(.long (0 : Int64))]) t → own_S p e below s₁ f0 t := by have q := R27; rw [((by decide) : ((0 : Int64) <<< ((32 : Int32) &&& 0x3f).toInt64) = (0 : Int64))] at q; exact q
  have R29 : ∀ t, own_S p e below T23 (mkF m 48 #[rv oR, iv p2, rv kkR, .unset, .unset, .unset] [(.ref kkR), (.int (256 : Int32)), (.long (0 : Int64))]) t → own_S p e below s₁ f0 t := fun t k => R28 t (by
    refine XS.sipush X23.here hx rfl (hb hby d7_44) ?_
    refine XS.aloadN X23.here hx rfl (hb hby d7_47) rfl rfl ?_
    exact k)
  obtain ⟨T30, X30, e30, st30⟩ := getF X23 hx hZ hown (Or.inr (hU 66 _ rfl)) Via.refl e23 F_size_kkR (g := (mkF m 48 #[rv oR, iv p2, rv kkR, .unset, .unset, .unset] [(.ref kkR), (.int (256 : Int32)), (.long (0 : Int64))])) rfl rfl (hb hby d7_48)
  have R31 := fun t k => R29 t (st30 t k)
  have R32 : ∀ t, own_S p e below T30 (mkF m 53 #[rv oR, iv p2, rv kkR, .unset, .unset, .unset] [(.long ((258 : Int32).toInt64)), (.long (0 : Int64))]) t → own_S p e below s₁ f0 t := fun t k => R31 t (by
    refine XS.iadd X30.here hx rfl (hb hby d7_51) rfl ?_
    refine XS.i2l X30.here hx rfl (hb hby d7_52) rfl ?_
    exact k)
  have R33 : ∀ t, own_S p e below T30 (mkF m 53 #[rv oR, iv p2, rv kkR, .unset, .unset, .unset] [(.long (258 : Int64)), (.long (0 : Int64))]) t → own_S p e below s₁ f0 t := by have q := R32; rw [((by decide) : ((258 : Int32).toInt64) = (258 : Int64))] at q; exact q
  have R34 : ∀ t, own_S p e below T30 (mkF m 54 #[rv oR, iv p2, rv kkR, .unset, .unset, .unset] [(.long (258 : Int64))]) t → own_S p e below s₁ f0 t := fun t k => R33 t (by
    refine XS.lor X30.here hx rfl (hb hby d7_53) rfl ?_
    exact k)
  obtain ⟨fs, hr, hrun, hended, hW, hsame⟩ := X30.leave (v := some (.long (258 : Int64))) (fun h => by rw [Bd.returns] at h; cases h)
  refine ⟨_, _, pre0 _ (R34 _ ?_), hrun, hended, _, _, rfl, ?_, ⟨_, rfl⟩, hW, hsame.mono (by decide) (by decide)⟩
  · show own_S p e below T30 (mkF m 54 #[rv oR, iv p2, rv kkR, .unset, .unset, .unset] [(.long (258 : Int64))]) _
    exact retOut X30 hx (t := .long) Bd.returns rfl (Or.inr (Or.inl ⟨rfl, rfl, _, rfl⟩)) (hb hby d7_54) hr
  · show Q_rmFind2_2 Z oR p2 ckR kckR kkR x0 x1 saR kstR fiR kfiR h0 n0 _ T30.heap _
    rw [e30]
    exact ⟨rfl, N0, rfl⟩
theorem ef_rmFf2_2 (m : MethodId) (x0 : Addr) (x1 : Int32) : entryFrame m #[(.ref x0), (.int x1)] 4 = mkF m 0 #[rv x0, iv x1, .unset, .unset] [] := by first | (simp [entryFrame, mkF, argsToLocals, Value.category]; done) | rfl
def Q_rmFf2_2 (Z : State) (a1 : Addr) (p2 : Int32) (oR : Addr) (ckR : Addr) (kckR : ClassId) (kkR : Addr) (x0 : Int32) (x1 : Int32) (saR : Addr) (kstR : ClassId) (fiR : Addr) (kfiR : ClassId) (oU : Addr) (ckU : Addr) (kckU : ClassId) (kkU : Addr) (h0 : Heap) (n0 : Nat) (v : Option Value) (h : Heap) (L : List Loc) : Prop := v = some (.long (258 : Int64)) ∧ Fr n0 L ∧ h = h0
set_option maxRecDepth 65536 in
set_option maxHeartbeats 40000000 in
theorem rmFf2_2 (l : Launch) (Z : State) (a0 : Array Value) (hw : ∀ d ∈ tables_1, d.before a0 Z = true) (ws : List Jvm.Cond) (a1 : Addr) (p2 : Int32) (oR : Addr) (ckR : Addr) (kckR : ClassId) (kkR : Addr) (x0 : Int32) (x1 : Int32) (saR : Addr) (kstR : ClassId) (fiR : Addr) (kfiR : ClassId) (oU : Addr) (ckU : Addr) (kckU : ClassId) (kkU : Addr) (h0 : Heap) (n0 : Nat) (Z0 : n0 ≤ h0.size) (F_read_a1 : Fld Z h0 a1 sN2 "read" sN4 (.ref oR)) (F_unread_a1 : Fld Z h0 a1 sN2 "unread" sN4 (.ref oU)) (E_oR : Exa Z h0 oR sN0) (F_chunks_oR : Fld Z h0 oR sN0 "chunks" sN3 (.ref ckR)) (F_chunkCount_oR : Fld Z h0 oR sN0 "chunkCount" "I" (.int (1 : Int32))) (A_ckR : Arv Z h0 ckR kckR (.object sN1) (1 : Int32) [(.ref kkR)] .null) (F_size_kkR : Fld Z h0 kkR sN1 "size" "I" (.int (2 : Int32))) (F_starts_kkR : Fld Z h0 kkR sN1 "starts" "[I" (.ref saR)) (A_saR : Arv Z h0 saR kstR .int (256 : Int32) [(.int x0), (.int x1), (.int (0 : Int32))] (.int (0 : Int32))) (F_firsts_oR : Fld Z h0 oR sN0 "firsts" "[I" (.ref fiR)) (A_fiR : Arv Z h0 fiR kfiR .int (1 : Int32) [(.int x0)] (.int (0 : Int32))) (E_oU : Exa Z h0 oU sN0) (F_chunks_oU : Fld Z h0 oU sN0 "chunks" sN3 (.ref ckU)) (A_ckU : Arv Z h0 ckU kckU (.object sN1) (1 : Int32) [(.ref kkU)] .null) (E_kkU : Exa Z h0 kkU sN1) (F_size_kkU : Fld Z h0 kkU sN1 "size" "I" (.int (0 : Int32))) (ho0 : x0 < p2) (ho1 : x1 < p2) :
    own_M l (⟨sN2, "find", "(I)J"⟩ : MethodName) (Jvm.Cond.code (⟨sN2, "find", "(I)J"⟩ : MethodName) prog_116_method_2_code 4 (some .long) :: ws) ({ frames := 1, cells := 0, slots := 0, locals := 17 } : Room) #[(.ref a1), (.int p2)] Z h0 (Q_rmFf2_2 Z a1 p2 oR ckR kckR kkR x0 x1 saR kstR fiR kfiR oU ckU kckU kkU h0 n0) := by
  refine MetFree.of_bodySF (plainFor_of_name pn_3) hisR ?_
  intro p e s m args below meth c s₁ Bd hml0 hP hK
  obtain ⟨rfl, hZ, hh⟩ := hP
  have hx := Bd.exec
  have hby := Bd.bytes
  have hml : c.maxLocals = 4 := hml0
  have hown : s.vm.findClass sN2 = some m.cls := findClass_of_methodNamed Bd.named
  have hnm := (name_of_methodNamed Bd.named Bd.method).1
  have X0 : Stand p l e ({ frames := 1, cells := 0, slots := 0, locals := 17 } : Room) s m #[(.ref a1), (.int p2)] below meth c s₁ [] 0 0 := Stand.of_body Bd
  have hU : ∀ (i : Nat) (d : Jvm.Cond), tables_1[i]? = some d → d.before a0 Z = true := fun i d h => hw d (List.mem_of_getElem? h)
  have e0 : s₁.heap = h0 := by rw [← hh, Bd.state]; rfl
  have N0 := Fr.nil n0
  obtain ⟨f0, hf0⟩ : ∃ f : JFrame, f = mkF m 0 #[rv a1, iv p2, .unset, .unset] [] := ⟨_, rfl⟩
  have pre0 : ∀ t, own_S p e below s₁ f0 t → Steps p.tables e below (s₁.setTop (entryFrame m #[(.ref a1), (.int p2)] 4)) t := fun t k => castTop ((ef_rmFf2_2 m a1 p2).trans hf0.symm) k
  have R0 : ∀ t, own_S p e below s₁ (mkF m 0 #[rv a1, iv p2, .unset, .unset] []) t → own_S p e below s₁ f0 t := by rw [hf0]; exact fun t k => k
  have R1 : ∀ t, own_S p e below s₁ (mkF m 1 #[rv a1, iv p2, .unset, .unset] [(.ref a1)]) t → own_S p e below s₁ f0 t := fun t k => R0 t (by
    refine XS.aloadN X0.here hx rfl (hb hby d6_0) rfl rfl ?_
    exact k)
  obtain ⟨T2, X2, e2, st2⟩ := getF X0 hx hZ hown (host := "") (Or.inl (hU 45 _ rfl)) Via.refl e0 F_read_a1 (g := (mkF m 1 #[rv a1, iv p2, .unset, .unset] [(.ref a1)])) rfl rfl (hb hby d6_1)
  have R3 := fun t k => R1 t (st2 t k)
  have R4 : ∀ t, own_S p e below T2 (mkF m 5 #[rv a1, iv p2, .unset, .unset] [(.int p2), (.ref oR)]) t → own_S p e below s₁ f0 t := fun t k => R3 t (by
    refine XS.iloadN X2.here hx rfl (hb hby d6_4) rfl  ?_
    exact k)
  obtain ⟨cq5, kq5, q5a, q5b, q5c⟩ := isOf hZ e2 E_oR
  obtain ⟨_, _, ⟨T5, L5, k5, n5⟩, -, X5, ⟨Lc5, hQ5, l5, y5, z5⟩, st5⟩ := X2.virtualBack hx (y := (⟨sN0, "find", "(I)J"⟩ : MethodName)) (z := (⟨sN0, "find", "(I)J"⟩ : MethodName)) hown (mvT hZ (hU 61 _ rfl)) (mvT hZ (hU 62 _ rfl)) (notFace_of_selects (args := #[]) (mvT hZ (hU 64 _ rfl))) (mvT hZ (hU 64 _ rfl)) (mvT hZ (hU 63 _ rfl)) (by decide) (backOf (W := 0) (rmFind2_2 l Z a0 hw [] oR p2 ckR kckR kkR x0 x1 saR kstR fiR kfiR h0 n0 Z0 F_chunks_oR F_chunkCount_oR A_ckR F_size_kkR F_starts_kkR A_saR F_firsts_oR A_fiR ho0 ho1) hZ (hU 65 _ rfl) (hU 14 _ rfl) (by decide) (by decide)) q5a q5c (g := (mkF m 5 #[rv a1, iv p2, .unset, .unset] [(.int p2), (.ref oR)])) rfl (by rw [hml]; rfl) (Steps.refl _) (argsL := [(.int p2)]) (rest := []) (lenOf pd_5 rfl) rfl (Nat.le_of_eq rfl) (hb hby d6_5) (fun _ _ => ⟨rfl, e2, (by decide : 0 + 0 ≤ _), (by decide : 0 + 0 ≤ _)⟩)
  dsimp only [Pt.U, Pt.locs, Pt.cells, Pt.slots] at X5 l5 y5 z5 st5 hQ5
  subst l5 y5 z5
  obtain ⟨rfl, N5q, p5_0⟩ := hQ5
  have N5 := Fr.app N0 N5q
  have R6 := fun t k => R4 t (st5.trans k)
  have R7 : ∀ t, own_S p e below T5 (mkF m 11 #[rv a1, iv p2, own_l (258 : Int64), .second] [(.int ((258 : Int64).toInt32))]) t → own_S p e below s₁ f0 t := fun t k => R6 t (by
    refine XS.lstoreN X5.here hx rfl (hb hby d6_8) rfl (l' := #[rv a1, iv p2, own_l (258 : Int64), .second]) rfl ?_
    refine XS.lloadN X5.here hx rfl (hb hby d6_9) rfl  ?_
    refine XS.l2i X5.here hx rfl (hb hby d6_10) rfl ?_
    exact k)
  have R8 : ∀ t, own_S p e below T5 (mkF m 11 #[rv a1, iv p2, own_l (258 : Int64), .second] [(.int (258 : Int32))]) t → own_S p e below s₁ f0 t := by have q := R7; rw [((by decide) : ((258 : Int64).toInt32) = (258 : Int32))] at q; exact q
  have R9 : ∀ t, own_S p e below T5 (mkF m 18 #[rv a1, iv p2, own_l (258 : Int64), .second] [(.ref a1)]) t → own_S p e below s₁ f0 t := fun t k => R8 t (by
    refine XS.sipush X5.here hx rfl (hb hby d6_11) ?_
    refine XS.icmpNo X5.here hx rfl (hb hby d6_14) rfl (flt (by decide : ¬ ((258 : Int32) < (256 : Int32)))).1 ?_
    refine XS.aloadN X5.here hx rfl (hb hby d6_17) rfl rfl ?_
    exact k)
  obtain ⟨T10, X10, e10, st10⟩ := getF X5 hx hZ hown (host := "") (Or.inl (hU 47 _ rfl)) Via.refl p5_0 F_unread_a1 (g := (mkF m 18 #[rv a1, iv p2, own_l (258 : Int64), .second] [(.ref a1)])) rfl rfl (hb hby d6_18)
  have R11 := fun t k => R9 t (st10 t k)
  obtain ⟨cq12, kq12, q12a, q12b, q12c⟩ := isOf hZ e10 E_oU
  obtain ⟨_, _, ⟨T12, L12, k12, n12⟩, -, X12, ⟨Lc12, hQ12, l12, y12, z12⟩, st12⟩ := X10.virtualBack hx (y := (⟨sN0, "isEmpty", "()Z"⟩ : MethodName)) (z := (⟨sN0, "isEmpty", "()Z"⟩ : MethodName)) hown (mvT hZ (hU 68 _ rfl)) (mvT hZ (hU 69 _ rfl)) (notFace_of_selects (args := #[]) (mvT hZ (hU 71 _ rfl))) (mvT hZ (hU 71 _ rfl)) (mvT hZ (hU 70 _ rfl)) (by decide) (backOf (W := 0) (rmEmp0 l Z a0 hw [] oU ckU kckU kkU h0 n0 Z0 F_chunks_oU A_ckU F_size_kkU) hZ (hU 72 _ rfl) (hU 14 _ rfl) (by decide) (by decide)) q12a q12c (g := (mkF m 21 #[rv a1, iv p2, own_l (258 : Int64), .second] [(.ref oU)])) rfl (by rw [hml]; rfl) (Steps.refl _) (argsL := []) (rest := []) (lenOf pd_6 rfl) rfl (Nat.le_of_eq rfl) (hb hby d6_21) (fun _ _ => ⟨rfl, e10, (by decide : 0 + 0 ≤ _), (by decide : 0 + 0 ≤ _)⟩)
  dsimp only [Pt.U, Pt.locs, Pt.cells, Pt.slots] at X12 l12 y12 z12 st12 hQ12
  subst l12 y12 z12
  obtain ⟨rfl, N12q, p12_0⟩ := hQ12
  have N12 := Fr.app N5 N12q
  have R13 := fun t k => R11 t (st12.trans k)
  have R14 : ∀ t, own_S p e below T12 (mkF m 43 #[rv a1, iv p2, own_l (258 : Int64), .second] [(.long (258 : Int64))]) t → own_S p e below s₁ f0 t := fun t k => R13 t (by
    refine XS.ifYes X12.here hx rfl (pc0 := 24) (pc' := 42) rfl (hb hby d6_24) rfl ((if0 _ _).trans (feq (by decide : ¬ ((1 : Int32) = (0 : Int32)))).2) (by decide) (by decide) ?_
    refine XS.lloadN X12.here hx rfl (hb hby d6_42) rfl  ?_
    exact k)
  obtain ⟨fs, hr, hrun, hended, hW, hsame⟩ := X12.leave (v := some (.long (258 : Int64))) (fun h => by rw [Bd.returns] at h; cases h)
  refine ⟨_, _, pre0 _ (R14 _ ?_), hrun, hended, _, _, rfl, ?_, ⟨_, rfl⟩, hW, hsame.mono (by decide) (by decide)⟩
  · show own_S p e below T12 (mkF m 43 #[rv a1, iv p2, own_l (258 : Int64), .second] [(.long (258 : Int64))]) _
    exact retOut X12 hx (t := .long) Bd.returns rfl (Or.inr (Or.inl ⟨rfl, rfl, _, rfl⟩)) (hb hby d6_43) hr
  · show Q_rmFf2_2 Z a1 p2 oR ckR kckR kkR x0 x1 saR kstR fiR kfiR oU ckU kckU kkU h0 n0 _ T12.heap _
    rw [p12_0]
    exact ⟨rfl, N12, rfl⟩
theorem ef_rmCt2_2 (m : MethodId) (x0 : Addr) (x1 : Int64) (x2 : Int32) : entryFrame m #[(.ref x0), (.long x1), (.int x2)] 7 = mkF m 0 #[rv x0, own_l x1, .second, iv x2, .unset, .unset, .unset] [] := by first | (simp [entryFrame, mkF, argsToLocals, Value.category]; done) | rfl
def Q_rmCt2_2 (Z : State) (a1 : Addr) (p3 : Int32) (oR : Addr) (ckR : Addr) (kckR : ClassId) (kkR : Addr) (saR : Addr) (kstR : ClassId) (enR : Addr) (kenR : ClassId) (x0 : Int32) (x1 : Int32) (e_0 : Int32) (e_1 : Int32) (h0 : Heap) (n0 : Nat) (v : Option Value) (h : Heap) (L : List Loc) : Prop := v = some (.int (own_ct p3 e_1 x1)) ∧ Fr n0 L ∧ h = h0
set_option maxRecDepth 65536 in
set_option maxHeartbeats 40000000 in
theorem rmCt2_2 (l : Launch) (Z : State) (a0 : Array Value) (hw : ∀ d ∈ tables_1, d.before a0 Z = true) (ws : List Jvm.Cond) (a1 : Addr) (p3 : Int32) (oR : Addr) (ckR : Addr) (kckR : ClassId) (kkR : Addr) (saR : Addr) (kstR : ClassId) (enR : Addr) (kenR : ClassId) (x0 : Int32) (x1 : Int32) (e_0 : Int32) (e_1 : Int32) (h0 : Heap) (n0 : Nat) (Z0 : n0 ≤ h0.size) (F_read_a1 : Fld Z h0 a1 sN2 "read" sN4 (.ref oR)) (F_chunks_oR : Fld Z h0 oR sN0 "chunks" sN3 (.ref ckR)) (A_ckR : Arv Z h0 ckR kckR (.object sN1) (1 : Int32) [(.ref kkR)] .null) (F_starts_kkR : Fld Z h0 kkR sN1 "starts" "[I" (.ref saR)) (F_ends_kkR : Fld Z h0 kkR sN1 "ends" "[I" (.ref enR)) (A_saR : Arv Z h0 saR kstR .int (256 : Int32) [(.int x0), (.int x1), (.int (0 : Int32))] (.int (0 : Int32))) (A_enR : Arv Z h0 enR kenR .int (256 : Int32) [(.int e_0), (.int e_1), (.int (0 : Int32))] (.int (0 : Int32))) :
    own_M l (⟨sN2, "containing", "(JI)I"⟩ : MethodName) (Jvm.Cond.code (⟨sN2, "containing", "(JI)I"⟩ : MethodName) prog_116_method_7_code 7 (some .int) :: ws) ({ frames := 0, cells := 0, slots := 0, locals := 0 } : Room) #[(.ref a1), (.long (258 : Int64)), (.int p3)] Z h0 (Q_rmCt2_2 Z a1 p3 oR ckR kckR kkR saR kstR enR kenR x0 x1 e_0 e_1 h0 n0) := by
  refine MetFree.of_bodySF (plainFor_of_name pn_3) hisR ?_
  intro p e s m args below meth c s₁ Bd hml0 hP hK
  obtain ⟨rfl, hZ, hh⟩ := hP
  have hx := Bd.exec
  have hby := Bd.bytes
  have hml : c.maxLocals = 7 := hml0
  have hown : s.vm.findClass sN2 = some m.cls := findClass_of_methodNamed Bd.named
  have hnm := (name_of_methodNamed Bd.named Bd.method).1
  have X0 : Stand p l e ({ frames := 0, cells := 0, slots := 0, locals := 0 } : Room) s m #[(.ref a1), (.long (258 : Int64)), (.int p3)] below meth c s₁ [] 0 0 := Stand.of_body Bd
  have hU : ∀ (i : Nat) (d : Jvm.Cond), tables_1[i]? = some d → d.before a0 Z = true := fun i d h => hw d (List.mem_of_getElem? h)
  have e0 : s₁.heap = h0 := by rw [← hh, Bd.state]; rfl
  have N0 := Fr.nil n0
  obtain ⟨f0, hf0⟩ : ∃ f : JFrame, f = mkF m 0 #[rv a1, own_l (258 : Int64), .second, iv p3, .unset, .unset, .unset] [] := ⟨_, rfl⟩
  have pre0 : ∀ t, own_S p e below s₁ f0 t → Steps p.tables e below (s₁.setTop (entryFrame m #[(.ref a1), (.long (258 : Int64)), (.int p3)] 7)) t := fun t k => castTop ((ef_rmCt2_2 m a1 (258 : Int64) p3).trans hf0.symm) k
  have R0 : ∀ t, own_S p e below s₁ (mkF m 0 #[rv a1, own_l (258 : Int64), .second, iv p3, .unset, .unset, .unset] []) t → own_S p e below s₁ f0 t := by rw [hf0]; exact fun t k => k
  have R1 : ∀ t, own_S p e below s₁ (mkF m 4 #[rv a1, own_l (258 : Int64), .second, iv p3, .unset, .unset, .unset] [(.long (((258 : Int64).toUInt64 >>> ((32 : Int32) &&& 0x3f).toInt64.toUInt64).toInt64))]) t → own_S p e below s₁ f0 t := fun t k => R0 t (by
    refine XS.lloadN X0.here hx rfl (hb hby d18_0) rfl  ?_
    refine XS.bipush X0.here hx rfl (hb hby d18_1) ?_
    refine XS.lushr X0.here hx rfl (hb hby d18_3) rfl ?_
    exact k)
  have R2 : ∀ t, own_S p e below s₁ (mkF m 4 #[rv a1, own_l (258 : Int64), .second, iv p3, .unset, .unset, .unset] [(.long (0 : Int64))]) t → own_S p e below s₁ f0 t := by have q := R1; rw [((by decide) : (((258 : Int64).toUInt64 >>> ((32 : Int32) &&& 0x3f).toInt64.toUInt64).toInt64) = (0 : Int64))] at q; exact q
  have R3 : ∀ t, own_S p e below s₁ (mkF m 5 #[rv a1, own_l (258 : Int64), .second, iv p3, .unset, .unset, .unset] [(.int ((0 : Int64).toInt32))]) t → own_S p e below s₁ f0 t := fun t k => R2 t (by
    refine XS.l2i X0.here hx rfl (hb hby d18_4) rfl ?_
    exact k)
  have R4 : ∀ t, own_S p e below s₁ (mkF m 5 #[rv a1, own_l (258 : Int64), .second, iv p3, .unset, .unset, .unset] [(.int (0 : Int32))]) t → own_S p e below s₁ f0 t := by have q := R3; rw [((by decide) : ((0 : Int64).toInt32) = (0 : Int32))] at q; exact q
  have R5 : ∀ t, own_S p e below s₁ (mkF m 9 #[rv a1, own_l (258 : Int64), .second, iv p3, iv (0 : Int32), .unset, .unset] [(.int ((258 : Int64).toInt32))]) t → own_S p e below s₁ f0 t := fun t k => R4 t (by
    refine XS.istore X0.here hx rfl (hb hby d18_5) rfl (l' := #[rv a1, own_l (258 : Int64), .second, iv p3, iv (0 : Int32), .unset, .unset]) rfl ?_
    refine XS.lloadN X0.here hx rfl (hb hby d18_7) rfl  ?_
    refine XS.l2i X0.here hx rfl (hb hby d18_8) rfl ?_
    exact k)
  have R6 : ∀ t, own_S p e below s₁ (mkF m 9 #[rv a1, own_l (258 : Int64), .second, iv p3, iv (0 : Int32), .unset, .unset] [(.int (258 : Int32))]) t → own_S p e below s₁ f0 t := by have q := R5; rw [((by decide) : ((258 : Int64).toInt32) = (258 : Int32))] at q; exact q
  have R7 : ∀ t, own_S p e below s₁ (mkF m 46 #[rv a1, own_l (258 : Int64), .second, iv p3, iv (0 : Int32), iv (2 : Int32), .unset] [(.ref a1)]) t → own_S p e below s₁ f0 t := fun t k => R6 t (by
    refine XS.sipush X0.here hx rfl (hb hby d18_9) ?_
    refine XS.isub X0.here hx rfl (hb hby d18_12) rfl ?_
    refine XS.istore X0.here hx rfl (hb hby d18_13) rfl (l' := #[rv a1, own_l (258 : Int64), .second, iv p3, iv (0 : Int32), iv (2 : Int32), .unset]) rfl ?_
    refine XS.iload X0.here hx rfl (hb hby d18_15) rfl  ?_
    refine XS.ifYes X0.here hx rfl (pc0 := 17) (pc' := 45) rfl (hb hby d18_17) rfl ((if0 _ _).trans (feq (by decide : ¬ ((2 : Int32) = (0 : Int32)))).2) (by decide) (by decide) ?_
    refine XS.aloadN X0.here hx rfl (hb hby d18_45) rfl rfl ?_
    exact k)
  obtain ⟨T8, X8, e8, st8⟩ := getF X0 hx hZ hown (host := "") (Or.inl (hU 45 _ rfl)) Via.refl e0 F_read_a1 (g := (mkF m 46 #[rv a1, own_l (258 : Int64), .second, iv p3, iv (0 : Int32), iv (2 : Int32), .unset] [(.ref a1)])) rfl rfl (hb hby d18_46)
  have R9 := fun t k => R7 t (st8 t k)
  have R10 : ∀ t, own_S p e below T8 (mkF m 54 #[rv a1, own_l (258 : Int64), .second, iv p3, iv (0 : Int32), iv (2 : Int32), .unset] [(.int (0 : Int32)), (.ref ckR)]) t → own_S p e below s₁ f0 t := fun t k => R9 t (by
    refine own_getFR X8 hx hZ hown (hU 124 _ rfl) e8 F_chunks_oR (g := (mkF m 49 #[rv a1, own_l (258 : Int64), .second, iv p3, iv (0 : Int32), iv (2 : Int32), .unset] [(.ref oR)])) rfl rfl (hb hby d18_49) _ ?_
    refine XS.iload X8.here hx rfl (hb hby d18_52) rfl  ?_
    exact k)
  obtain ⟨cl11, Ar11, q11, S11, n11_, H11, G11⟩ := id A_ckR
  have hin11 : ¬ ((0 : Int32) < 0 ∨ cl11.slots.size ≤ ((0 : Int32)).toNatClampNeg) := inb_of S11 ⟨by decide, by decide⟩
  have hat11 : cl11.slots[((0 : Int32)).toNatClampNeg]? = some (.ref kkR) := Has.at H11 hin11 rfl
  have R12 : ∀ t, own_S p e below T8 (mkF m 55 #[rv a1, own_l (258 : Int64), .second, iv p3, iv (0 : Int32), iv (2 : Int32), .unset] [(.ref kkR)]) t → own_S p e below s₁ f0 t := fun t k => R10 t (X8.aaload hx (j := (0 : Int32)) (v := (.ref kkR)) (by rw [e8]; exact Ar11.1) (State.isArrayOf_alike hZ.alike Ar11.2.1) rfl Ar11.2.2 hin11 hat11 (g := (mkF m 54 #[rv a1, own_l (258 : Int64), .second, iv p3, iv (0 : Int32), iv (2 : Int32), .unset] [(.int (0 : Int32)), (.ref ckR)])) rfl rfl (hb hby d18_54) _ k)
  have R13 : ∀ t, own_S p e below T8 (mkF m 66 #[rv a1, own_l (258 : Int64), .second, iv p3, iv (0 : Int32), iv (2 : Int32), rv kkR] [(.int (1 : Int32)), (.ref enR)]) t → own_S p e below s₁ f0 t := fun t k => R12 t (by
    refine XS.astore X8.here hx rfl (hb hby d18_55) rfl rfl (l' := #[rv a1, own_l (258 : Int64), .second, iv p3, iv (0 : Int32), iv (2 : Int32), rv kkR]) rfl ?_
    refine XS.aload X8.here hx rfl (hb hby d18_57) rfl rfl ?_
    refine own_getFR X8 hx hZ hown (hU 125 _ rfl) e8 F_ends_kkR (g := (mkF m 59 #[rv a1, own_l (258 : Int64), .second, iv p3, iv (0 : Int32), iv (2 : Int32), rv kkR] [(.ref kkR)])) rfl rfl (hb hby d18_59) _ ?_
    refine XS.iload X8.here hx rfl (hb hby d18_62) rfl  ?_
    refine XS.iconst X8.here hx rfl (hb hby d18_64) ?_
    refine XS.isub X8.here hx rfl (hb hby d18_65) rfl ?_
    exact k)
  obtain ⟨cl14, Ar14, q14, S14, n14_, H14, G14⟩ := id A_enR
  have hin14 : ¬ ((1 : Int32) < 0 ∨ cl14.slots.size ≤ ((1 : Int32)).toNatClampNeg) := inb_of S14 ⟨by decide, by decide⟩
  have hat14 : cl14.slots[((1 : Int32)).toNatClampNeg]? = some (.int e_1) := Has.at H14 hin14 rfl
  have R15 : ∀ t, own_S p e below T8 (mkF m 67 #[rv a1, own_l (258 : Int64), .second, iv p3, iv (0 : Int32), iv (2 : Int32), rv kkR] [(.int e_1)]) t → own_S p e below s₁ f0 t := fun t k => R13 t (X8.iaload hx (j := (1 : Int32)) (v := (.int e_1)) (by rw [e8]; exact Ar14.1) (State.isArrayOf_alike hZ.alike Ar14.2.1) Ar14.2.2 hin14 hat14 (g := (mkF m 66 #[rv a1, own_l (258 : Int64), .second, iv p3, iv (0 : Int32), iv (2 : Int32), rv kkR] [(.int (1 : Int32)), (.ref enR)])) rfl rfl (hb hby d18_66) _ k)
  have R16 : ∀ t, own_S p e below T8 (mkF m 68 #[rv a1, own_l (258 : Int64), .second, iv p3, iv (0 : Int32), iv (2 : Int32), rv kkR] [(.int p3), (.int e_1)]) t → own_S p e below s₁ f0 t := fun t k => R15 t (by
    refine XS.iloadN X8.here hx rfl (hb hby d18_67) rfl  ?_
    exact k)
  by_cases hs1 : p3 < e_1
  · skip
    have R17 : ∀ t, own_S p e below T8 (mkF m 80 #[rv a1, own_l (258 : Int64), .second, iv p3, iv (0 : Int32), iv (2 : Int32), rv kkR] [(.int (1 : Int32)), (.ref saR)]) t → own_S p e below s₁ f0 t := fun t k => R16 t (by
      refine XS.icmpNo X8.here hx rfl (hb hby d18_68) rfl (tlt hs1).2.2.2 ?_
      refine XS.aload X8.here hx rfl (hb hby d18_71) rfl rfl ?_
      refine own_getFR X8 hx hZ hown (hU 126 _ rfl) e8 F_starts_kkR (g := (mkF m 73 #[rv a1, own_l (258 : Int64), .second, iv p3, iv (0 : Int32), iv (2 : Int32), rv kkR] [(.ref kkR)])) rfl rfl (hb hby d18_73) _ ?_
      refine XS.iload X8.here hx rfl (hb hby d18_76) rfl  ?_
      refine XS.iconst X8.here hx rfl (hb hby d18_78) ?_
      refine XS.isub X8.here hx rfl (hb hby d18_79) rfl ?_
      exact k)
    obtain ⟨cl18, Ar18, q18, S18, n18_, H18, G18⟩ := id A_saR
    have hin18 : ¬ ((1 : Int32) < 0 ∨ cl18.slots.size ≤ ((1 : Int32)).toNatClampNeg) := inb_of S18 ⟨by decide, by decide⟩
    have hat18 : cl18.slots[((1 : Int32)).toNatClampNeg]? = some (.int x1) := Has.at H18 hin18 rfl
    have R19 : ∀ t, own_S p e below T8 (mkF m 81 #[rv a1, own_l (258 : Int64), .second, iv p3, iv (0 : Int32), iv (2 : Int32), rv kkR] [(.int x1)]) t → own_S p e below s₁ f0 t := fun t k => R17 t (X8.iaload hx (j := (1 : Int32)) (v := (.int x1)) (by rw [e8]; exact Ar18.1) (State.isArrayOf_alike hZ.alike Ar18.2.1) Ar18.2.2 hin18 hat18 (g := (mkF m 80 #[rv a1, own_l (258 : Int64), .second, iv p3, iv (0 : Int32), iv (2 : Int32), rv kkR] [(.int (1 : Int32)), (.ref saR)])) rfl rfl (hb hby d18_80) _ k)
    have R20 : ∀ t, own_S p e below T8 (mkF m 85 #[rv a1, own_l (258 : Int64), .second, iv p3, iv (0 : Int32), iv (2 : Int32), rv kkR] [(.int x1)]) t → own_S p e below s₁ f0 t := fun t k => R19 t (by
      refine XS.goto X8.here hx rfl (pc0 := 81) (pc' := 85) rfl (hb hby d18_81) (by decide) (by decide) ?_
      exact k)
    obtain ⟨fs, hr, hrun, hended, hW, hsame⟩ := X8.leave (v := some (.int x1)) (fun h => by rw [Bd.returns] at h; cases h)
    refine ⟨_, _, pre0 _ (R20 _ ?_), hrun, hended, _, _, rfl, ?_, ⟨_, rfl⟩, hW, hsame.mono (by decide) (by decide)⟩
    · show own_S p e below T8 (mkF m 85 #[rv a1, own_l (258 : Int64), .second, iv p3, iv (0 : Int32), iv (2 : Int32), rv kkR] [(.int x1)]) _
      exact retI X8 hx Bd.returns (hb hby d18_85) hr
    · show Q_rmCt2_2 Z a1 p3 oR ckR kckR kkR saR kstR enR kenR x0 x1 e_0 e_1 h0 n0 _ T8.heap _
      rw [e8]
      exact ⟨(by (try simp only [lw_gt, lw_lt, lw_eq] at hs1); simp [own_ct, hs1]), N0, rfl⟩
  · skip
    have R21 : ∀ t, own_S p e below T8 (mkF m 85 #[rv a1, own_l (258 : Int64), .second, iv p3, iv (0 : Int32), iv (2 : Int32), rv kkR] [(.int (-1 : Int32))]) t → own_S p e below s₁ f0 t := fun t k => R16 t (by
      refine XS.icmpYes X8.here hx rfl (pc0 := 68) (pc' := 84) rfl (hb hby d18_68) rfl (flt hs1).2.2.2 (by decide) (by decide) ?_
      refine XS.iconst X8.here hx rfl (hb hby d18_84) ?_
      exact k)
    obtain ⟨fs, hr, hrun, hended, hW, hsame⟩ := X8.leave (v := some (.int (-1 : Int32))) (fun h => by rw [Bd.returns] at h; cases h)
    refine ⟨_, _, pre0 _ (R21 _ ?_), hrun, hended, _, _, rfl, ?_, ⟨_, rfl⟩, hW, hsame.mono (by decide) (by decide)⟩
    · show own_S p e below T8 (mkF m 85 #[rv a1, own_l (258 : Int64), .second, iv p3, iv (0 : Int32), iv (2 : Int32), rv kkR] [(.int (-1 : Int32))]) _
      exact retI X8 hx Bd.returns (hb hby d18_85) hr
    · show Q_rmCt2_2 Z a1 p3 oR ckR kckR kkR saR kstR enR kenR x0 x1 e_0 e_1 h0 n0 _ T8.heap _
      rw [e8]
      exact ⟨(by (try simp only [lw_gt, lw_lt, lw_eq] at hs1); simp [own_ct, hs1]), N0, rfl⟩
theorem ef_rmApp0_0 (m : MethodId) (x0 : Addr) (x1 : Int32) (x2 : Int32) (x3 : Addr) : entryFrame m #[(.ref x0), (.int x1), (.int x2), (.ref x3)] 6 = mkF m 0 #[rv x0, iv x1, iv x2, rv x3, .unset, .unset] [] := by first | (simp [entryFrame, mkF, argsToLocals, Value.category]; done) | rfl
def Q_rmApp0_0 (Z : State) (oR : Addr) (p2 : Int32) (p3 : Int32) (x1 : Addr) (ckR : Addr) (kckR : ClassId) (kkR : Addr) (fiR : Addr) (kfiR : ClassId) (saR : Addr) (kstR : ClassId) (enR : Addr) (kenR : ClassId) (itR : Addr) (kitR : ClassId) (fx : Int32) (h0 : Heap) (n0 : Nat) (v : Option Value) (h : Heap) (L : List Loc) : Prop := v = some (.int (1 : Int32)) ∧ Fr n0 L ∧ Keep h0 h [saR, enR, itR, kkR, fiR] ∧ (Fld Z h kkR sN1 "size" "I" (.int (1 : Int32))) ∧ (Fld Z h kkR sN1 "starts" "[I" (.ref saR)) ∧ (Arv Z h fiR kfiR .int (1 : Int32) [(.int p2)] (.int (0 : Int32))) ∧ (Arv Z h saR kstR .int (256 : Int32) [(.int p2), (.int (0 : Int32)), (.int (0 : Int32))] (.int (0 : Int32))) ∧ (Fld Z h kkR sN1 "ends" "[I" (.ref enR)) ∧ (Fld Z h kkR sN1 "items" "[Ljava/lang/Object;" (.ref itR)) ∧ (Arv Z h enR kenR .int (256 : Int32) [(.int p3), (.int (0 : Int32)), (.int (0 : Int32))] (.int (0 : Int32))) ∧ (Arv Z h itR kitR (.object "java/lang/Object") (256 : Int32) [(.ref x1), .null, .null] .null)
set_option maxRecDepth 65536 in
set_option maxHeartbeats 40000000 in
theorem rmApp0_0 (l : Launch) (Z : State) (a0 : Array Value) (hw : ∀ d ∈ tables_1, d.before a0 Z = true) (ws : List Jvm.Cond) (oR : Addr) (p2 : Int32) (p3 : Int32) (x1 : Addr) (ckR : Addr) (kckR : ClassId) (kkR : Addr) (fiR : Addr) (kfiR : ClassId) (saR : Addr) (kstR : ClassId) (enR : Addr) (kenR : ClassId) (itR : Addr) (kitR : ClassId) (fx : Int32) (h0 : Heap) (n0 : Nat) (Z0 : n0 ≤ h0.size) (E_oR : Exa Z h0 oR sN0) (F_chunks_oR : Fld Z h0 oR sN0 "chunks" sN3 (.ref ckR)) (F_chunkCount_oR : Fld Z h0 oR sN0 "chunkCount" "I" (.int (1 : Int32))) (F_firsts_oR : Fld Z h0 oR sN0 "firsts" "[I" (.ref fiR)) (F_withItems_oR : Fld Z h0 oR sN0 "withItems" "Z" (.int (1 : Int32))) (A_ckR : Arv Z h0 ckR kckR (.object sN1) (1 : Int32) [(.ref kkR)] .null) (E_kkR : Exa Z h0 kkR sN1) (F_size_kkR : Fld Z h0 kkR sN1 "size" "I" (.int (0 : Int32))) (F_starts_kkR : Fld Z h0 kkR sN1 "starts" "[I" (.ref saR)) (A_fiR : Arv Z h0 fiR kfiR .int (1 : Int32) [(.int fx)] (.int (0 : Int32))) (A_saR : Arv Z h0 saR kstR .int (256 : Int32) [(.int (0 : Int32)), (.int (0 : Int32)), (.int (0 : Int32))] (.int (0 : Int32))) (F_ends_kkR : Fld Z h0 kkR sN1 "ends" "[I" (.ref enR)) (F_items_kkR : Fld Z h0 kkR sN1 "items" "[Ljava/lang/Object;" (.ref itR)) (A_enR : Arv Z h0 enR kenR .int (256 : Int32) [(.int (0 : Int32)), (.int (0 : Int32)), (.int (0 : Int32))] (.int (0 : Int32))) (A_itR : Arv Z h0 itR kitR (.object "java/lang/Object") (256 : Int32) [.null, .null, .null] .null) (E_x1 : Exa Z h0 x1 "java/lang/Integer") (g_fiR : n0 ≤ fiR) (g_ckR : n0 ≤ ckR) (g_saR : n0 ≤ saR) (g_enR : n0 ≤ enR) (g_itR : n0 ≤ itR) (g_kkR : n0 ≤ kkR) (ne_fiR_ckR : fiR ≠ ckR) (ne_fiR_saR : fiR ≠ saR) (ne_fiR_enR : fiR ≠ enR) (ne_fiR_itR : fiR ≠ itR) (ne_ckR_saR : ckR ≠ saR) (ne_ckR_enR : ckR ≠ enR) (ne_ckR_itR : ckR ≠ itR) (ne_saR_enR : saR ≠ enR) (ne_saR_itR : saR ≠ itR) (ne_enR_itR : enR ≠ itR) (ovr_itR : Ovr Z kitR "java/lang/Object") :
    own_M l (⟨sN0, "append", sN6⟩ : MethodName) (Jvm.Cond.code (⟨sN0, "append", sN6⟩ : MethodName) prog_118_method_5_code 6 (some .boolean) :: ws) ({ frames := 0, cells := 0, slots := 0, locals := 0 } : Room) #[(.ref oR), (.int p2), (.int p3), (.ref x1)] Z h0 (Q_rmApp0_0 Z oR p2 p3 x1 ckR kckR kkR fiR kfiR saR kstR enR kenR itR kitR fx h0 n0) := by
  refine MetFree.of_bodySF (plainFor_of_name pn_1) hisR ?_
  intro p e s m args below meth c s₁ Bd hml0 hP hK
  obtain ⟨rfl, hZ, hh⟩ := hP
  have hx := Bd.exec
  have hby := Bd.bytes
  have hml : c.maxLocals = 6 := hml0
  have hown : s.vm.findClass sN0 = some m.cls := findClass_of_methodNamed Bd.named
  have hnm := (name_of_methodNamed Bd.named Bd.method).1
  have X0 : Stand p l e ({ frames := 0, cells := 0, slots := 0, locals := 0 } : Room) s m #[(.ref oR), (.int p2), (.int p3), (.ref x1)] below meth c s₁ [] 0 0 := Stand.of_body Bd
  have hU : ∀ (i : Nat) (d : Jvm.Cond), tables_1[i]? = some d → d.before a0 Z = true := fun i d h => hw d (List.mem_of_getElem? h)
  have e0 : s₁.heap = h0 := by rw [← hh, Bd.state]; rfl
  have N0 := Fr.nil n0
  obtain ⟨f0, hf0⟩ : ∃ f : JFrame, f = mkF m 0 #[rv oR, iv p2, iv p3, rv x1, .unset, .unset] [] := ⟨_, rfl⟩
  have pre0 : ∀ t, own_S p e below s₁ f0 t → Steps p.tables e below (s₁.setTop (entryFrame m #[(.ref oR), (.int p2), (.int p3), (.ref x1)] 6)) t := fun t k => castTop ((ef_rmApp0_0 m oR p2 p3 x1).trans hf0.symm) k
  have R0 : ∀ t, own_S p e below s₁ (mkF m 0 #[rv oR, iv p2, iv p3, rv x1, .unset, .unset] []) t → own_S p e below s₁ f0 t := by rw [hf0]; exact fun t k => k
  have R1 : ∀ t, own_S p e below s₁ (mkF m 1 #[rv oR, iv p2, iv p3, rv x1, .unset, .unset] [(.ref oR)]) t → own_S p e below s₁ f0 t := fun t k => R0 t (by
    refine XS.aloadN X0.here hx rfl (hb hby d10_0) rfl rfl ?_
    exact k)
  obtain ⟨T2, X2, e2, st2⟩ := getF X0 hx hZ hown (host := "") (Or.inl (hU 43 _ rfl)) Via.refl e0 F_chunks_oR (g := (mkF m 1 #[rv oR, iv p2, iv p3, rv x1, .unset, .unset] [(.ref oR)])) rfl rfl (hb hby d10_1)
  have R3 := fun t k => R1 t (st2 t k)
  have R4 : ∀ t, own_S p e below T2 (mkF m 5 #[rv oR, iv p2, iv p3, rv x1, .unset, .unset] [(.ref oR), (.ref ckR)]) t → own_S p e below s₁ f0 t := fun t k => R3 t (by
    refine XS.aloadN X2.here hx rfl (hb hby d10_4) rfl rfl ?_
    exact k)
  obtain ⟨T5, X5, e5, st5⟩ := getF X2 hx hZ hown (host := "") (Or.inl (hU 22 _ rfl)) Via.refl e2 F_chunkCount_oR (g := (mkF m 5 #[rv oR, iv p2, iv p3, rv x1, .unset, .unset] [(.ref oR), (.ref ckR)])) rfl rfl (hb hby d10_5)
  have R6 := fun t k => R4 t (st5 t k)
  have R7 : ∀ t, own_S p e below T5 (mkF m 10 #[rv oR, iv p2, iv p3, rv x1, .unset, .unset] [(.int (0 : Int32)), (.ref ckR)]) t → own_S p e below s₁ f0 t := fun t k => R6 t (by
    refine XS.iconst X5.here hx rfl (hb hby d10_8) ?_
    refine XS.isub X5.here hx rfl (hb hby d10_9) rfl ?_
    exact k)
  obtain ⟨cl8, Ar8, q8, S8, n8_, H8, G8⟩ := id A_ckR
  have hin8 : ¬ ((0 : Int32) < 0 ∨ cl8.slots.size ≤ ((0 : Int32)).toNatClampNeg) := inb_of S8 ⟨by decide, by decide⟩
  have hat8 : cl8.slots[((0 : Int32)).toNatClampNeg]? = some (.ref kkR) := Has.at H8 hin8 rfl
  have R9 : ∀ t, own_S p e below T5 (mkF m 11 #[rv oR, iv p2, iv p3, rv x1, .unset, .unset] [(.ref kkR)]) t → own_S p e below s₁ f0 t := fun t k => R7 t (X5.aaload hx (j := (0 : Int32)) (v := (.ref kkR)) (by rw [e5]; exact Ar8.1) (State.isArrayOf_alike hZ.alike Ar8.2.1) rfl Ar8.2.2 hin8 hat8 (g := (mkF m 10 #[rv oR, iv p2, iv p3, rv x1, .unset, .unset] [(.int (0 : Int32)), (.ref ckR)])) rfl rfl (hb hby d10_10) _ k)
  have R10 : ∀ t, own_S p e below T5 (mkF m 15 #[rv oR, iv p2, iv p3, rv x1, rv kkR, .unset] [(.ref kkR)]) t → own_S p e below s₁ f0 t := fun t k => R9 t (by
    refine XS.astore X5.here hx rfl (hb hby d10_11) rfl rfl (l' := #[rv oR, iv p2, iv p3, rv x1, rv kkR, .unset]) rfl ?_
    refine XS.aload X5.here hx rfl (hb hby d10_13) rfl rfl ?_
    exact k)
  obtain ⟨T11, X11, e11, st11⟩ := getF X5 hx hZ hown (Or.inr (hU 66 _ rfl)) Via.refl e5 F_size_kkR (g := (mkF m 15 #[rv oR, iv p2, iv p3, rv x1, rv kkR, .unset] [(.ref kkR)])) rfl rfl (hb hby d10_15)
  have R12 := fun t k => R10 t (st11 t k)
  have R13 : ∀ t, own_S p e below T11 (mkF m 64 #[rv oR, iv p2, iv p3, rv x1, rv kkR, iv (0 : Int32)] [(.ref kkR)]) t → own_S p e below s₁ f0 t := fun t k => R12 t (by
    refine XS.istore X11.here hx rfl (hb hby d10_18) rfl (l' := #[rv oR, iv p2, iv p3, rv x1, rv kkR, iv (0 : Int32)]) rfl ?_
    refine XS.iload X11.here hx rfl (hb hby d10_20) rfl  ?_
    refine XS.ifYes X11.here hx rfl (pc0 := 22) (pc' := 41) rfl (hb hby d10_22) rfl ((if0 _ _).trans (flt (by decide : ¬ ((0 : Int32) < (0 : Int32)))).2.2.2) (by decide) (by decide) ?_
    refine XS.iload X11.here hx rfl (hb hby d10_41) rfl  ?_
    refine XS.sipush X11.here hx rfl (hb hby d10_43) ?_
    refine XS.icmpYes X11.here hx rfl (pc0 := 46) (pc' := 62) rfl (hb hby d10_46) rfl (feq (by decide : ¬ ((0 : Int32) = (256 : Int32)))).2 (by decide) (by decide) ?_
    show own_S p e below T11 (mkF m 62 #[rv oR, iv p2, iv p3, rv x1, rv kkR, iv (0 : Int32)] []) _
    refine XS.aload X11.here hx rfl (hb hby d10_62) rfl rfl ?_
    exact k)
  obtain ⟨T14, X14, e14, st14⟩ := getF X11 hx hZ hown (Or.inr (hU 83 _ rfl)) Via.refl e11 F_starts_kkR (g := (mkF m 64 #[rv oR, iv p2, iv p3, rv x1, rv kkR, iv (0 : Int32)] [(.ref kkR)])) rfl rfl (hb hby d10_64)
  have R15 := fun t k => R13 t (st14 t k)
  have R16 : ∀ t, own_S p e below T14 (mkF m 70 #[rv oR, iv p2, iv p3, rv x1, rv kkR, iv (0 : Int32)] [(.int p2), (.int (0 : Int32)), (.ref saR)]) t → own_S p e below s₁ f0 t := fun t k => R15 t (by
    refine XS.iload X14.here hx rfl (hb hby d10_67) rfl  ?_
    refine XS.iloadN X14.here hx rfl (hb hby d10_69) rfl  ?_
    exact k)
  obtain ⟨cl17, Ar17, q17, S17, n17_, H17, G17⟩ := id A_saR
  have hin17 : ¬ ((0 : Int32) < 0 ∨ cl17.slots.size ≤ ((0 : Int32)).toNatClampNeg) := inb_of S17 ⟨by decide, by decide⟩
  obtain ⟨T17, h17, X17, e17, W17, st17⟩ := stI X14 hx hZ e14 Ar17 (j := (0 : Int32)) hin17 (g := (mkF m 70 #[rv oR, iv p2, iv p3, rv x1, rv kkR, iv (0 : Int32)] [(.int p2), (.int (0 : Int32)), (.ref saR)])) rfl rfl (hb hby d10_70)
  have f17_E_oR := E_oR.wr W17
  have f17_F_chunks_oR := F_chunks_oR.other W17 (Or.inl (Exa.neArv E_oR A_saR (hU 13 _ rfl)))
  have f17_F_chunkCount_oR := F_chunkCount_oR.other W17 (Or.inl (Exa.neArv E_oR A_saR (hU 13 _ rfl)))
  have f17_F_firsts_oR := F_firsts_oR.other W17 (Or.inl (Exa.neArv E_oR A_saR (hU 13 _ rfl)))
  have f17_F_withItems_oR := F_withItems_oR.other W17 (Or.inl (Exa.neArv E_oR A_saR (hU 13 _ rfl)))
  have f17_A_ckR := A_ckR.other W17 ne_ckR_saR
  have f17_E_kkR := E_kkR.wr W17
  have f17_F_size_kkR := F_size_kkR.other W17 (Or.inl (Exa.neArv E_kkR A_saR (hU 28 _ rfl)))
  have f17_F_starts_kkR := F_starts_kkR.other W17 (Or.inl (Exa.neArv E_kkR A_saR (hU 28 _ rfl)))
  have f17_A_fiR := A_fiR.other W17 ne_fiR_saR
  have f17_F_ends_kkR := F_ends_kkR.other W17 (Or.inl (Exa.neArv E_kkR A_saR (hU 28 _ rfl)))
  have f17_F_items_kkR := F_items_kkR.other W17 (Or.inl (Exa.neArv E_kkR A_saR (hU 28 _ rfl)))
  have f17_A_enR := A_enR.other W17 (Ne.symm ne_saR_enR)
  have f17_A_itR := A_itR.other W17 (Ne.symm ne_saR_itR)
  have f17_E_x1 := E_x1.wr W17
  have z17 : n0 ≤ h17.size := by rw [W17.size]; exact Z0
  have K17 : Keep h0 h17 [saR, enR, itR, kkR, fiR] := (Keep.refl h0 [saR, enR, itR, kkR, fiR]).wr W17 (Or.inl (List.mem_of_getElem? (i := 0) rfl))
  have v17 : Arv Z h17 saR kstR .int (256 : Int32) [(.int p2), (.int (0 : Int32)), (.int (0 : Int32))] (.int (0 : Int32)) := Arv.set Ar17 q17 S17 n17_ H17 G17 rfl W17 0 rfl (Nat.le_of_ble_eq_true rfl)
  have N17 := Fr.snoc X17 N0 g_saR
  have R18 := fun t k => R16 t (st17 t k)
  have R19 : ∀ t, own_S p e below T17 (mkF m 72 #[rv oR, iv p2, iv p3, rv x1, rv kkR, iv (0 : Int32)] [(.ref oR)]) t → own_S p e below s₁ f0 t := fun t k => R18 t (by
    refine XS.aloadN X17.here hx rfl (hb hby d10_71) rfl rfl ?_
    exact k)
  obtain ⟨T20, X20, e20, st20⟩ := getF X17 hx hZ hown (host := "") (Or.inl (hU 24 _ rfl)) Via.refl e17 f17_F_withItems_oR (g := (mkF m 72 #[rv oR, iv p2, iv p3, rv x1, rv kkR, iv (0 : Int32)] [(.ref oR)])) rfl rfl (hb hby d10_72)
  have R21 := fun t k => R19 t (st20 t k)
  have R22 : ∀ t, own_S p e below T20 (mkF m 80 #[rv oR, iv p2, iv p3, rv x1, rv kkR, iv (0 : Int32)] [(.ref kkR)]) t → own_S p e below s₁ f0 t := fun t k => R21 t (by
    refine XS.ifNo X20.here hx rfl (hb hby d10_75) rfl ((if0 _ _).trans (feq (by decide : ¬ ((1 : Int32) = (0 : Int32)))).1) ?_
    refine XS.aload X20.here hx rfl (hb hby d10_78) rfl rfl ?_
    exact k)
  obtain ⟨T23, X23, e23, st23⟩ := getF X20 hx hZ hown (Or.inr (hU 84 _ rfl)) Via.refl e20 f17_F_ends_kkR (g := (mkF m 80 #[rv oR, iv p2, iv p3, rv x1, rv kkR, iv (0 : Int32)] [(.ref kkR)])) rfl rfl (hb hby d10_80)
  have R24 := fun t k => R22 t (st23 t k)
  have R25 : ∀ t, own_S p e below T23 (mkF m 86 #[rv oR, iv p2, iv p3, rv x1, rv kkR, iv (0 : Int32)] [(.int p3), (.int (0 : Int32)), (.ref enR)]) t → own_S p e below s₁ f0 t := fun t k => R24 t (by
    refine XS.iload X23.here hx rfl (hb hby d10_83) rfl  ?_
    refine XS.iloadN X23.here hx rfl (hb hby d10_85) rfl  ?_
    exact k)
  obtain ⟨cl26, Ar26, q26, S26, n26_, H26, G26⟩ := id f17_A_enR
  have hin26 : ¬ ((0 : Int32) < 0 ∨ cl26.slots.size ≤ ((0 : Int32)).toNatClampNeg) := inb_of S26 ⟨by decide, by decide⟩
  obtain ⟨T26, h26, X26, e26, W26, st26⟩ := stI X23 hx hZ e23 Ar26 (j := (0 : Int32)) hin26 (g := (mkF m 86 #[rv oR, iv p2, iv p3, rv x1, rv kkR, iv (0 : Int32)] [(.int p3), (.int (0 : Int32)), (.ref enR)])) rfl rfl (hb hby d10_86)
  have f26_E_oR := f17_E_oR.wr W26
  have f26_F_chunks_oR := f17_F_chunks_oR.other W26 (Or.inl (Exa.neArv f17_E_oR f17_A_enR (hU 13 _ rfl)))
  have f26_F_chunkCount_oR := f17_F_chunkCount_oR.other W26 (Or.inl (Exa.neArv f17_E_oR f17_A_enR (hU 13 _ rfl)))
  have f26_F_firsts_oR := f17_F_firsts_oR.other W26 (Or.inl (Exa.neArv f17_E_oR f17_A_enR (hU 13 _ rfl)))
  have f26_F_withItems_oR := f17_F_withItems_oR.other W26 (Or.inl (Exa.neArv f17_E_oR f17_A_enR (hU 13 _ rfl)))
  have f26_A_ckR := f17_A_ckR.other W26 ne_ckR_enR
  have f26_E_kkR := f17_E_kkR.wr W26
  have f26_F_size_kkR := f17_F_size_kkR.other W26 (Or.inl (Exa.neArv f17_E_kkR f17_A_enR (hU 28 _ rfl)))
  have f26_F_starts_kkR := f17_F_starts_kkR.other W26 (Or.inl (Exa.neArv f17_E_kkR f17_A_enR (hU 28 _ rfl)))
  have f26_A_fiR := f17_A_fiR.other W26 ne_fiR_enR
  have f26_A_saR := v17.other W26 ne_saR_enR
  have f26_F_ends_kkR := f17_F_ends_kkR.other W26 (Or.inl (Exa.neArv f17_E_kkR f17_A_enR (hU 28 _ rfl)))
  have f26_F_items_kkR := f17_F_items_kkR.other W26 (Or.inl (Exa.neArv f17_E_kkR f17_A_enR (hU 28 _ rfl)))
  have f26_A_itR := f17_A_itR.other W26 (Ne.symm ne_enR_itR)
  have f26_E_x1 := f17_E_x1.wr W26
  have z26 : n0 ≤ h26.size := by rw [W26.size]; exact z17
  have K26 : Keep h0 h26 [saR, enR, itR, kkR, fiR] := K17.wr W26 (Or.inl (List.mem_of_getElem? (i := 1) rfl))
  have v26 : Arv Z h26 enR kenR .int (256 : Int32) [(.int p3), (.int (0 : Int32)), (.int (0 : Int32))] (.int (0 : Int32)) := Arv.set Ar26 q26 S26 n26_ H26 G26 rfl W26 0 rfl (Nat.le_of_ble_eq_true rfl)
  have N26 := Fr.snoc X26 N17 g_enR
  have R27 := fun t k => R25 t (st26 t k)
  have R28 : ∀ t, own_S p e below T26 (mkF m 89 #[rv oR, iv p2, iv p3, rv x1, rv kkR, iv (0 : Int32)] [(.ref kkR)]) t → own_S p e below s₁ f0 t := fun t k => R27 t (by
    refine XS.aload X26.here hx rfl (hb hby d10_87) rfl rfl ?_
    exact k)
  obtain ⟨T29, X29, e29, st29⟩ := getF X26 hx hZ hown (Or.inr (hU 85 _ rfl)) Via.refl e26 f26_F_items_kkR (g := (mkF m 89 #[rv oR, iv p2, iv p3, rv x1, rv kkR, iv (0 : Int32)] [(.ref kkR)])) rfl rfl (hb hby d10_89)
  have R30 := fun t k => R28 t (st29 t k)
  have R31 : ∀ t, own_S p e below T29 (mkF m 95 #[rv oR, iv p2, iv p3, rv x1, rv kkR, iv (0 : Int32)] [(.ref x1), (.int (0 : Int32)), (.ref itR)]) t → own_S p e below s₁ f0 t := fun t k => R30 t (by
    refine XS.iload X29.here hx rfl (hb hby d10_92) rfl  ?_
    refine XS.aloadN X29.here hx rfl (hb hby d10_94) rfl rfl ?_
    exact k)
  obtain ⟨cl32, Ar32, q32, S32, n32_, H32, G32⟩ := id f26_A_itR
  have hin32 : ¬ ((0 : Int32) < 0 ∨ cl32.slots.size ≤ ((0 : Int32)).toNatClampNeg) := inb_of S32 ⟨by decide, by decide⟩
  obtain ⟨T32, h32, X32, e32, W32, st32⟩ := stR X29 hx hZ e29 Ar32 (j := (0 : Int32)) hin32 rfl (Sto.ofV Ar32 q32 ovr_itR (Ins.of_exa f26_E_x1 (hU 86 _ rfl))) (g := (mkF m 95 #[rv oR, iv p2, iv p3, rv x1, rv kkR, iv (0 : Int32)] [(.ref x1), (.int (0 : Int32)), (.ref itR)])) rfl rfl (hb hby d10_95)
  have f32_E_oR := f26_E_oR.wr W32
  have f32_F_chunks_oR := f26_F_chunks_oR.other W32 (Or.inl (Exa.neArv f26_E_oR f26_A_itR (hU 13 _ rfl)))
  have f32_F_chunkCount_oR := f26_F_chunkCount_oR.other W32 (Or.inl (Exa.neArv f26_E_oR f26_A_itR (hU 13 _ rfl)))
  have f32_F_firsts_oR := f26_F_firsts_oR.other W32 (Or.inl (Exa.neArv f26_E_oR f26_A_itR (hU 13 _ rfl)))
  have f32_F_withItems_oR := f26_F_withItems_oR.other W32 (Or.inl (Exa.neArv f26_E_oR f26_A_itR (hU 13 _ rfl)))
  have f32_A_ckR := f26_A_ckR.other W32 ne_ckR_itR
  have f32_E_kkR := f26_E_kkR.wr W32
  have f32_F_size_kkR := f26_F_size_kkR.other W32 (Or.inl (Exa.neArv f26_E_kkR f26_A_itR (hU 28 _ rfl)))
  have f32_F_starts_kkR := f26_F_starts_kkR.other W32 (Or.inl (Exa.neArv f26_E_kkR f26_A_itR (hU 28 _ rfl)))
  have f32_A_fiR := f26_A_fiR.other W32 ne_fiR_itR
  have f32_A_saR := f26_A_saR.other W32 ne_saR_itR
  have f32_F_ends_kkR := f26_F_ends_kkR.other W32 (Or.inl (Exa.neArv f26_E_kkR f26_A_itR (hU 28 _ rfl)))
  have f32_F_items_kkR := f26_F_items_kkR.other W32 (Or.inl (Exa.neArv f26_E_kkR f26_A_itR (hU 28 _ rfl)))
  have f32_A_enR := v26.other W32 ne_enR_itR
  have f32_E_x1 := f26_E_x1.wr W32
  have z32 : n0 ≤ h32.size := by rw [W32.size]; exact z26
  have K32 : Keep h0 h32 [saR, enR, itR, kkR, fiR] := K26.wr W32 (Or.inl (List.mem_of_getElem? (i := 2) rfl))
  have v32 : Arv Z h32 itR kitR (.object "java/lang/Object") (256 : Int32) [(.ref x1), .null, .null] .null := Arv.set Ar32 q32 S32 n32_ H32 G32 rfl W32 0 rfl (Nat.le_of_ble_eq_true rfl)
  have N32 := Fr.snoc X32 N26 g_itR
  have R33 := fun t k => R31 t (st32 t k)
  have R34 : ∀ t, own_S p e below T32 (mkF m 102 #[rv oR, iv p2, iv p3, rv x1, rv kkR, iv (0 : Int32)] [(.int (1 : Int32)), (.ref kkR)]) t → own_S p e below s₁ f0 t := fun t k => R33 t (by
    refine XS.aload X32.here hx rfl (hb hby d10_96) rfl rfl ?_
    refine XS.iload X32.here hx rfl (hb hby d10_98) rfl  ?_
    refine XS.iconst X32.here hx rfl (hb hby d10_100) ?_
    refine XS.iadd X32.here hx rfl (hb hby d10_101) rfl ?_
    exact k)
  obtain ⟨T35, h35, X35, e35, W35, st35⟩ := putF X32 hx hZ hown (Or.inr (hU 66 _ rfl)) Via.refl e32 f32_F_size_kkR f32_E_kkR (Or.inl (hU 67 _ rfl)) (hU 28 _ rfl) (ty := .int) (by decide) rfl rfl (g := (mkF m 102 #[rv oR, iv p2, iv p3, rv x1, rv kkR, iv (0 : Int32)] [(.int (1 : Int32)), (.ref kkR)])) rfl rfl (hb hby d10_102)
  have fw35 : Fld Z h35 kkR sN1 "size" "I" (.int (1 : Int32)) := f32_F_size_kkR.same W35
  have f35_E_oR := f32_E_oR.wr W35
  have f35_F_chunks_oR := f32_F_chunks_oR.other W35 (Or.inl (Exa.ne f32_E_oR f32_E_kkR (by decide)))
  have f35_F_chunkCount_oR := f32_F_chunkCount_oR.other W35 (Or.inl (Exa.ne f32_E_oR f32_E_kkR (by decide)))
  have f35_F_firsts_oR := f32_F_firsts_oR.other W35 (Or.inl (Exa.ne f32_E_oR f32_E_kkR (by decide)))
  have f35_F_withItems_oR := f32_F_withItems_oR.other W35 (Or.inl (Exa.ne f32_E_oR f32_E_kkR (by decide)))
  have f35_A_ckR := f32_A_ckR.other W35 (Ne.symm (Exa.neArv f32_E_kkR f32_A_ckR (hU 28 _ rfl)))
  have f35_E_kkR := f32_E_kkR.wr W35
  have f35_F_starts_kkR := f32_F_starts_kkR.other W35 (Or.inr (slot_ne (Or.inr (hU 35 _ rfl)) (Or.inl (hU 67 _ rfl)) (by decide) (t := (.array .int)) (t' := .int) (by decide) (by decide)))
  have f35_A_fiR := f32_A_fiR.other W35 (Ne.symm (Exa.neArv f32_E_kkR f32_A_fiR (hU 28 _ rfl)))
  have f35_A_saR := f32_A_saR.other W35 (Ne.symm (Exa.neArv f32_E_kkR f32_A_saR (hU 28 _ rfl)))
  have f35_F_ends_kkR := f32_F_ends_kkR.other W35 (Or.inr (slot_ne (Or.inr (hU 37 _ rfl)) (Or.inl (hU 67 _ rfl)) (by decide) (t := (.array .int)) (t' := .int) (by decide) (by decide)))
  have f35_F_items_kkR := f32_F_items_kkR.other W35 (Or.inr (slot_ne (Or.inr (hU 41 _ rfl)) (Or.inl (hU 67 _ rfl)) (by decide) (t := (.array (.object "java/lang/Object"))) (t' := .int) (by decide) (by decide)))
  have f35_A_enR := f32_A_enR.other W35 (Ne.symm (Exa.neArv f32_E_kkR f32_A_enR (hU 28 _ rfl)))
  have f35_A_itR := v32.other W35 (Ne.symm (Exa.neArv f32_E_kkR v32 (hU 28 _ rfl)))
  have f35_E_x1 := f32_E_x1.wr W35
  have z35 : n0 ≤ h35.size := by rw [W35.size]; exact z32
  have K35 : Keep h0 h35 [saR, enR, itR, kkR, fiR] := K32.wr W35 (Or.inl (List.mem_of_getElem? (i := 3) rfl))
  have N35 := Fr.snoc X35 N32 g_kkR
  have R36 := fun t k => R34 t (st35 t k)
  have R37 : ∀ t, own_S p e below T35 (mkF m 106 #[rv oR, iv p2, iv p3, rv x1, rv kkR, iv (0 : Int32)] [(.ref oR)]) t → own_S p e below s₁ f0 t := fun t k => R36 t (by
    refine XS.aloadN X35.here hx rfl (hb hby d10_105) rfl rfl ?_
    exact k)
  obtain ⟨T38, X38, e38, st38⟩ := getF X35 hx hZ hown (host := "") (Or.inl (hU 20 _ rfl)) Via.refl e35 f35_F_firsts_oR (g := (mkF m 106 #[rv oR, iv p2, iv p3, rv x1, rv kkR, iv (0 : Int32)] [(.ref oR)])) rfl rfl (hb hby d10_106)
  have R39 := fun t k => R37 t (st38 t k)
  have R40 : ∀ t, own_S p e below T38 (mkF m 110 #[rv oR, iv p2, iv p3, rv x1, rv kkR, iv (0 : Int32)] [(.ref oR), (.ref fiR)]) t → own_S p e below s₁ f0 t := fun t k => R39 t (by
    refine XS.aloadN X38.here hx rfl (hb hby d10_109) rfl rfl ?_
    exact k)
  obtain ⟨T41, X41, e41, st41⟩ := getF X38 hx hZ hown (host := "") (Or.inl (hU 22 _ rfl)) Via.refl e38 f35_F_chunkCount_oR (g := (mkF m 110 #[rv oR, iv p2, iv p3, rv x1, rv kkR, iv (0 : Int32)] [(.ref oR), (.ref fiR)])) rfl rfl (hb hby d10_110)
  have R42 := fun t k => R40 t (st41 t k)
  have R43 : ∀ t, own_S p e below T41 (mkF m 117 #[rv oR, iv p2, iv p3, rv x1, rv kkR, iv (0 : Int32)] [(.ref kkR), (.int (0 : Int32)), (.ref fiR)]) t → own_S p e below s₁ f0 t := fun t k => R42 t (by
    refine XS.iconst X41.here hx rfl (hb hby d10_113) ?_
    refine XS.isub X41.here hx rfl (hb hby d10_114) rfl ?_
    refine XS.aload X41.here hx rfl (hb hby d10_115) rfl rfl ?_
    exact k)
  obtain ⟨T44, X44, e44, st44⟩ := getF X41 hx hZ hown (Or.inr (hU 83 _ rfl)) Via.refl e41 f35_F_starts_kkR (g := (mkF m 117 #[rv oR, iv p2, iv p3, rv x1, rv kkR, iv (0 : Int32)] [(.ref kkR), (.int (0 : Int32)), (.ref fiR)])) rfl rfl (hb hby d10_117)
  have R45 := fun t k => R43 t (st44 t k)
  have R46 : ∀ t, own_S p e below T44 (mkF m 121 #[rv oR, iv p2, iv p3, rv x1, rv kkR, iv (0 : Int32)] [(.int (0 : Int32)), (.ref saR), (.int (0 : Int32)), (.ref fiR)]) t → own_S p e below s₁ f0 t := fun t k => R45 t (by
    refine XS.iconst X44.here hx rfl (hb hby d10_120) ?_
    exact k)
  obtain ⟨cl47, Ar47, q47, S47, n47_, H47, G47⟩ := id f35_A_saR
  have hin47 : ¬ ((0 : Int32) < 0 ∨ cl47.slots.size ≤ ((0 : Int32)).toNatClampNeg) := inb_of S47 ⟨by decide, by decide⟩
  have hat47 : cl47.slots[((0 : Int32)).toNatClampNeg]? = some (.int p2) := Has.at H47 hin47 rfl
  have R48 : ∀ t, own_S p e below T44 (mkF m 122 #[rv oR, iv p2, iv p3, rv x1, rv kkR, iv (0 : Int32)] [(.int p2), (.int (0 : Int32)), (.ref fiR)]) t → own_S p e below s₁ f0 t := fun t k => R46 t (X44.iaload hx (j := (0 : Int32)) (v := (.int p2)) (by rw [e44]; exact Ar47.1) (State.isArrayOf_alike hZ.alike Ar47.2.1) Ar47.2.2 hin47 hat47 (g := (mkF m 121 #[rv oR, iv p2, iv p3, rv x1, rv kkR, iv (0 : Int32)] [(.int (0 : Int32)), (.ref saR), (.int (0 : Int32)), (.ref fiR)])) rfl rfl (hb hby d10_121) _ k)
  obtain ⟨cl49, Ar49, q49, S49, n49_, H49, G49⟩ := id f35_A_fiR
  have hin49 : ¬ ((0 : Int32) < 0 ∨ cl49.slots.size ≤ ((0 : Int32)).toNatClampNeg) := inb_of S49 ⟨by decide, by decide⟩
  obtain ⟨T49, h49, X49, e49, W49, st49⟩ := stI X44 hx hZ e44 Ar49 (j := (0 : Int32)) hin49 (g := (mkF m 122 #[rv oR, iv p2, iv p3, rv x1, rv kkR, iv (0 : Int32)] [(.int p2), (.int (0 : Int32)), (.ref fiR)])) rfl rfl (hb hby d10_122)
  have f49_E_oR := f35_E_oR.wr W49
  have f49_F_chunks_oR := f35_F_chunks_oR.other W49 (Or.inl (Exa.neArv f35_E_oR f35_A_fiR (hU 13 _ rfl)))
  have f49_F_chunkCount_oR := f35_F_chunkCount_oR.other W49 (Or.inl (Exa.neArv f35_E_oR f35_A_fiR (hU 13 _ rfl)))
  have f49_F_firsts_oR := f35_F_firsts_oR.other W49 (Or.inl (Exa.neArv f35_E_oR f35_A_fiR (hU 13 _ rfl)))
  have f49_F_withItems_oR := f35_F_withItems_oR.other W49 (Or.inl (Exa.neArv f35_E_oR f35_A_fiR (hU 13 _ rfl)))
  have f49_A_ckR := f35_A_ckR.other W49 (Ne.symm ne_fiR_ckR)
  have f49_E_kkR := f35_E_kkR.wr W49
  have f49_F_size_kkR := fw35.other W49 (Or.inl (Exa.neArv f35_E_kkR f35_A_fiR (hU 28 _ rfl)))
  have f49_F_starts_kkR := f35_F_starts_kkR.other W49 (Or.inl (Exa.neArv f35_E_kkR f35_A_fiR (hU 28 _ rfl)))
  have f49_A_saR := f35_A_saR.other W49 (Ne.symm ne_fiR_saR)
  have f49_F_ends_kkR := f35_F_ends_kkR.other W49 (Or.inl (Exa.neArv f35_E_kkR f35_A_fiR (hU 28 _ rfl)))
  have f49_F_items_kkR := f35_F_items_kkR.other W49 (Or.inl (Exa.neArv f35_E_kkR f35_A_fiR (hU 28 _ rfl)))
  have f49_A_enR := f35_A_enR.other W49 (Ne.symm ne_fiR_enR)
  have f49_A_itR := f35_A_itR.other W49 (Ne.symm ne_fiR_itR)
  have f49_E_x1 := f35_E_x1.wr W49
  have z49 : n0 ≤ h49.size := by rw [W49.size]; exact z35
  have K49 : Keep h0 h49 [saR, enR, itR, kkR, fiR] := K35.wr W49 (Or.inl (List.mem_of_getElem? (i := 4) rfl))
  have v49 : Arv Z h49 fiR kfiR .int (1 : Int32) [(.int p2)] (.int (0 : Int32)) := Arv.set Ar49 q49 S49 n49_ H49 G49 rfl W49 0 rfl (Nat.le_of_ble_eq_true rfl)
  have N49 := Fr.snoc X49 N35 g_fiR
  have R50 := fun t k => R48 t (st49 t k)
  have R51 : ∀ t, own_S p e below T49 (mkF m 124 #[rv oR, iv p2, iv p3, rv x1, rv kkR, iv (0 : Int32)] [(.int (1 : Int32))]) t → own_S p e below s₁ f0 t := fun t k => R50 t (by
    refine XS.iconst X49.here hx rfl (hb hby d10_123) ?_
    exact k)
  obtain ⟨fs, hr, hrun, hended, hW, hsame⟩ := X49.leave (v := some (.int (1 : Int32))) (fun h => by rw [Bd.returns] at h; cases h)
  refine ⟨_, _, pre0 _ (R51 _ ?_), hrun, hended, _, _, rfl, ?_, ⟨_, rfl⟩, hW, hsame.mono (by decide) (by decide)⟩
  · show own_S p e below T49 (mkF m 124 #[rv oR, iv p2, iv p3, rv x1, rv kkR, iv (0 : Int32)] [(.int (1 : Int32))]) _
    exact retN X49 hx (t := .boolean) Bd.returns (by simp) (hb hby d10_124) hr
  · show Q_rmApp0_0 Z oR p2 p3 x1 ckR kckR kkR fiR kfiR saR kstR enR kenR itR kitR fx h0 n0 _ T49.heap _
    rw [e49]
    exact ⟨rfl, N49, K49, f49_F_size_kkR, f49_F_starts_kkR, v49, f49_A_saR, f49_F_ends_kkR, f49_F_items_kkR, f49_A_enR, f49_A_itR⟩
theorem ef_rmFadd0_0 (m : MethodId) (x0 : Addr) (x1 : Int64) (x2 : Int32) (x3 : Int32) (x4 : Addr) : entryFrame m #[(.ref x0), (.long x1), (.int x2), (.int x3), (.ref x4)] 6 = mkF m 0 #[rv x0, own_l x1, .second, iv x2, iv x3, rv x4] [] := by first | (simp [entryFrame, mkF, argsToLocals, Value.category]; done) | rfl
def Q_rmFadd0_0 (Z : State) (a1 : Addr) (p2 : Int32) (p3 : Int32) (x1 : Addr) (oR : Addr) (ckR : Addr) (kckR : ClassId) (kkR : Addr) (fiR : Addr) (kfiR : ClassId) (saR : Addr) (kstR : ClassId) (enR : Addr) (kenR : ClassId) (itR : Addr) (kitR : ClassId) (fx : Int32) (oU : Addr) (ckU : Addr) (kckU : ClassId) (kkU : Addr) (h0 : Heap) (n0 : Nat) (v : Option Value) (h : Heap) (L : List Loc) : Prop := v = none ∧ Fr n0 L ∧ Keep h0 h [saR, enR, itR, kkR, fiR] ∧ (Fld Z h kkR sN1 "size" "I" (.int (1 : Int32))) ∧ (Fld Z h kkR sN1 "starts" "[I" (.ref saR)) ∧ (Arv Z h fiR kfiR .int (1 : Int32) [(.int p2)] (.int (0 : Int32))) ∧ (Arv Z h saR kstR .int (256 : Int32) [(.int p2), (.int (0 : Int32)), (.int (0 : Int32))] (.int (0 : Int32))) ∧ (Fld Z h kkR sN1 "ends" "[I" (.ref enR)) ∧ (Fld Z h kkR sN1 "items" "[Ljava/lang/Object;" (.ref itR)) ∧ (Arv Z h enR kenR .int (256 : Int32) [(.int p3), (.int (0 : Int32)), (.int (0 : Int32))] (.int (0 : Int32))) ∧ (Arv Z h itR kitR (.object "java/lang/Object") (256 : Int32) [(.ref x1), .null, .null] .null)
set_option maxRecDepth 65536 in
set_option maxHeartbeats 40000000 in
theorem rmFadd0_0 (l : Launch) (Z : State) (a0 : Array Value) (hw : ∀ d ∈ tables_1, d.before a0 Z = true) (ws : List Jvm.Cond) (a1 : Addr) (p2 : Int32) (p3 : Int32) (x1 : Addr) (oR : Addr) (ckR : Addr) (kckR : ClassId) (kkR : Addr) (fiR : Addr) (kfiR : ClassId) (saR : Addr) (kstR : ClassId) (enR : Addr) (kenR : ClassId) (itR : Addr) (kitR : ClassId) (fx : Int32) (oU : Addr) (ckU : Addr) (kckU : ClassId) (kkU : Addr) (h0 : Heap) (n0 : Nat) (Z0 : n0 ≤ h0.size) (F_read_a1 : Fld Z h0 a1 sN2 "read" sN4 (.ref oR)) (F_unread_a1 : Fld Z h0 a1 sN2 "unread" sN4 (.ref oU)) (E_oR : Exa Z h0 oR sN0) (F_chunks_oR : Fld Z h0 oR sN0 "chunks" sN3 (.ref ckR)) (F_chunkCount_oR : Fld Z h0 oR sN0 "chunkCount" "I" (.int (1 : Int32))) (F_firsts_oR : Fld Z h0 oR sN0 "firsts" "[I" (.ref fiR)) (F_withItems_oR : Fld Z h0 oR sN0 "withItems" "Z" (.int (1 : Int32))) (A_ckR : Arv Z h0 ckR kckR (.object sN1) (1 : Int32) [(.ref kkR)] .null) (E_kkR : Exa Z h0 kkR sN1) (F_size_kkR : Fld Z h0 kkR sN1 "size" "I" (.int (0 : Int32))) (F_starts_kkR : Fld Z h0 kkR sN1 "starts" "[I" (.ref saR)) (A_fiR : Arv Z h0 fiR kfiR .int (1 : Int32) [(.int fx)] (.int (0 : Int32))) (A_saR : Arv Z h0 saR kstR .int (256 : Int32) [(.int (0 : Int32)), (.int (0 : Int32)), (.int (0 : Int32))] (.int (0 : Int32))) (F_ends_kkR : Fld Z h0 kkR sN1 "ends" "[I" (.ref enR)) (F_items_kkR : Fld Z h0 kkR sN1 "items" "[Ljava/lang/Object;" (.ref itR)) (A_enR : Arv Z h0 enR kenR .int (256 : Int32) [(.int (0 : Int32)), (.int (0 : Int32)), (.int (0 : Int32))] (.int (0 : Int32))) (A_itR : Arv Z h0 itR kitR (.object "java/lang/Object") (256 : Int32) [.null, .null, .null] .null) (E_x1 : Exa Z h0 x1 "java/lang/Integer") (g_fiR : n0 ≤ fiR) (g_ckR : n0 ≤ ckR) (g_saR : n0 ≤ saR) (g_enR : n0 ≤ enR) (g_itR : n0 ≤ itR) (g_kkR : n0 ≤ kkR) (ne_fiR_ckR : fiR ≠ ckR) (ne_fiR_saR : fiR ≠ saR) (ne_fiR_enR : fiR ≠ enR) (ne_fiR_itR : fiR ≠ itR) (ne_ckR_saR : ckR ≠ saR) (ne_ckR_enR : ckR ≠ enR) (ne_ckR_itR : ckR ≠ itR) (ne_saR_enR : saR ≠ enR) (ne_saR_itR : saR ≠ itR) (ne_enR_itR : enR ≠ itR) (ovr_itR : Ovr Z kitR "java/lang/Object") (E_oU : Exa Z h0 oU sN0) (F_chunks_oU : Fld Z h0 oU sN0 "chunks" sN3 (.ref ckU)) (A_ckU : Arv Z h0 ckU kckU (.object sN1) (1 : Int32) [(.ref kkU)] .null) (E_kkU : Exa Z h0 kkU sN1) (F_size_kkU : Fld Z h0 kkU sN1 "size" "I" (.int (0 : Int32))) (E_a1 : Exa Z h0 a1 sN2) (ne_ckU_saR : ckU ≠ saR) (ne_ckU_enR : ckU ≠ enR) (ne_ckU_itR : ckU ≠ itR) (ne_ckU_fiR : ckU ≠ fiR) (ne_kkU_kkR : kkU ≠ kkR) :
    own_M l (⟨sN2, "add", sN5⟩ : MethodName) (Jvm.Cond.code (⟨sN2, "add", sN5⟩ : MethodName) prog_116_method_9_code 6 none :: ws) ({ frames := 1, cells := 0, slots := 0, locals := 17 } : Room) #[(.ref a1), (.long (256 : Int64)), (.int p2), (.int p3), (.ref x1)] Z h0 (Q_rmFadd0_0 Z a1 p2 p3 x1 oR ckR kckR kkR fiR kfiR saR kstR enR kenR itR kitR fx oU ckU kckU kkU h0 n0) := by
  refine MetFree.of_bodySF (plainFor_of_name pn_3) hisR ?_
  intro p e s m args below meth c s₁ Bd hml0 hP hK
  obtain ⟨rfl, hZ, hh⟩ := hP
  have hx := Bd.exec
  have hby := Bd.bytes
  have hml : c.maxLocals = 6 := hml0
  have hown : s.vm.findClass sN2 = some m.cls := findClass_of_methodNamed Bd.named
  have hnm := (name_of_methodNamed Bd.named Bd.method).1
  have X0 : Stand p l e ({ frames := 1, cells := 0, slots := 0, locals := 17 } : Room) s m #[(.ref a1), (.long (256 : Int64)), (.int p2), (.int p3), (.ref x1)] below meth c s₁ [] 0 0 := Stand.of_body Bd
  have hU : ∀ (i : Nat) (d : Jvm.Cond), tables_1[i]? = some d → d.before a0 Z = true := fun i d h => hw d (List.mem_of_getElem? h)
  have e0 : s₁.heap = h0 := by rw [← hh, Bd.state]; rfl
  have N0 := Fr.nil n0
  obtain ⟨f0, hf0⟩ : ∃ f : JFrame, f = mkF m 0 #[rv a1, own_l (256 : Int64), .second, iv p2, iv p3, rv x1] [] := ⟨_, rfl⟩
  have pre0 : ∀ t, own_S p e below s₁ f0 t → Steps p.tables e below (s₁.setTop (entryFrame m #[(.ref a1), (.long (256 : Int64)), (.int p2), (.int p3), (.ref x1)] 6)) t := fun t k => castTop ((ef_rmFadd0_0 m a1 (256 : Int64) p2 p3 x1).trans hf0.symm) k
  have R0 : ∀ t, own_S p e below s₁ (mkF m 0 #[rv a1, own_l (256 : Int64), .second, iv p2, iv p3, rv x1] []) t → own_S p e below s₁ f0 t := by rw [hf0]; exact fun t k => k
  have R1 : ∀ t, own_S p e below s₁ (mkF m 6 #[rv a1, own_l (256 : Int64), .second, iv p2, iv p3, rv x1] [(.ref a1)]) t → own_S p e below s₁ f0 t := fun t k => R0 t (by
    refine XS.aload X0.here hx rfl (hb hby d9_0) rfl rfl ?_
    refine XS.ifnullNo X0.here hx rfl (hb hby d9_2) rfl ?_
    refine XS.aloadN X0.here hx rfl (hb hby d9_5) rfl rfl ?_
    exact k)
  obtain ⟨T2, X2, e2, st2⟩ := getF X0 hx hZ hown (host := "") (Or.inl (hU 47 _ rfl)) Via.refl e0 F_unread_a1 (g := (mkF m 6 #[rv a1, own_l (256 : Int64), .second, iv p2, iv p3, rv x1] [(.ref a1)])) rfl rfl (hb hby d9_6)
  have R3 := fun t k => R1 t (st2 t k)
  obtain ⟨cq4, kq4, q4a, q4b, q4c⟩ := isOf hZ e2 E_oU
  obtain ⟨_, _, ⟨T4, L4, k4, n4⟩, -, X4, ⟨Lc4, hQ4, l4, y4, z4⟩, st4⟩ := X2.virtualBack hx (y := (⟨sN0, "isEmpty", "()Z"⟩ : MethodName)) (z := (⟨sN0, "isEmpty", "()Z"⟩ : MethodName)) hown (mvT hZ (hU 68 _ rfl)) (mvT hZ (hU 69 _ rfl)) (notFace_of_selects (args := #[]) (mvT hZ (hU 71 _ rfl))) (mvT hZ (hU 71 _ rfl)) (mvT hZ (hU 70 _ rfl)) (by decide) (backOf (W := 0) (rmEmp0 l Z a0 hw [] oU ckU kckU kkU h0 n0 Z0 F_chunks_oU A_ckU F_size_kkU) hZ (hU 72 _ rfl) (hU 14 _ rfl) (by decide) (by decide)) q4a q4c (g := (mkF m 9 #[rv a1, own_l (256 : Int64), .second, iv p2, iv p3, rv x1] [(.ref oU)])) rfl (by rw [hml]; rfl) (Steps.refl _) (argsL := []) (rest := []) (lenOf pd_6 rfl) rfl (Nat.le_of_eq rfl) (hb hby d9_9) (fun _ _ => ⟨rfl, e2, (by decide : 0 + 0 ≤ _), (by decide : 0 + 0 ≤ _)⟩)
  dsimp only [Pt.U, Pt.locs, Pt.cells, Pt.slots] at X4 l4 y4 z4 st4 hQ4
  subst l4 y4 z4
  obtain ⟨rfl, N4q, p4_0⟩ := hQ4
  have N4 := Fr.app N0 N4q
  have R5 := fun t k => R3 t (st4.trans k)
  have R6 : ∀ t, own_S p e below T4 (mkF m 16 #[rv a1, own_l (256 : Int64), .second, iv p2, iv p3, rv x1] [(.ref a1)]) t → own_S p e below s₁ f0 t := fun t k => R5 t (by
    refine XS.ifNo X4.here hx rfl (hb hby d9_12) rfl ((if0 _ _).trans (feq (by decide : ¬ ((1 : Int32) = (0 : Int32)))).1) ?_
    refine XS.aloadN X4.here hx rfl (hb hby d9_15) rfl rfl ?_
    exact k)
  obtain ⟨T7, X7, e7, st7⟩ := getF X4 hx hZ hown (host := "") (Or.inl (hU 45 _ rfl)) Via.refl p4_0 F_read_a1 (g := (mkF m 16 #[rv a1, own_l (256 : Int64), .second, iv p2, iv p3, rv x1] [(.ref a1)])) rfl rfl (hb hby d9_16)
  have R8 := fun t k => R6 t (st7 t k)
  have R9 : ∀ t, own_S p e below T7 (mkF m 24 #[rv a1, own_l (256 : Int64), .second, iv p2, iv p3, rv x1] [(.ref x1), (.int p3), (.int p2), (.ref oR)]) t → own_S p e below s₁ f0 t := fun t k => R8 t (by
    refine XS.iloadN X7.here hx rfl (hb hby d9_19) rfl  ?_
    refine XS.iload X7.here hx rfl (hb hby d9_20) rfl  ?_
    refine XS.aload X7.here hx rfl (hb hby d9_22) rfl rfl ?_
    exact k)
  obtain ⟨cq10, kq10, q10a, q10b, q10c⟩ := isOf hZ e7 E_oR
  obtain ⟨_, _, ⟨T10, L10, k10, n10⟩, -, X10, ⟨Lc10, hQ10, l10, y10, z10⟩, st10⟩ := X7.virtualBack hx (y := (⟨sN0, "append", sN6⟩ : MethodName)) (z := (⟨sN0, "append", sN6⟩ : MethodName)) hown (mvT hZ (hU 78 _ rfl)) (mvT hZ (hU 79 _ rfl)) (notFace_of_selects (args := #[]) (mvT hZ (hU 81 _ rfl))) (mvT hZ (hU 81 _ rfl)) (mvT hZ (hU 80 _ rfl)) (by decide) (backOf (W := 0) (rmApp0_0 l Z a0 hw [] oR p2 p3 x1 ckR kckR kkR fiR kfiR saR kstR enR kenR itR kitR fx h0 n0 Z0 E_oR F_chunks_oR F_chunkCount_oR F_firsts_oR F_withItems_oR A_ckR E_kkR F_size_kkR F_starts_kkR A_fiR A_saR F_ends_kkR F_items_kkR A_enR A_itR E_x1 g_fiR g_ckR g_saR g_enR g_itR g_kkR ne_fiR_ckR ne_fiR_saR ne_fiR_enR ne_fiR_itR ne_ckR_saR ne_ckR_enR ne_ckR_itR ne_saR_enR ne_saR_itR ne_enR_itR ovr_itR) hZ (hU 82 _ rfl) (hU 14 _ rfl) (by decide) (by decide)) q10a q10c (g := (mkF m 24 #[rv a1, own_l (256 : Int64), .second, iv p2, iv p3, rv x1] [(.ref x1), (.int p3), (.int p2), (.ref oR)])) rfl (by rw [hml]; rfl) (Steps.refl _) (argsL := [(.int p2), (.int p3), (.ref x1)]) (rest := []) (lenOf pd_11 rfl) rfl (Nat.le_of_eq rfl) (hb hby d9_24) (fun _ _ => ⟨rfl, e7, (by decide : 0 + 0 ≤ _), (by decide : 0 + 0 ≤ _)⟩)
  dsimp only [Pt.U, Pt.locs, Pt.cells, Pt.slots] at X10 l10 y10 z10 st10 hQ10
  subst l10 y10 z10
  obtain ⟨rfl, N10q, p10_0, p10_1, p10_2, p10_3, p10_4, p10_5, p10_6, p10_7, p10_8⟩ := hQ10
  have N10 := Fr.app N4 N10q
  have f10_F_read_a1 := F_read_a1.keep p10_0 (ninS (Exa.neArv E_a1 A_saR (hU 4 _ rfl)) (ninS (Exa.neArv E_a1 A_enR (hU 4 _ rfl)) (ninS (Exa.neArv E_a1 A_itR (hU 4 _ rfl)) (ninS (Exa.ne E_a1 E_kkR (by decide)) (ninS (Exa.neArv E_a1 A_fiR (hU 4 _ rfl)) nin0)))))
  have f10_F_unread_a1 := F_unread_a1.keep p10_0 (ninS (Exa.neArv E_a1 A_saR (hU 4 _ rfl)) (ninS (Exa.neArv E_a1 A_enR (hU 4 _ rfl)) (ninS (Exa.neArv E_a1 A_itR (hU 4 _ rfl)) (ninS (Exa.ne E_a1 E_kkR (by decide)) (ninS (Exa.neArv E_a1 A_fiR (hU 4 _ rfl)) nin0)))))
  have f10_E_oR := E_oR.keep p10_0
  have f10_F_chunks_oR := F_chunks_oR.keep p10_0 (ninS (Exa.neArv E_oR A_saR (hU 13 _ rfl)) (ninS (Exa.neArv E_oR A_enR (hU 13 _ rfl)) (ninS (Exa.neArv E_oR A_itR (hU 13 _ rfl)) (ninS (Exa.ne E_oR E_kkR (by decide)) (ninS (Exa.neArv E_oR A_fiR (hU 13 _ rfl)) nin0)))))
  have f10_F_chunkCount_oR := F_chunkCount_oR.keep p10_0 (ninS (Exa.neArv E_oR A_saR (hU 13 _ rfl)) (ninS (Exa.neArv E_oR A_enR (hU 13 _ rfl)) (ninS (Exa.neArv E_oR A_itR (hU 13 _ rfl)) (ninS (Exa.ne E_oR E_kkR (by decide)) (ninS (Exa.neArv E_oR A_fiR (hU 13 _ rfl)) nin0)))))
  have f10_F_firsts_oR := F_firsts_oR.keep p10_0 (ninS (Exa.neArv E_oR A_saR (hU 13 _ rfl)) (ninS (Exa.neArv E_oR A_enR (hU 13 _ rfl)) (ninS (Exa.neArv E_oR A_itR (hU 13 _ rfl)) (ninS (Exa.ne E_oR E_kkR (by decide)) (ninS (Exa.neArv E_oR A_fiR (hU 13 _ rfl)) nin0)))))
  have f10_F_withItems_oR := F_withItems_oR.keep p10_0 (ninS (Exa.neArv E_oR A_saR (hU 13 _ rfl)) (ninS (Exa.neArv E_oR A_enR (hU 13 _ rfl)) (ninS (Exa.neArv E_oR A_itR (hU 13 _ rfl)) (ninS (Exa.ne E_oR E_kkR (by decide)) (ninS (Exa.neArv E_oR A_fiR (hU 13 _ rfl)) nin0)))))
  have f10_A_ckR := A_ckR.keep p10_0 (ninS ne_ckR_saR (ninS ne_ckR_enR (ninS ne_ckR_itR (ninS (Ne.symm (Exa.neArv E_kkR A_ckR (hU 28 _ rfl))) (ninS (Ne.symm ne_fiR_ckR) nin0)))))
  have f10_E_kkR := E_kkR.keep p10_0
  have f10_E_x1 := E_x1.keep p10_0
  have f10_E_oU := E_oU.keep p10_0
  have f10_F_chunks_oU := F_chunks_oU.keep p10_0 (ninS (Exa.neArv E_oU A_saR (hU 13 _ rfl)) (ninS (Exa.neArv E_oU A_enR (hU 13 _ rfl)) (ninS (Exa.neArv E_oU A_itR (hU 13 _ rfl)) (ninS (Exa.ne E_oU E_kkR (by decide)) (ninS (Exa.neArv E_oU A_fiR (hU 13 _ rfl)) nin0)))))
  have f10_A_ckU := A_ckU.keep p10_0 (ninS ne_ckU_saR (ninS ne_ckU_enR (ninS ne_ckU_itR (ninS (Ne.symm (Exa.neArv E_kkR A_ckU (hU 28 _ rfl))) (ninS ne_ckU_fiR nin0)))))
  have f10_E_kkU := E_kkU.keep p10_0
  have f10_F_size_kkU := F_size_kkU.keep p10_0 (ninS (Exa.neArv E_kkU A_saR (hU 28 _ rfl)) (ninS (Exa.neArv E_kkU A_enR (hU 28 _ rfl)) (ninS (Exa.neArv E_kkU A_itR (hU 28 _ rfl)) (ninS ne_kkU_kkR (ninS (Exa.neArv E_kkU A_fiR (hU 28 _ rfl)) nin0)))))
  have f10_E_a1 := E_a1.keep p10_0
  have z10 : n0 ≤ T10.heap.size := Nat.le_trans Z0 p10_0.1
  have K10 : Keep h0 T10.heap [saR, enR, itR, kkR, fiR] := (Keep.refl h0 [saR, enR, itR, kkR, fiR]).trans p10_0 (allS (Or.inl (List.mem_of_getElem? (i := 0) rfl)) (allS (Or.inl (List.mem_of_getElem? (i := 1) rfl)) (allS (Or.inl (List.mem_of_getElem? (i := 2) rfl)) (allS (Or.inl (List.mem_of_getElem? (i := 3) rfl)) (allS (Or.inl (List.mem_of_getElem? (i := 4) rfl)) all0)))))
  have R11 := fun t k => R9 t (st10.trans k)
  have R12 : ∀ t, own_S p e below T10 (mkF m 30 #[rv a1, own_l (256 : Int64), .second, iv p2, iv p3, rv x1] []) t → own_S p e below s₁ f0 t := fun t k => R11 t (by
    refine XS.ifNo X10.here hx rfl (hb hby d9_27) rfl ((if0 _ _).trans (feq (by decide : ¬ ((1 : Int32) = (0 : Int32)))).1) ?_
    exact k)
  obtain ⟨fs, hr, hrun, hended, hW, hsame⟩ := X10.leave (v := none) (fun _ => rfl)
  refine ⟨_, _, pre0 _ (R12 _ ?_), hrun, hended, _, _, rfl, ?_, ⟨_, rfl⟩, hW, hsame.mono (by decide) (by decide)⟩
  · show own_S p e below T10 (mkF m 30 #[rv a1, own_l (256 : Int64), .second, iv p2, iv p3, rv x1] []) _
    exact X10.returnOut hx Bd.returns (hb hby d9_30) hr
  · show Q_rmFadd0_0 Z a1 p2 p3 x1 oR ckR kckR kkR fiR kfiR saR kstR enR kenR itR kitR fx oU ckU kckU kkU h0 n0 _ T10.heap _
    exact ⟨rfl, N10, K10, p10_1, p10_2, p10_3, p10_4, p10_5, p10_6, p10_7, p10_8⟩
theorem ef_rmApp1_1 (m : MethodId) (x0 : Addr) (x1 : Int32) (x2 : Int32) (x3 : Addr) : entryFrame m #[(.ref x0), (.int x1), (.int x2), (.ref x3)] 6 = mkF m 0 #[rv x0, iv x1, iv x2, rv x3, .unset, .unset] [] := by first | (simp [entryFrame, mkF, argsToLocals, Value.category]; done) | rfl
def Q_rmApp1_1 (Z : State) (oR : Addr) (p2 : Int32) (p3 : Int32) (x1 : Addr) (ckR : Addr) (kckR : ClassId) (kkR : Addr) (fiR : Addr) (kfiR : ClassId) (saR : Addr) (kstR : ClassId) (enR : Addr) (kenR : ClassId) (itR : Addr) (kitR : ClassId) (x0 : Int32) (e_0 : Int32) (v0 : Addr) (h0 : Heap) (n0 : Nat) (v : Option Value) (h : Heap) (L : List Loc) : Prop := v = some (.int (1 : Int32)) ∧ Fr n0 L ∧ Keep h0 h [saR, enR, itR, kkR, fiR] ∧ (Fld Z h kkR sN1 "size" "I" (.int (2 : Int32))) ∧ (Fld Z h kkR sN1 "starts" "[I" (.ref saR)) ∧ (Arv Z h fiR kfiR .int (1 : Int32) [(.int x0)] (.int (0 : Int32))) ∧ (Arv Z h saR kstR .int (256 : Int32) [(.int x0), (.int p2), (.int (0 : Int32))] (.int (0 : Int32))) ∧ (Fld Z h kkR sN1 "ends" "[I" (.ref enR)) ∧ (Fld Z h kkR sN1 "items" "[Ljava/lang/Object;" (.ref itR)) ∧ (Arv Z h enR kenR .int (256 : Int32) [(.int e_0), (.int p3), (.int (0 : Int32))] (.int (0 : Int32))) ∧ (Arv Z h itR kitR (.object "java/lang/Object") (256 : Int32) [(.ref v0), (.ref x1), .null] .null)
set_option maxRecDepth 65536 in
set_option maxHeartbeats 40000000 in
theorem rmApp1_1 (l : Launch) (Z : State) (a0 : Array Value) (hw : ∀ d ∈ tables_1, d.before a0 Z = true) (ws : List Jvm.Cond) (oR : Addr) (p2 : Int32) (p3 : Int32) (x1 : Addr) (ckR : Addr) (kckR : ClassId) (kkR : Addr) (fiR : Addr) (kfiR : ClassId) (saR : Addr) (kstR : ClassId) (enR : Addr) (kenR : ClassId) (itR : Addr) (kitR : ClassId) (x0 : Int32) (e_0 : Int32) (v0 : Addr) (h0 : Heap) (n0 : Nat) (Z0 : n0 ≤ h0.size) (E_oR : Exa Z h0 oR sN0) (F_chunks_oR : Fld Z h0 oR sN0 "chunks" sN3 (.ref ckR)) (F_chunkCount_oR : Fld Z h0 oR sN0 "chunkCount" "I" (.int (1 : Int32))) (F_firsts_oR : Fld Z h0 oR sN0 "firsts" "[I" (.ref fiR)) (F_withItems_oR : Fld Z h0 oR sN0 "withItems" "Z" (.int (1 : Int32))) (A_ckR : Arv Z h0 ckR kckR (.object sN1) (1 : Int32) [(.ref kkR)] .null) (E_kkR : Exa Z h0 kkR sN1) (F_size_kkR : Fld Z h0 kkR sN1 "size" "I" (.int (1 : Int32))) (F_starts_kkR : Fld Z h0 kkR sN1 "starts" "[I" (.ref saR)) (A_fiR : Arv Z h0 fiR kfiR .int (1 : Int32) [(.int x0)] (.int (0 : Int32))) (A_saR : Arv Z h0 saR kstR .int (256 : Int32) [(.int x0), (.int (0 : Int32)), (.int (0 : Int32))] (.int (0 : Int32))) (F_ends_kkR : Fld Z h0 kkR sN1 "ends" "[I" (.ref enR)) (F_items_kkR : Fld Z h0 kkR sN1 "items" "[Ljava/lang/Object;" (.ref itR)) (A_enR : Arv Z h0 enR kenR .int (256 : Int32) [(.int e_0), (.int (0 : Int32)), (.int (0 : Int32))] (.int (0 : Int32))) (A_itR : Arv Z h0 itR kitR (.object "java/lang/Object") (256 : Int32) [(.ref v0), .null, .null] .null) (E_x1 : Exa Z h0 x1 "java/lang/Integer") (g_fiR : n0 ≤ fiR) (g_ckR : n0 ≤ ckR) (g_saR : n0 ≤ saR) (g_enR : n0 ≤ enR) (g_itR : n0 ≤ itR) (g_kkR : n0 ≤ kkR) (ne_fiR_ckR : fiR ≠ ckR) (ne_fiR_saR : fiR ≠ saR) (ne_fiR_enR : fiR ≠ enR) (ne_fiR_itR : fiR ≠ itR) (ne_ckR_saR : ckR ≠ saR) (ne_ckR_enR : ckR ≠ enR) (ne_ckR_itR : ckR ≠ itR) (ne_saR_enR : saR ≠ enR) (ne_saR_itR : saR ≠ itR) (ne_enR_itR : enR ≠ itR) (ovr_itR : Ovr Z kitR "java/lang/Object") (ho0 : x0 < p2) :
    own_M l (⟨sN0, "append", sN6⟩ : MethodName) (Jvm.Cond.code (⟨sN0, "append", sN6⟩ : MethodName) prog_118_method_5_code 6 (some .boolean) :: ws) ({ frames := 0, cells := 0, slots := 0, locals := 0 } : Room) #[(.ref oR), (.int p2), (.int p3), (.ref x1)] Z h0 (Q_rmApp1_1 Z oR p2 p3 x1 ckR kckR kkR fiR kfiR saR kstR enR kenR itR kitR x0 e_0 v0 h0 n0) := by
  refine MetFree.of_bodySF (plainFor_of_name pn_1) hisR ?_
  intro p e s m args below meth c s₁ Bd hml0 hP hK
  obtain ⟨rfl, hZ, hh⟩ := hP
  have hx := Bd.exec
  have hby := Bd.bytes
  have hml : c.maxLocals = 6 := hml0
  have hown : s.vm.findClass sN0 = some m.cls := findClass_of_methodNamed Bd.named
  have hnm := (name_of_methodNamed Bd.named Bd.method).1
  have X0 : Stand p l e ({ frames := 0, cells := 0, slots := 0, locals := 0 } : Room) s m #[(.ref oR), (.int p2), (.int p3), (.ref x1)] below meth c s₁ [] 0 0 := Stand.of_body Bd
  have hU : ∀ (i : Nat) (d : Jvm.Cond), tables_1[i]? = some d → d.before a0 Z = true := fun i d h => hw d (List.mem_of_getElem? h)
  have e0 : s₁.heap = h0 := by rw [← hh, Bd.state]; rfl
  have N0 := Fr.nil n0
  obtain ⟨f0, hf0⟩ : ∃ f : JFrame, f = mkF m 0 #[rv oR, iv p2, iv p3, rv x1, .unset, .unset] [] := ⟨_, rfl⟩
  have pre0 : ∀ t, own_S p e below s₁ f0 t → Steps p.tables e below (s₁.setTop (entryFrame m #[(.ref oR), (.int p2), (.int p3), (.ref x1)] 6)) t := fun t k => castTop ((ef_rmApp1_1 m oR p2 p3 x1).trans hf0.symm) k
  have R0 : ∀ t, own_S p e below s₁ (mkF m 0 #[rv oR, iv p2, iv p3, rv x1, .unset, .unset] []) t → own_S p e below s₁ f0 t := by rw [hf0]; exact fun t k => k
  have R1 : ∀ t, own_S p e below s₁ (mkF m 1 #[rv oR, iv p2, iv p3, rv x1, .unset, .unset] [(.ref oR)]) t → own_S p e below s₁ f0 t := fun t k => R0 t (by
    refine XS.aloadN X0.here hx rfl (hb hby d10_0) rfl rfl ?_
    exact k)
  obtain ⟨T2, X2, e2, st2⟩ := getF X0 hx hZ hown (host := "") (Or.inl (hU 43 _ rfl)) Via.refl e0 F_chunks_oR (g := (mkF m 1 #[rv oR, iv p2, iv p3, rv x1, .unset, .unset] [(.ref oR)])) rfl rfl (hb hby d10_1)
  have R3 := fun t k => R1 t (st2 t k)
  have R4 : ∀ t, own_S p e below T2 (mkF m 5 #[rv oR, iv p2, iv p3, rv x1, .unset, .unset] [(.ref oR), (.ref ckR)]) t → own_S p e below s₁ f0 t := fun t k => R3 t (by
    refine XS.aloadN X2.here hx rfl (hb hby d10_4) rfl rfl ?_
    exact k)
  obtain ⟨T5, X5, e5, st5⟩ := getF X2 hx hZ hown (host := "") (Or.inl (hU 22 _ rfl)) Via.refl e2 F_chunkCount_oR (g := (mkF m 5 #[rv oR, iv p2, iv p3, rv x1, .unset, .unset] [(.ref oR), (.ref ckR)])) rfl rfl (hb hby d10_5)
  have R6 := fun t k => R4 t (st5 t k)
  have R7 : ∀ t, own_S p e below T5 (mkF m 10 #[rv oR, iv p2, iv p3, rv x1, .unset, .unset] [(.int (0 : Int32)), (.ref ckR)]) t → own_S p e below s₁ f0 t := fun t k => R6 t (by
    refine XS.iconst X5.here hx rfl (hb hby d10_8) ?_
    refine XS.isub X5.here hx rfl (hb hby d10_9) rfl ?_
    exact k)
  obtain ⟨cl8, Ar8, q8, S8, n8_, H8, G8⟩ := id A_ckR
  have hin8 : ¬ ((0 : Int32) < 0 ∨ cl8.slots.size ≤ ((0 : Int32)).toNatClampNeg) := inb_of S8 ⟨by decide, by decide⟩
  have hat8 : cl8.slots[((0 : Int32)).toNatClampNeg]? = some (.ref kkR) := Has.at H8 hin8 rfl
  have R9 : ∀ t, own_S p e below T5 (mkF m 11 #[rv oR, iv p2, iv p3, rv x1, .unset, .unset] [(.ref kkR)]) t → own_S p e below s₁ f0 t := fun t k => R7 t (X5.aaload hx (j := (0 : Int32)) (v := (.ref kkR)) (by rw [e5]; exact Ar8.1) (State.isArrayOf_alike hZ.alike Ar8.2.1) rfl Ar8.2.2 hin8 hat8 (g := (mkF m 10 #[rv oR, iv p2, iv p3, rv x1, .unset, .unset] [(.int (0 : Int32)), (.ref ckR)])) rfl rfl (hb hby d10_10) _ k)
  have R10 : ∀ t, own_S p e below T5 (mkF m 15 #[rv oR, iv p2, iv p3, rv x1, rv kkR, .unset] [(.ref kkR)]) t → own_S p e below s₁ f0 t := fun t k => R9 t (by
    refine XS.astore X5.here hx rfl (hb hby d10_11) rfl rfl (l' := #[rv oR, iv p2, iv p3, rv x1, rv kkR, .unset]) rfl ?_
    refine XS.aload X5.here hx rfl (hb hby d10_13) rfl rfl ?_
    exact k)
  obtain ⟨T11, X11, e11, st11⟩ := getF X5 hx hZ hown (Or.inr (hU 66 _ rfl)) Via.refl e5 F_size_kkR (g := (mkF m 15 #[rv oR, iv p2, iv p3, rv x1, rv kkR, .unset] [(.ref kkR)])) rfl rfl (hb hby d10_15)
  have R12 := fun t k => R10 t (st11 t k)
  have R13 : ∀ t, own_S p e below T11 (mkF m 28 #[rv oR, iv p2, iv p3, rv x1, rv kkR, iv (1 : Int32)] [(.ref kkR), (.int p2)]) t → own_S p e below s₁ f0 t := fun t k => R12 t (by
    refine XS.istore X11.here hx rfl (hb hby d10_18) rfl (l' := #[rv oR, iv p2, iv p3, rv x1, rv kkR, iv (1 : Int32)]) rfl ?_
    refine XS.iload X11.here hx rfl (hb hby d10_20) rfl  ?_
    refine XS.ifNo X11.here hx rfl (hb hby d10_22) rfl ((if0 _ _).trans (tlt (by decide : (0 : Int32) < (1 : Int32))).2.2.2) ?_
    refine XS.iloadN X11.here hx rfl (hb hby d10_25) rfl  ?_
    refine XS.aload X11.here hx rfl (hb hby d10_26) rfl rfl ?_
    exact k)
  obtain ⟨T14, X14, e14, st14⟩ := getF X11 hx hZ hown (Or.inr (hU 83 _ rfl)) Via.refl e11 F_starts_kkR (g := (mkF m 28 #[rv oR, iv p2, iv p3, rv x1, rv kkR, iv (1 : Int32)] [(.ref kkR), (.int p2)])) rfl rfl (hb hby d10_28)
  have R15 := fun t k => R13 t (st14 t k)
  have R16 : ∀ t, own_S p e below T14 (mkF m 35 #[rv oR, iv p2, iv p3, rv x1, rv kkR, iv (1 : Int32)] [(.int (0 : Int32)), (.ref saR), (.int p2)]) t → own_S p e below s₁ f0 t := fun t k => R15 t (by
    refine XS.iload X14.here hx rfl (hb hby d10_31) rfl  ?_
    refine XS.iconst X14.here hx rfl (hb hby d10_33) ?_
    refine XS.isub X14.here hx rfl (hb hby d10_34) rfl ?_
    exact k)
  obtain ⟨cl17, Ar17, q17, S17, n17_, H17, G17⟩ := id A_saR
  have hin17 : ¬ ((0 : Int32) < 0 ∨ cl17.slots.size ≤ ((0 : Int32)).toNatClampNeg) := inb_of S17 ⟨by decide, by decide⟩
  have hat17 : cl17.slots[((0 : Int32)).toNatClampNeg]? = some (.int x0) := Has.at H17 hin17 rfl
  have R18 : ∀ t, own_S p e below T14 (mkF m 36 #[rv oR, iv p2, iv p3, rv x1, rv kkR, iv (1 : Int32)] [(.int x0), (.int p2)]) t → own_S p e below s₁ f0 t := fun t k => R16 t (X14.iaload hx (j := (0 : Int32)) (v := (.int x0)) (by rw [e14]; exact Ar17.1) (State.isArrayOf_alike hZ.alike Ar17.2.1) Ar17.2.2 hin17 hat17 (g := (mkF m 35 #[rv oR, iv p2, iv p3, rv x1, rv kkR, iv (1 : Int32)] [(.int (0 : Int32)), (.ref saR), (.int p2)])) rfl rfl (hb hby d10_35) _ k)
  have R19 : ∀ t, own_S p e below T14 (mkF m 64 #[rv oR, iv p2, iv p3, rv x1, rv kkR, iv (1 : Int32)] [(.ref kkR)]) t → own_S p e below s₁ f0 t := fun t k => R18 t (by
    refine XS.icmpYes X14.here hx rfl (pc0 := 36) (pc' := 41) rfl (hb hby d10_36) rfl (tlt ho0).2.2.1 (by decide) (by decide) ?_
    refine XS.iload X14.here hx rfl (hb hby d10_41) rfl  ?_
    refine XS.sipush X14.here hx rfl (hb hby d10_43) ?_
    refine XS.icmpYes X14.here hx rfl (pc0 := 46) (pc' := 62) rfl (hb hby d10_46) rfl (feq (by decide : ¬ ((1 : Int32) = (256 : Int32)))).2 (by decide) (by decide) ?_
    refine XS.aload X14.here hx rfl (hb hby d10_62) rfl rfl ?_
    exact k)
  obtain ⟨T20, X20, e20, st20⟩ := getF X14 hx hZ hown (Or.inr (hU 83 _ rfl)) Via.refl e14 F_starts_kkR (g := (mkF m 64 #[rv oR, iv p2, iv p3, rv x1, rv kkR, iv (1 : Int32)] [(.ref kkR)])) rfl rfl (hb hby d10_64)
  have R21 := fun t k => R19 t (st20 t k)
  have R22 : ∀ t, own_S p e below T20 (mkF m 70 #[rv oR, iv p2, iv p3, rv x1, rv kkR, iv (1 : Int32)] [(.int p2), (.int (1 : Int32)), (.ref saR)]) t → own_S p e below s₁ f0 t := fun t k => R21 t (by
    refine XS.iload X20.here hx rfl (hb hby d10_67) rfl  ?_
    refine XS.iloadN X20.here hx rfl (hb hby d10_69) rfl  ?_
    exact k)
  obtain ⟨cl23, Ar23, q23, S23, n23_, H23, G23⟩ := id A_saR
  have hin23 : ¬ ((1 : Int32) < 0 ∨ cl23.slots.size ≤ ((1 : Int32)).toNatClampNeg) := inb_of S23 ⟨by decide, by decide⟩
  obtain ⟨T23, h23, X23, e23, W23, st23⟩ := stI X20 hx hZ e20 Ar23 (j := (1 : Int32)) hin23 (g := (mkF m 70 #[rv oR, iv p2, iv p3, rv x1, rv kkR, iv (1 : Int32)] [(.int p2), (.int (1 : Int32)), (.ref saR)])) rfl rfl (hb hby d10_70)
  have f23_E_oR := E_oR.wr W23
  have f23_F_chunks_oR := F_chunks_oR.other W23 (Or.inl (Exa.neArv E_oR A_saR (hU 13 _ rfl)))
  have f23_F_chunkCount_oR := F_chunkCount_oR.other W23 (Or.inl (Exa.neArv E_oR A_saR (hU 13 _ rfl)))
  have f23_F_firsts_oR := F_firsts_oR.other W23 (Or.inl (Exa.neArv E_oR A_saR (hU 13 _ rfl)))
  have f23_F_withItems_oR := F_withItems_oR.other W23 (Or.inl (Exa.neArv E_oR A_saR (hU 13 _ rfl)))
  have f23_A_ckR := A_ckR.other W23 ne_ckR_saR
  have f23_E_kkR := E_kkR.wr W23
  have f23_F_size_kkR := F_size_kkR.other W23 (Or.inl (Exa.neArv E_kkR A_saR (hU 28 _ rfl)))
  have f23_F_starts_kkR := F_starts_kkR.other W23 (Or.inl (Exa.neArv E_kkR A_saR (hU 28 _ rfl)))
  have f23_A_fiR := A_fiR.other W23 ne_fiR_saR
  have f23_F_ends_kkR := F_ends_kkR.other W23 (Or.inl (Exa.neArv E_kkR A_saR (hU 28 _ rfl)))
  have f23_F_items_kkR := F_items_kkR.other W23 (Or.inl (Exa.neArv E_kkR A_saR (hU 28 _ rfl)))
  have f23_A_enR := A_enR.other W23 (Ne.symm ne_saR_enR)
  have f23_A_itR := A_itR.other W23 (Ne.symm ne_saR_itR)
  have f23_E_x1 := E_x1.wr W23
  have z23 : n0 ≤ h23.size := by rw [W23.size]; exact Z0
  have K23 : Keep h0 h23 [saR, enR, itR, kkR, fiR] := (Keep.refl h0 [saR, enR, itR, kkR, fiR]).wr W23 (Or.inl (List.mem_of_getElem? (i := 0) rfl))
  have v23 : Arv Z h23 saR kstR .int (256 : Int32) [(.int x0), (.int p2), (.int (0 : Int32))] (.int (0 : Int32)) := Arv.set Ar23 q23 S23 n23_ H23 G23 rfl W23 1 rfl (Nat.le_of_ble_eq_true rfl)
  have N23 := Fr.snoc X23 N0 g_saR
  have R24 := fun t k => R22 t (st23 t k)
  have R25 : ∀ t, own_S p e below T23 (mkF m 72 #[rv oR, iv p2, iv p3, rv x1, rv kkR, iv (1 : Int32)] [(.ref oR)]) t → own_S p e below s₁ f0 t := fun t k => R24 t (by
    refine XS.aloadN X23.here hx rfl (hb hby d10_71) rfl rfl ?_
    exact k)
  obtain ⟨T26, X26, e26, st26⟩ := getF X23 hx hZ hown (host := "") (Or.inl (hU 24 _ rfl)) Via.refl e23 f23_F_withItems_oR (g := (mkF m 72 #[rv oR, iv p2, iv p3, rv x1, rv kkR, iv (1 : Int32)] [(.ref oR)])) rfl rfl (hb hby d10_72)
  have R27 := fun t k => R25 t (st26 t k)
  have R28 : ∀ t, own_S p e below T26 (mkF m 80 #[rv oR, iv p2, iv p3, rv x1, rv kkR, iv (1 : Int32)] [(.ref kkR)]) t → own_S p e below s₁ f0 t := fun t k => R27 t (by
    refine XS.ifNo X26.here hx rfl (hb hby d10_75) rfl ((if0 _ _).trans (feq (by decide : ¬ ((1 : Int32) = (0 : Int32)))).1) ?_
    refine XS.aload X26.here hx rfl (hb hby d10_78) rfl rfl ?_
    exact k)
  obtain ⟨T29, X29, e29, st29⟩ := getF X26 hx hZ hown (Or.inr (hU 84 _ rfl)) Via.refl e26 f23_F_ends_kkR (g := (mkF m 80 #[rv oR, iv p2, iv p3, rv x1, rv kkR, iv (1 : Int32)] [(.ref kkR)])) rfl rfl (hb hby d10_80)
  have R30 := fun t k => R28 t (st29 t k)
  have R31 : ∀ t, own_S p e below T29 (mkF m 86 #[rv oR, iv p2, iv p3, rv x1, rv kkR, iv (1 : Int32)] [(.int p3), (.int (1 : Int32)), (.ref enR)]) t → own_S p e below s₁ f0 t := fun t k => R30 t (by
    refine XS.iload X29.here hx rfl (hb hby d10_83) rfl  ?_
    refine XS.iloadN X29.here hx rfl (hb hby d10_85) rfl  ?_
    exact k)
  obtain ⟨cl32, Ar32, q32, S32, n32_, H32, G32⟩ := id f23_A_enR
  have hin32 : ¬ ((1 : Int32) < 0 ∨ cl32.slots.size ≤ ((1 : Int32)).toNatClampNeg) := inb_of S32 ⟨by decide, by decide⟩
  obtain ⟨T32, h32, X32, e32, W32, st32⟩ := stI X29 hx hZ e29 Ar32 (j := (1 : Int32)) hin32 (g := (mkF m 86 #[rv oR, iv p2, iv p3, rv x1, rv kkR, iv (1 : Int32)] [(.int p3), (.int (1 : Int32)), (.ref enR)])) rfl rfl (hb hby d10_86)
  have f32_E_oR := f23_E_oR.wr W32
  have f32_F_chunks_oR := f23_F_chunks_oR.other W32 (Or.inl (Exa.neArv f23_E_oR f23_A_enR (hU 13 _ rfl)))
  have f32_F_chunkCount_oR := f23_F_chunkCount_oR.other W32 (Or.inl (Exa.neArv f23_E_oR f23_A_enR (hU 13 _ rfl)))
  have f32_F_firsts_oR := f23_F_firsts_oR.other W32 (Or.inl (Exa.neArv f23_E_oR f23_A_enR (hU 13 _ rfl)))
  have f32_F_withItems_oR := f23_F_withItems_oR.other W32 (Or.inl (Exa.neArv f23_E_oR f23_A_enR (hU 13 _ rfl)))
  have f32_A_ckR := f23_A_ckR.other W32 ne_ckR_enR
  have f32_E_kkR := f23_E_kkR.wr W32
  have f32_F_size_kkR := f23_F_size_kkR.other W32 (Or.inl (Exa.neArv f23_E_kkR f23_A_enR (hU 28 _ rfl)))
  have f32_F_starts_kkR := f23_F_starts_kkR.other W32 (Or.inl (Exa.neArv f23_E_kkR f23_A_enR (hU 28 _ rfl)))
  have f32_A_fiR := f23_A_fiR.other W32 ne_fiR_enR
  have f32_A_saR := v23.other W32 ne_saR_enR
  have f32_F_ends_kkR := f23_F_ends_kkR.other W32 (Or.inl (Exa.neArv f23_E_kkR f23_A_enR (hU 28 _ rfl)))
  have f32_F_items_kkR := f23_F_items_kkR.other W32 (Or.inl (Exa.neArv f23_E_kkR f23_A_enR (hU 28 _ rfl)))
  have f32_A_itR := f23_A_itR.other W32 (Ne.symm ne_enR_itR)
  have f32_E_x1 := f23_E_x1.wr W32
  have z32 : n0 ≤ h32.size := by rw [W32.size]; exact z23
  have K32 : Keep h0 h32 [saR, enR, itR, kkR, fiR] := K23.wr W32 (Or.inl (List.mem_of_getElem? (i := 1) rfl))
  have v32 : Arv Z h32 enR kenR .int (256 : Int32) [(.int e_0), (.int p3), (.int (0 : Int32))] (.int (0 : Int32)) := Arv.set Ar32 q32 S32 n32_ H32 G32 rfl W32 1 rfl (Nat.le_of_ble_eq_true rfl)
  have N32 := Fr.snoc X32 N23 g_enR
  have R33 := fun t k => R31 t (st32 t k)
  have R34 : ∀ t, own_S p e below T32 (mkF m 89 #[rv oR, iv p2, iv p3, rv x1, rv kkR, iv (1 : Int32)] [(.ref kkR)]) t → own_S p e below s₁ f0 t := fun t k => R33 t (by
    refine XS.aload X32.here hx rfl (hb hby d10_87) rfl rfl ?_
    exact k)
  obtain ⟨T35, X35, e35, st35⟩ := getF X32 hx hZ hown (Or.inr (hU 85 _ rfl)) Via.refl e32 f32_F_items_kkR (g := (mkF m 89 #[rv oR, iv p2, iv p3, rv x1, rv kkR, iv (1 : Int32)] [(.ref kkR)])) rfl rfl (hb hby d10_89)
  have R36 := fun t k => R34 t (st35 t k)
  have R37 : ∀ t, own_S p e below T35 (mkF m 95 #[rv oR, iv p2, iv p3, rv x1, rv kkR, iv (1 : Int32)] [(.ref x1), (.int (1 : Int32)), (.ref itR)]) t → own_S p e below s₁ f0 t := fun t k => R36 t (by
    refine XS.iload X35.here hx rfl (hb hby d10_92) rfl  ?_
    refine XS.aloadN X35.here hx rfl (hb hby d10_94) rfl rfl ?_
    exact k)
  obtain ⟨cl38, Ar38, q38, S38, n38_, H38, G38⟩ := id f32_A_itR
  have hin38 : ¬ ((1 : Int32) < 0 ∨ cl38.slots.size ≤ ((1 : Int32)).toNatClampNeg) := inb_of S38 ⟨by decide, by decide⟩
  obtain ⟨T38, h38, X38, e38, W38, st38⟩ := stR X35 hx hZ e35 Ar38 (j := (1 : Int32)) hin38 rfl (Sto.ofV Ar38 q38 ovr_itR (Ins.of_exa f32_E_x1 (hU 86 _ rfl))) (g := (mkF m 95 #[rv oR, iv p2, iv p3, rv x1, rv kkR, iv (1 : Int32)] [(.ref x1), (.int (1 : Int32)), (.ref itR)])) rfl rfl (hb hby d10_95)
  have f38_E_oR := f32_E_oR.wr W38
  have f38_F_chunks_oR := f32_F_chunks_oR.other W38 (Or.inl (Exa.neArv f32_E_oR f32_A_itR (hU 13 _ rfl)))
  have f38_F_chunkCount_oR := f32_F_chunkCount_oR.other W38 (Or.inl (Exa.neArv f32_E_oR f32_A_itR (hU 13 _ rfl)))
  have f38_F_firsts_oR := f32_F_firsts_oR.other W38 (Or.inl (Exa.neArv f32_E_oR f32_A_itR (hU 13 _ rfl)))
  have f38_F_withItems_oR := f32_F_withItems_oR.other W38 (Or.inl (Exa.neArv f32_E_oR f32_A_itR (hU 13 _ rfl)))
  have f38_A_ckR := f32_A_ckR.other W38 ne_ckR_itR
  have f38_E_kkR := f32_E_kkR.wr W38
  have f38_F_size_kkR := f32_F_size_kkR.other W38 (Or.inl (Exa.neArv f32_E_kkR f32_A_itR (hU 28 _ rfl)))
  have f38_F_starts_kkR := f32_F_starts_kkR.other W38 (Or.inl (Exa.neArv f32_E_kkR f32_A_itR (hU 28 _ rfl)))
  have f38_A_fiR := f32_A_fiR.other W38 ne_fiR_itR
  have f38_A_saR := f32_A_saR.other W38 ne_saR_itR
  have f38_F_ends_kkR := f32_F_ends_kkR.other W38 (Or.inl (Exa.neArv f32_E_kkR f32_A_itR (hU 28 _ rfl)))
  have f38_F_items_kkR := f32_F_items_kkR.other W38 (Or.inl (Exa.neArv f32_E_kkR f32_A_itR (hU 28 _ rfl)))
  have f38_A_enR := v32.other W38 ne_enR_itR
  have f38_E_x1 := f32_E_x1.wr W38
  have z38 : n0 ≤ h38.size := by rw [W38.size]; exact z32
  have K38 : Keep h0 h38 [saR, enR, itR, kkR, fiR] := K32.wr W38 (Or.inl (List.mem_of_getElem? (i := 2) rfl))
  have v38 : Arv Z h38 itR kitR (.object "java/lang/Object") (256 : Int32) [(.ref v0), (.ref x1), .null] .null := Arv.set Ar38 q38 S38 n38_ H38 G38 rfl W38 1 rfl (Nat.le_of_ble_eq_true rfl)
  have N38 := Fr.snoc X38 N32 g_itR
  have R39 := fun t k => R37 t (st38 t k)
  have R40 : ∀ t, own_S p e below T38 (mkF m 102 #[rv oR, iv p2, iv p3, rv x1, rv kkR, iv (1 : Int32)] [(.int (2 : Int32)), (.ref kkR)]) t → own_S p e below s₁ f0 t := fun t k => R39 t (by
    refine XS.aload X38.here hx rfl (hb hby d10_96) rfl rfl ?_
    refine XS.iload X38.here hx rfl (hb hby d10_98) rfl  ?_
    refine XS.iconst X38.here hx rfl (hb hby d10_100) ?_
    refine XS.iadd X38.here hx rfl (hb hby d10_101) rfl ?_
    exact k)
  obtain ⟨T41, h41, X41, e41, W41, st41⟩ := putF X38 hx hZ hown (Or.inr (hU 66 _ rfl)) Via.refl e38 f38_F_size_kkR f38_E_kkR (Or.inl (hU 67 _ rfl)) (hU 28 _ rfl) (ty := .int) (by decide) rfl rfl (g := (mkF m 102 #[rv oR, iv p2, iv p3, rv x1, rv kkR, iv (1 : Int32)] [(.int (2 : Int32)), (.ref kkR)])) rfl rfl (hb hby d10_102)
  have fw41 : Fld Z h41 kkR sN1 "size" "I" (.int (2 : Int32)) := f38_F_size_kkR.same W41
  have f41_E_oR := f38_E_oR.wr W41
  have f41_F_chunks_oR := f38_F_chunks_oR.other W41 (Or.inl (Exa.ne f38_E_oR f38_E_kkR (by decide)))
  have f41_F_chunkCount_oR := f38_F_chunkCount_oR.other W41 (Or.inl (Exa.ne f38_E_oR f38_E_kkR (by decide)))
  have f41_F_firsts_oR := f38_F_firsts_oR.other W41 (Or.inl (Exa.ne f38_E_oR f38_E_kkR (by decide)))
  have f41_F_withItems_oR := f38_F_withItems_oR.other W41 (Or.inl (Exa.ne f38_E_oR f38_E_kkR (by decide)))
  have f41_A_ckR := f38_A_ckR.other W41 (Ne.symm (Exa.neArv f38_E_kkR f38_A_ckR (hU 28 _ rfl)))
  have f41_E_kkR := f38_E_kkR.wr W41
  have f41_F_starts_kkR := f38_F_starts_kkR.other W41 (Or.inr (slot_ne (Or.inr (hU 35 _ rfl)) (Or.inl (hU 67 _ rfl)) (by decide) (t := (.array .int)) (t' := .int) (by decide) (by decide)))
  have f41_A_fiR := f38_A_fiR.other W41 (Ne.symm (Exa.neArv f38_E_kkR f38_A_fiR (hU 28 _ rfl)))
  have f41_A_saR := f38_A_saR.other W41 (Ne.symm (Exa.neArv f38_E_kkR f38_A_saR (hU 28 _ rfl)))
  have f41_F_ends_kkR := f38_F_ends_kkR.other W41 (Or.inr (slot_ne (Or.inr (hU 37 _ rfl)) (Or.inl (hU 67 _ rfl)) (by decide) (t := (.array .int)) (t' := .int) (by decide) (by decide)))
  have f41_F_items_kkR := f38_F_items_kkR.other W41 (Or.inr (slot_ne (Or.inr (hU 41 _ rfl)) (Or.inl (hU 67 _ rfl)) (by decide) (t := (.array (.object "java/lang/Object"))) (t' := .int) (by decide) (by decide)))
  have f41_A_enR := f38_A_enR.other W41 (Ne.symm (Exa.neArv f38_E_kkR f38_A_enR (hU 28 _ rfl)))
  have f41_A_itR := v38.other W41 (Ne.symm (Exa.neArv f38_E_kkR v38 (hU 28 _ rfl)))
  have f41_E_x1 := f38_E_x1.wr W41
  have z41 : n0 ≤ h41.size := by rw [W41.size]; exact z38
  have K41 : Keep h0 h41 [saR, enR, itR, kkR, fiR] := K38.wr W41 (Or.inl (List.mem_of_getElem? (i := 3) rfl))
  have N41 := Fr.snoc X41 N38 g_kkR
  have R42 := fun t k => R40 t (st41 t k)
  have R43 : ∀ t, own_S p e below T41 (mkF m 106 #[rv oR, iv p2, iv p3, rv x1, rv kkR, iv (1 : Int32)] [(.ref oR)]) t → own_S p e below s₁ f0 t := fun t k => R42 t (by
    refine XS.aloadN X41.here hx rfl (hb hby d10_105) rfl rfl ?_
    exact k)
  obtain ⟨T44, X44, e44, st44⟩ := getF X41 hx hZ hown (host := "") (Or.inl (hU 20 _ rfl)) Via.refl e41 f41_F_firsts_oR (g := (mkF m 106 #[rv oR, iv p2, iv p3, rv x1, rv kkR, iv (1 : Int32)] [(.ref oR)])) rfl rfl (hb hby d10_106)
  have R45 := fun t k => R43 t (st44 t k)
  have R46 : ∀ t, own_S p e below T44 (mkF m 110 #[rv oR, iv p2, iv p3, rv x1, rv kkR, iv (1 : Int32)] [(.ref oR), (.ref fiR)]) t → own_S p e below s₁ f0 t := fun t k => R45 t (by
    refine XS.aloadN X44.here hx rfl (hb hby d10_109) rfl rfl ?_
    exact k)
  obtain ⟨T47, X47, e47, st47⟩ := getF X44 hx hZ hown (host := "") (Or.inl (hU 22 _ rfl)) Via.refl e44 f41_F_chunkCount_oR (g := (mkF m 110 #[rv oR, iv p2, iv p3, rv x1, rv kkR, iv (1 : Int32)] [(.ref oR), (.ref fiR)])) rfl rfl (hb hby d10_110)
  have R48 := fun t k => R46 t (st47 t k)
  have R49 : ∀ t, own_S p e below T47 (mkF m 117 #[rv oR, iv p2, iv p3, rv x1, rv kkR, iv (1 : Int32)] [(.ref kkR), (.int (0 : Int32)), (.ref fiR)]) t → own_S p e below s₁ f0 t := fun t k => R48 t (by
    refine XS.iconst X47.here hx rfl (hb hby d10_113) ?_
    refine XS.isub X47.here hx rfl (hb hby d10_114) rfl ?_
    refine XS.aload X47.here hx rfl (hb hby d10_115) rfl rfl ?_
    exact k)
  obtain ⟨T50, X50, e50, st50⟩ := getF X47 hx hZ hown (Or.inr (hU 83 _ rfl)) Via.refl e47 f41_F_starts_kkR (g := (mkF m 117 #[rv oR, iv p2, iv p3, rv x1, rv kkR, iv (1 : Int32)] [(.ref kkR), (.int (0 : Int32)), (.ref fiR)])) rfl rfl (hb hby d10_117)
  have R51 := fun t k => R49 t (st50 t k)
  have R52 : ∀ t, own_S p e below T50 (mkF m 121 #[rv oR, iv p2, iv p3, rv x1, rv kkR, iv (1 : Int32)] [(.int (0 : Int32)), (.ref saR), (.int (0 : Int32)), (.ref fiR)]) t → own_S p e below s₁ f0 t := fun t k => R51 t (by
    refine XS.iconst X50.here hx rfl (hb hby d10_120) ?_
    exact k)
  obtain ⟨cl53, Ar53, q53, S53, n53_, H53, G53⟩ := id f41_A_saR
  have hin53 : ¬ ((0 : Int32) < 0 ∨ cl53.slots.size ≤ ((0 : Int32)).toNatClampNeg) := inb_of S53 ⟨by decide, by decide⟩
  have hat53 : cl53.slots[((0 : Int32)).toNatClampNeg]? = some (.int x0) := Has.at H53 hin53 rfl
  have R54 : ∀ t, own_S p e below T50 (mkF m 122 #[rv oR, iv p2, iv p3, rv x1, rv kkR, iv (1 : Int32)] [(.int x0), (.int (0 : Int32)), (.ref fiR)]) t → own_S p e below s₁ f0 t := fun t k => R52 t (X50.iaload hx (j := (0 : Int32)) (v := (.int x0)) (by rw [e50]; exact Ar53.1) (State.isArrayOf_alike hZ.alike Ar53.2.1) Ar53.2.2 hin53 hat53 (g := (mkF m 121 #[rv oR, iv p2, iv p3, rv x1, rv kkR, iv (1 : Int32)] [(.int (0 : Int32)), (.ref saR), (.int (0 : Int32)), (.ref fiR)])) rfl rfl (hb hby d10_121) _ k)
  obtain ⟨cl55, Ar55, q55, S55, n55_, H55, G55⟩ := id f41_A_fiR
  have hin55 : ¬ ((0 : Int32) < 0 ∨ cl55.slots.size ≤ ((0 : Int32)).toNatClampNeg) := inb_of S55 ⟨by decide, by decide⟩
  obtain ⟨T55, h55, X55, e55, W55, st55⟩ := stI X50 hx hZ e50 Ar55 (j := (0 : Int32)) hin55 (g := (mkF m 122 #[rv oR, iv p2, iv p3, rv x1, rv kkR, iv (1 : Int32)] [(.int x0), (.int (0 : Int32)), (.ref fiR)])) rfl rfl (hb hby d10_122)
  have f55_E_oR := f41_E_oR.wr W55
  have f55_F_chunks_oR := f41_F_chunks_oR.other W55 (Or.inl (Exa.neArv f41_E_oR f41_A_fiR (hU 13 _ rfl)))
  have f55_F_chunkCount_oR := f41_F_chunkCount_oR.other W55 (Or.inl (Exa.neArv f41_E_oR f41_A_fiR (hU 13 _ rfl)))
  have f55_F_firsts_oR := f41_F_firsts_oR.other W55 (Or.inl (Exa.neArv f41_E_oR f41_A_fiR (hU 13 _ rfl)))
  have f55_F_withItems_oR := f41_F_withItems_oR.other W55 (Or.inl (Exa.neArv f41_E_oR f41_A_fiR (hU 13 _ rfl)))
  have f55_A_ckR := f41_A_ckR.other W55 (Ne.symm ne_fiR_ckR)
  have f55_E_kkR := f41_E_kkR.wr W55
  have f55_F_size_kkR := fw41.other W55 (Or.inl (Exa.neArv f41_E_kkR f41_A_fiR (hU 28 _ rfl)))
  have f55_F_starts_kkR := f41_F_starts_kkR.other W55 (Or.inl (Exa.neArv f41_E_kkR f41_A_fiR (hU 28 _ rfl)))
  have f55_A_saR := f41_A_saR.other W55 (Ne.symm ne_fiR_saR)
  have f55_F_ends_kkR := f41_F_ends_kkR.other W55 (Or.inl (Exa.neArv f41_E_kkR f41_A_fiR (hU 28 _ rfl)))
  have f55_F_items_kkR := f41_F_items_kkR.other W55 (Or.inl (Exa.neArv f41_E_kkR f41_A_fiR (hU 28 _ rfl)))
  have f55_A_enR := f41_A_enR.other W55 (Ne.symm ne_fiR_enR)
  have f55_A_itR := f41_A_itR.other W55 (Ne.symm ne_fiR_itR)
  have f55_E_x1 := f41_E_x1.wr W55
  have z55 : n0 ≤ h55.size := by rw [W55.size]; exact z41
  have K55 : Keep h0 h55 [saR, enR, itR, kkR, fiR] := K41.wr W55 (Or.inl (List.mem_of_getElem? (i := 4) rfl))
  have v55 : Arv Z h55 fiR kfiR .int (1 : Int32) [(.int x0)] (.int (0 : Int32)) := Arv.set Ar55 q55 S55 n55_ H55 G55 rfl W55 0 rfl (Nat.le_of_ble_eq_true rfl)
  have N55 := Fr.snoc X55 N41 g_fiR
  have R56 := fun t k => R54 t (st55 t k)
  have R57 : ∀ t, own_S p e below T55 (mkF m 124 #[rv oR, iv p2, iv p3, rv x1, rv kkR, iv (1 : Int32)] [(.int (1 : Int32))]) t → own_S p e below s₁ f0 t := fun t k => R56 t (by
    refine XS.iconst X55.here hx rfl (hb hby d10_123) ?_
    exact k)
  obtain ⟨fs, hr, hrun, hended, hW, hsame⟩ := X55.leave (v := some (.int (1 : Int32))) (fun h => by rw [Bd.returns] at h; cases h)
  refine ⟨_, _, pre0 _ (R57 _ ?_), hrun, hended, _, _, rfl, ?_, ⟨_, rfl⟩, hW, hsame.mono (by decide) (by decide)⟩
  · show own_S p e below T55 (mkF m 124 #[rv oR, iv p2, iv p3, rv x1, rv kkR, iv (1 : Int32)] [(.int (1 : Int32))]) _
    exact retN X55 hx (t := .boolean) Bd.returns (by simp) (hb hby d10_124) hr
  · show Q_rmApp1_1 Z oR p2 p3 x1 ckR kckR kkR fiR kfiR saR kstR enR kenR itR kitR x0 e_0 v0 h0 n0 _ T55.heap _
    rw [e55]
    exact ⟨rfl, N55, K55, f55_F_size_kkR, f55_F_starts_kkR, v55, f55_A_saR, f55_F_ends_kkR, f55_F_items_kkR, f55_A_enR, f55_A_itR⟩
theorem ef_rmFadd1_1 (m : MethodId) (x0 : Addr) (x1 : Int64) (x2 : Int32) (x3 : Int32) (x4 : Addr) : entryFrame m #[(.ref x0), (.long x1), (.int x2), (.int x3), (.ref x4)] 6 = mkF m 0 #[rv x0, own_l x1, .second, iv x2, iv x3, rv x4] [] := by first | (simp [entryFrame, mkF, argsToLocals, Value.category]; done) | rfl
def Q_rmFadd1_1 (Z : State) (a1 : Addr) (p2 : Int32) (p3 : Int32) (x1 : Addr) (oR : Addr) (ckR : Addr) (kckR : ClassId) (kkR : Addr) (fiR : Addr) (kfiR : ClassId) (saR : Addr) (kstR : ClassId) (enR : Addr) (kenR : ClassId) (itR : Addr) (kitR : ClassId) (x0 : Int32) (e_0 : Int32) (v0 : Addr) (oU : Addr) (ckU : Addr) (kckU : ClassId) (kkU : Addr) (h0 : Heap) (n0 : Nat) (v : Option Value) (h : Heap) (L : List Loc) : Prop := v = none ∧ Fr n0 L ∧ Keep h0 h [saR, enR, itR, kkR, fiR] ∧ (Fld Z h kkR sN1 "size" "I" (.int (2 : Int32))) ∧ (Fld Z h kkR sN1 "starts" "[I" (.ref saR)) ∧ (Arv Z h fiR kfiR .int (1 : Int32) [(.int x0)] (.int (0 : Int32))) ∧ (Arv Z h saR kstR .int (256 : Int32) [(.int x0), (.int p2), (.int (0 : Int32))] (.int (0 : Int32))) ∧ (Fld Z h kkR sN1 "ends" "[I" (.ref enR)) ∧ (Fld Z h kkR sN1 "items" "[Ljava/lang/Object;" (.ref itR)) ∧ (Arv Z h enR kenR .int (256 : Int32) [(.int e_0), (.int p3), (.int (0 : Int32))] (.int (0 : Int32))) ∧ (Arv Z h itR kitR (.object "java/lang/Object") (256 : Int32) [(.ref v0), (.ref x1), .null] .null)
set_option maxRecDepth 65536 in
set_option maxHeartbeats 40000000 in
theorem rmFadd1_1 (l : Launch) (Z : State) (a0 : Array Value) (hw : ∀ d ∈ tables_1, d.before a0 Z = true) (ws : List Jvm.Cond) (a1 : Addr) (p2 : Int32) (p3 : Int32) (x1 : Addr) (oR : Addr) (ckR : Addr) (kckR : ClassId) (kkR : Addr) (fiR : Addr) (kfiR : ClassId) (saR : Addr) (kstR : ClassId) (enR : Addr) (kenR : ClassId) (itR : Addr) (kitR : ClassId) (x0 : Int32) (e_0 : Int32) (v0 : Addr) (oU : Addr) (ckU : Addr) (kckU : ClassId) (kkU : Addr) (h0 : Heap) (n0 : Nat) (Z0 : n0 ≤ h0.size) (F_read_a1 : Fld Z h0 a1 sN2 "read" sN4 (.ref oR)) (F_unread_a1 : Fld Z h0 a1 sN2 "unread" sN4 (.ref oU)) (E_oR : Exa Z h0 oR sN0) (F_chunks_oR : Fld Z h0 oR sN0 "chunks" sN3 (.ref ckR)) (F_chunkCount_oR : Fld Z h0 oR sN0 "chunkCount" "I" (.int (1 : Int32))) (F_firsts_oR : Fld Z h0 oR sN0 "firsts" "[I" (.ref fiR)) (F_withItems_oR : Fld Z h0 oR sN0 "withItems" "Z" (.int (1 : Int32))) (A_ckR : Arv Z h0 ckR kckR (.object sN1) (1 : Int32) [(.ref kkR)] .null) (E_kkR : Exa Z h0 kkR sN1) (F_size_kkR : Fld Z h0 kkR sN1 "size" "I" (.int (1 : Int32))) (F_starts_kkR : Fld Z h0 kkR sN1 "starts" "[I" (.ref saR)) (A_fiR : Arv Z h0 fiR kfiR .int (1 : Int32) [(.int x0)] (.int (0 : Int32))) (A_saR : Arv Z h0 saR kstR .int (256 : Int32) [(.int x0), (.int (0 : Int32)), (.int (0 : Int32))] (.int (0 : Int32))) (F_ends_kkR : Fld Z h0 kkR sN1 "ends" "[I" (.ref enR)) (F_items_kkR : Fld Z h0 kkR sN1 "items" "[Ljava/lang/Object;" (.ref itR)) (A_enR : Arv Z h0 enR kenR .int (256 : Int32) [(.int e_0), (.int (0 : Int32)), (.int (0 : Int32))] (.int (0 : Int32))) (A_itR : Arv Z h0 itR kitR (.object "java/lang/Object") (256 : Int32) [(.ref v0), .null, .null] .null) (E_x1 : Exa Z h0 x1 "java/lang/Integer") (E_v0 : Exa Z h0 v0 "java/lang/Integer") (g_fiR : n0 ≤ fiR) (g_ckR : n0 ≤ ckR) (g_saR : n0 ≤ saR) (g_enR : n0 ≤ enR) (g_itR : n0 ≤ itR) (g_kkR : n0 ≤ kkR) (ne_fiR_ckR : fiR ≠ ckR) (ne_fiR_saR : fiR ≠ saR) (ne_fiR_enR : fiR ≠ enR) (ne_fiR_itR : fiR ≠ itR) (ne_ckR_saR : ckR ≠ saR) (ne_ckR_enR : ckR ≠ enR) (ne_ckR_itR : ckR ≠ itR) (ne_saR_enR : saR ≠ enR) (ne_saR_itR : saR ≠ itR) (ne_enR_itR : enR ≠ itR) (ovr_itR : Ovr Z kitR "java/lang/Object") (E_oU : Exa Z h0 oU sN0) (F_chunks_oU : Fld Z h0 oU sN0 "chunks" sN3 (.ref ckU)) (A_ckU : Arv Z h0 ckU kckU (.object sN1) (1 : Int32) [(.ref kkU)] .null) (E_kkU : Exa Z h0 kkU sN1) (F_size_kkU : Fld Z h0 kkU sN1 "size" "I" (.int (0 : Int32))) (E_a1 : Exa Z h0 a1 sN2) (ne_ckU_saR : ckU ≠ saR) (ne_ckU_enR : ckU ≠ enR) (ne_ckU_itR : ckU ≠ itR) (ne_ckU_fiR : ckU ≠ fiR) (ne_kkU_kkR : kkU ≠ kkR) (ho0 : x0 < p2) :
    own_M l (⟨sN2, "add", sN5⟩ : MethodName) (Jvm.Cond.code (⟨sN2, "add", sN5⟩ : MethodName) prog_116_method_9_code 6 none :: ws) ({ frames := 1, cells := 0, slots := 0, locals := 17 } : Room) #[(.ref a1), (.long (257 : Int64)), (.int p2), (.int p3), (.ref x1)] Z h0 (Q_rmFadd1_1 Z a1 p2 p3 x1 oR ckR kckR kkR fiR kfiR saR kstR enR kenR itR kitR x0 e_0 v0 oU ckU kckU kkU h0 n0) := by
  refine MetFree.of_bodySF (plainFor_of_name pn_3) hisR ?_
  intro p e s m args below meth c s₁ Bd hml0 hP hK
  obtain ⟨rfl, hZ, hh⟩ := hP
  have hx := Bd.exec
  have hby := Bd.bytes
  have hml : c.maxLocals = 6 := hml0
  have hown : s.vm.findClass sN2 = some m.cls := findClass_of_methodNamed Bd.named
  have hnm := (name_of_methodNamed Bd.named Bd.method).1
  have X0 : Stand p l e ({ frames := 1, cells := 0, slots := 0, locals := 17 } : Room) s m #[(.ref a1), (.long (257 : Int64)), (.int p2), (.int p3), (.ref x1)] below meth c s₁ [] 0 0 := Stand.of_body Bd
  have hU : ∀ (i : Nat) (d : Jvm.Cond), tables_1[i]? = some d → d.before a0 Z = true := fun i d h => hw d (List.mem_of_getElem? h)
  have e0 : s₁.heap = h0 := by rw [← hh, Bd.state]; rfl
  have N0 := Fr.nil n0
  obtain ⟨f0, hf0⟩ : ∃ f : JFrame, f = mkF m 0 #[rv a1, own_l (257 : Int64), .second, iv p2, iv p3, rv x1] [] := ⟨_, rfl⟩
  have pre0 : ∀ t, own_S p e below s₁ f0 t → Steps p.tables e below (s₁.setTop (entryFrame m #[(.ref a1), (.long (257 : Int64)), (.int p2), (.int p3), (.ref x1)] 6)) t := fun t k => castTop ((ef_rmFadd1_1 m a1 (257 : Int64) p2 p3 x1).trans hf0.symm) k
  have R0 : ∀ t, own_S p e below s₁ (mkF m 0 #[rv a1, own_l (257 : Int64), .second, iv p2, iv p3, rv x1] []) t → own_S p e below s₁ f0 t := by rw [hf0]; exact fun t k => k
  have R1 : ∀ t, own_S p e below s₁ (mkF m 6 #[rv a1, own_l (257 : Int64), .second, iv p2, iv p3, rv x1] [(.ref a1)]) t → own_S p e below s₁ f0 t := fun t k => R0 t (by
    refine XS.aload X0.here hx rfl (hb hby d9_0) rfl rfl ?_
    refine XS.ifnullNo X0.here hx rfl (hb hby d9_2) rfl ?_
    refine XS.aloadN X0.here hx rfl (hb hby d9_5) rfl rfl ?_
    exact k)
  obtain ⟨T2, X2, e2, st2⟩ := getF X0 hx hZ hown (host := "") (Or.inl (hU 47 _ rfl)) Via.refl e0 F_unread_a1 (g := (mkF m 6 #[rv a1, own_l (257 : Int64), .second, iv p2, iv p3, rv x1] [(.ref a1)])) rfl rfl (hb hby d9_6)
  have R3 := fun t k => R1 t (st2 t k)
  obtain ⟨cq4, kq4, q4a, q4b, q4c⟩ := isOf hZ e2 E_oU
  obtain ⟨_, _, ⟨T4, L4, k4, n4⟩, -, X4, ⟨Lc4, hQ4, l4, y4, z4⟩, st4⟩ := X2.virtualBack hx (y := (⟨sN0, "isEmpty", "()Z"⟩ : MethodName)) (z := (⟨sN0, "isEmpty", "()Z"⟩ : MethodName)) hown (mvT hZ (hU 68 _ rfl)) (mvT hZ (hU 69 _ rfl)) (notFace_of_selects (args := #[]) (mvT hZ (hU 71 _ rfl))) (mvT hZ (hU 71 _ rfl)) (mvT hZ (hU 70 _ rfl)) (by decide) (backOf (W := 0) (rmEmp0 l Z a0 hw [] oU ckU kckU kkU h0 n0 Z0 F_chunks_oU A_ckU F_size_kkU) hZ (hU 72 _ rfl) (hU 14 _ rfl) (by decide) (by decide)) q4a q4c (g := (mkF m 9 #[rv a1, own_l (257 : Int64), .second, iv p2, iv p3, rv x1] [(.ref oU)])) rfl (by rw [hml]; rfl) (Steps.refl _) (argsL := []) (rest := []) (lenOf pd_6 rfl) rfl (Nat.le_of_eq rfl) (hb hby d9_9) (fun _ _ => ⟨rfl, e2, (by decide : 0 + 0 ≤ _), (by decide : 0 + 0 ≤ _)⟩)
  dsimp only [Pt.U, Pt.locs, Pt.cells, Pt.slots] at X4 l4 y4 z4 st4 hQ4
  subst l4 y4 z4
  obtain ⟨rfl, N4q, p4_0⟩ := hQ4
  have N4 := Fr.app N0 N4q
  have R5 := fun t k => R3 t (st4.trans k)
  have R6 : ∀ t, own_S p e below T4 (mkF m 16 #[rv a1, own_l (257 : Int64), .second, iv p2, iv p3, rv x1] [(.ref a1)]) t → own_S p e below s₁ f0 t := fun t k => R5 t (by
    refine XS.ifNo X4.here hx rfl (hb hby d9_12) rfl ((if0 _ _).trans (feq (by decide : ¬ ((1 : Int32) = (0 : Int32)))).1) ?_
    refine XS.aloadN X4.here hx rfl (hb hby d9_15) rfl rfl ?_
    exact k)
  obtain ⟨T7, X7, e7, st7⟩ := getF X4 hx hZ hown (host := "") (Or.inl (hU 45 _ rfl)) Via.refl p4_0 F_read_a1 (g := (mkF m 16 #[rv a1, own_l (257 : Int64), .second, iv p2, iv p3, rv x1] [(.ref a1)])) rfl rfl (hb hby d9_16)
  have R8 := fun t k => R6 t (st7 t k)
  have R9 : ∀ t, own_S p e below T7 (mkF m 24 #[rv a1, own_l (257 : Int64), .second, iv p2, iv p3, rv x1] [(.ref x1), (.int p3), (.int p2), (.ref oR)]) t → own_S p e below s₁ f0 t := fun t k => R8 t (by
    refine XS.iloadN X7.here hx rfl (hb hby d9_19) rfl  ?_
    refine XS.iload X7.here hx rfl (hb hby d9_20) rfl  ?_
    refine XS.aload X7.here hx rfl (hb hby d9_22) rfl rfl ?_
    exact k)
  obtain ⟨cq10, kq10, q10a, q10b, q10c⟩ := isOf hZ e7 E_oR
  obtain ⟨_, _, ⟨T10, L10, k10, n10⟩, -, X10, ⟨Lc10, hQ10, l10, y10, z10⟩, st10⟩ := X7.virtualBack hx (y := (⟨sN0, "append", sN6⟩ : MethodName)) (z := (⟨sN0, "append", sN6⟩ : MethodName)) hown (mvT hZ (hU 78 _ rfl)) (mvT hZ (hU 79 _ rfl)) (notFace_of_selects (args := #[]) (mvT hZ (hU 81 _ rfl))) (mvT hZ (hU 81 _ rfl)) (mvT hZ (hU 80 _ rfl)) (by decide) (backOf (W := 0) (rmApp1_1 l Z a0 hw [] oR p2 p3 x1 ckR kckR kkR fiR kfiR saR kstR enR kenR itR kitR x0 e_0 v0 h0 n0 Z0 E_oR F_chunks_oR F_chunkCount_oR F_firsts_oR F_withItems_oR A_ckR E_kkR F_size_kkR F_starts_kkR A_fiR A_saR F_ends_kkR F_items_kkR A_enR A_itR E_x1 g_fiR g_ckR g_saR g_enR g_itR g_kkR ne_fiR_ckR ne_fiR_saR ne_fiR_enR ne_fiR_itR ne_ckR_saR ne_ckR_enR ne_ckR_itR ne_saR_enR ne_saR_itR ne_enR_itR ovr_itR ho0) hZ (hU 82 _ rfl) (hU 14 _ rfl) (by decide) (by decide)) q10a q10c (g := (mkF m 24 #[rv a1, own_l (257 : Int64), .second, iv p2, iv p3, rv x1] [(.ref x1), (.int p3), (.int p2), (.ref oR)])) rfl (by rw [hml]; rfl) (Steps.refl _) (argsL := [(.int p2), (.int p3), (.ref x1)]) (rest := []) (lenOf pd_11 rfl) rfl (Nat.le_of_eq rfl) (hb hby d9_24) (fun _ _ => ⟨rfl, e7, (by decide : 0 + 0 ≤ _), (by decide : 0 + 0 ≤ _)⟩)
  dsimp only [Pt.U, Pt.locs, Pt.cells, Pt.slots] at X10 l10 y10 z10 st10 hQ10
  subst l10 y10 z10
  obtain ⟨rfl, N10q, p10_0, p10_1, p10_2, p10_3, p10_4, p10_5, p10_6, p10_7, p10_8⟩ := hQ10
  have N10 := Fr.app N4 N10q
  have f10_F_read_a1 := F_read_a1.keep p10_0 (ninS (Exa.neArv E_a1 A_saR (hU 4 _ rfl)) (ninS (Exa.neArv E_a1 A_enR (hU 4 _ rfl)) (ninS (Exa.neArv E_a1 A_itR (hU 4 _ rfl)) (ninS (Exa.ne E_a1 E_kkR (by decide)) (ninS (Exa.neArv E_a1 A_fiR (hU 4 _ rfl)) nin0)))))
  have f10_F_unread_a1 := F_unread_a1.keep p10_0 (ninS (Exa.neArv E_a1 A_saR (hU 4 _ rfl)) (ninS (Exa.neArv E_a1 A_enR (hU 4 _ rfl)) (ninS (Exa.neArv E_a1 A_itR (hU 4 _ rfl)) (ninS (Exa.ne E_a1 E_kkR (by decide)) (ninS (Exa.neArv E_a1 A_fiR (hU 4 _ rfl)) nin0)))))
  have f10_E_oR := E_oR.keep p10_0
  have f10_F_chunks_oR := F_chunks_oR.keep p10_0 (ninS (Exa.neArv E_oR A_saR (hU 13 _ rfl)) (ninS (Exa.neArv E_oR A_enR (hU 13 _ rfl)) (ninS (Exa.neArv E_oR A_itR (hU 13 _ rfl)) (ninS (Exa.ne E_oR E_kkR (by decide)) (ninS (Exa.neArv E_oR A_fiR (hU 13 _ rfl)) nin0)))))
  have f10_F_chunkCount_oR := F_chunkCount_oR.keep p10_0 (ninS (Exa.neArv E_oR A_saR (hU 13 _ rfl)) (ninS (Exa.neArv E_oR A_enR (hU 13 _ rfl)) (ninS (Exa.neArv E_oR A_itR (hU 13 _ rfl)) (ninS (Exa.ne E_oR E_kkR (by decide)) (ninS (Exa.neArv E_oR A_fiR (hU 13 _ rfl)) nin0)))))
  have f10_F_firsts_oR := F_firsts_oR.keep p10_0 (ninS (Exa.neArv E_oR A_saR (hU 13 _ rfl)) (ninS (Exa.neArv E_oR A_enR (hU 13 _ rfl)) (ninS (Exa.neArv E_oR A_itR (hU 13 _ rfl)) (ninS (Exa.ne E_oR E_kkR (by decide)) (ninS (Exa.neArv E_oR A_fiR (hU 13 _ rfl)) nin0)))))
  have f10_F_withItems_oR := F_withItems_oR.keep p10_0 (ninS (Exa.neArv E_oR A_saR (hU 13 _ rfl)) (ninS (Exa.neArv E_oR A_enR (hU 13 _ rfl)) (ninS (Exa.neArv E_oR A_itR (hU 13 _ rfl)) (ninS (Exa.ne E_oR E_kkR (by decide)) (ninS (Exa.neArv E_oR A_fiR (hU 13 _ rfl)) nin0)))))
  have f10_A_ckR := A_ckR.keep p10_0 (ninS ne_ckR_saR (ninS ne_ckR_enR (ninS ne_ckR_itR (ninS (Ne.symm (Exa.neArv E_kkR A_ckR (hU 28 _ rfl))) (ninS (Ne.symm ne_fiR_ckR) nin0)))))
  have f10_E_kkR := E_kkR.keep p10_0
  have f10_E_x1 := E_x1.keep p10_0
  have f10_E_v0 := E_v0.keep p10_0
  have f10_E_oU := E_oU.keep p10_0
  have f10_F_chunks_oU := F_chunks_oU.keep p10_0 (ninS (Exa.neArv E_oU A_saR (hU 13 _ rfl)) (ninS (Exa.neArv E_oU A_enR (hU 13 _ rfl)) (ninS (Exa.neArv E_oU A_itR (hU 13 _ rfl)) (ninS (Exa.ne E_oU E_kkR (by decide)) (ninS (Exa.neArv E_oU A_fiR (hU 13 _ rfl)) nin0)))))
  have f10_A_ckU := A_ckU.keep p10_0 (ninS ne_ckU_saR (ninS ne_ckU_enR (ninS ne_ckU_itR (ninS (Ne.symm (Exa.neArv E_kkR A_ckU (hU 28 _ rfl))) (ninS ne_ckU_fiR nin0)))))
  have f10_E_kkU := E_kkU.keep p10_0
  have f10_F_size_kkU := F_size_kkU.keep p10_0 (ninS (Exa.neArv E_kkU A_saR (hU 28 _ rfl)) (ninS (Exa.neArv E_kkU A_enR (hU 28 _ rfl)) (ninS (Exa.neArv E_kkU A_itR (hU 28 _ rfl)) (ninS ne_kkU_kkR (ninS (Exa.neArv E_kkU A_fiR (hU 28 _ rfl)) nin0)))))
  have f10_E_a1 := E_a1.keep p10_0
  have z10 : n0 ≤ T10.heap.size := Nat.le_trans Z0 p10_0.1
  have K10 : Keep h0 T10.heap [saR, enR, itR, kkR, fiR] := (Keep.refl h0 [saR, enR, itR, kkR, fiR]).trans p10_0 (allS (Or.inl (List.mem_of_getElem? (i := 0) rfl)) (allS (Or.inl (List.mem_of_getElem? (i := 1) rfl)) (allS (Or.inl (List.mem_of_getElem? (i := 2) rfl)) (allS (Or.inl (List.mem_of_getElem? (i := 3) rfl)) (allS (Or.inl (List.mem_of_getElem? (i := 4) rfl)) all0)))))
  have R11 := fun t k => R9 t (st10.trans k)
  have R12 : ∀ t, own_S p e below T10 (mkF m 30 #[rv a1, own_l (257 : Int64), .second, iv p2, iv p3, rv x1] []) t → own_S p e below s₁ f0 t := fun t k => R11 t (by
    refine XS.ifNo X10.here hx rfl (hb hby d9_27) rfl ((if0 _ _).trans (feq (by decide : ¬ ((1 : Int32) = (0 : Int32)))).1) ?_
    exact k)
  obtain ⟨fs, hr, hrun, hended, hW, hsame⟩ := X10.leave (v := none) (fun _ => rfl)
  refine ⟨_, _, pre0 _ (R12 _ ?_), hrun, hended, _, _, rfl, ?_, ⟨_, rfl⟩, hW, hsame.mono (by decide) (by decide)⟩
  · show own_S p e below T10 (mkF m 30 #[rv a1, own_l (257 : Int64), .second, iv p2, iv p3, rv x1] []) _
    exact X10.returnOut hx Bd.returns (hb hby d9_30) hr
  · show Q_rmFadd1_1 Z a1 p2 p3 x1 oR ckR kckR kkR fiR kfiR saR kstR enR kenR itR kitR x0 e_0 v0 oU ckU kckU kkU h0 n0 _ T10.heap _
    exact ⟨rfl, N10, K10, p10_1, p10_2, p10_3, p10_4, p10_5, p10_6, p10_7, p10_8⟩
theorem ef_rmApp1_0 (m : MethodId) (x0 : Addr) (x1 : Int32) (x2 : Int32) (x3 : Addr) : entryFrame m #[(.ref x0), (.int x1), (.int x2), (.ref x3)] 6 = mkF m 0 #[rv x0, iv x1, iv x2, rv x3, .unset, .unset] [] := by first | (simp [entryFrame, mkF, argsToLocals, Value.category]; done) | rfl
def Q_rmApp1_0 (Z : State) (oR : Addr) (p2 : Int32) (p3 : Int32) (x1 : Addr) (ckR : Addr) (kckR : ClassId) (kkR : Addr) (fiR : Addr) (kfiR : ClassId) (saR : Addr) (kstR : ClassId) (enR : Addr) (kenR : ClassId) (itR : Addr) (kitR : ClassId) (x0 : Int32) (e_0 : Int32) (v0 : Addr) (h0 : Heap) (n0 : Nat) (v : Option Value) (h : Heap) (L : List Loc) : Prop := v = some (.int (0 : Int32)) ∧ Fr n0 L ∧ h = h0
set_option maxRecDepth 65536 in
set_option maxHeartbeats 40000000 in
theorem rmApp1_0 (l : Launch) (Z : State) (a0 : Array Value) (hw : ∀ d ∈ tables_1, d.before a0 Z = true) (ws : List Jvm.Cond) (oR : Addr) (p2 : Int32) (p3 : Int32) (x1 : Addr) (ckR : Addr) (kckR : ClassId) (kkR : Addr) (fiR : Addr) (kfiR : ClassId) (saR : Addr) (kstR : ClassId) (enR : Addr) (kenR : ClassId) (itR : Addr) (kitR : ClassId) (x0 : Int32) (e_0 : Int32) (v0 : Addr) (h0 : Heap) (n0 : Nat) (Z0 : n0 ≤ h0.size) (E_oR : Exa Z h0 oR sN0) (F_chunks_oR : Fld Z h0 oR sN0 "chunks" sN3 (.ref ckR)) (F_chunkCount_oR : Fld Z h0 oR sN0 "chunkCount" "I" (.int (1 : Int32))) (F_firsts_oR : Fld Z h0 oR sN0 "firsts" "[I" (.ref fiR)) (F_withItems_oR : Fld Z h0 oR sN0 "withItems" "Z" (.int (1 : Int32))) (A_ckR : Arv Z h0 ckR kckR (.object sN1) (1 : Int32) [(.ref kkR)] .null) (E_kkR : Exa Z h0 kkR sN1) (F_size_kkR : Fld Z h0 kkR sN1 "size" "I" (.int (1 : Int32))) (F_starts_kkR : Fld Z h0 kkR sN1 "starts" "[I" (.ref saR)) (A_fiR : Arv Z h0 fiR kfiR .int (1 : Int32) [(.int x0)] (.int (0 : Int32))) (A_saR : Arv Z h0 saR kstR .int (256 : Int32) [(.int x0), (.int (0 : Int32)), (.int (0 : Int32))] (.int (0 : Int32))) (F_ends_kkR : Fld Z h0 kkR sN1 "ends" "[I" (.ref enR)) (F_items_kkR : Fld Z h0 kkR sN1 "items" "[Ljava/lang/Object;" (.ref itR)) (A_enR : Arv Z h0 enR kenR .int (256 : Int32) [(.int e_0), (.int (0 : Int32)), (.int (0 : Int32))] (.int (0 : Int32))) (A_itR : Arv Z h0 itR kitR (.object "java/lang/Object") (256 : Int32) [(.ref v0), .null, .null] .null) (E_x1 : Exa Z h0 x1 "java/lang/Integer") (g_fiR : n0 ≤ fiR) (g_ckR : n0 ≤ ckR) (g_saR : n0 ≤ saR) (g_enR : n0 ≤ enR) (g_itR : n0 ≤ itR) (g_kkR : n0 ≤ kkR) (ne_fiR_ckR : fiR ≠ ckR) (ne_fiR_saR : fiR ≠ saR) (ne_fiR_enR : fiR ≠ enR) (ne_fiR_itR : fiR ≠ itR) (ne_ckR_saR : ckR ≠ saR) (ne_ckR_enR : ckR ≠ enR) (ne_ckR_itR : ckR ≠ itR) (ne_saR_enR : saR ≠ enR) (ne_saR_itR : saR ≠ itR) (ne_enR_itR : enR ≠ itR) (ovr_itR : Ovr Z kitR "java/lang/Object") (ho0 : p2 < x0) :
    own_M l (⟨sN0, "append", sN6⟩ : MethodName) (Jvm.Cond.code (⟨sN0, "append", sN6⟩ : MethodName) prog_118_method_5_code 6 (some .boolean) :: ws) ({ frames := 0, cells := 0, slots := 0, locals := 0 } : Room) #[(.ref oR), (.int p2), (.int p3), (.ref x1)] Z h0 (Q_rmApp1_0 Z oR p2 p3 x1 ckR kckR kkR fiR kfiR saR kstR enR kenR itR kitR x0 e_0 v0 h0 n0) := by
  refine MetFree.of_bodySF (plainFor_of_name pn_1) hisR ?_
  intro p e s m args below meth c s₁ Bd hml0 hP hK
  obtain ⟨rfl, hZ, hh⟩ := hP
  have hx := Bd.exec
  have hby := Bd.bytes
  have hml : c.maxLocals = 6 := hml0
  have hown : s.vm.findClass sN0 = some m.cls := findClass_of_methodNamed Bd.named
  have hnm := (name_of_methodNamed Bd.named Bd.method).1
  have X0 : Stand p l e ({ frames := 0, cells := 0, slots := 0, locals := 0 } : Room) s m #[(.ref oR), (.int p2), (.int p3), (.ref x1)] below meth c s₁ [] 0 0 := Stand.of_body Bd
  have hU : ∀ (i : Nat) (d : Jvm.Cond), tables_1[i]? = some d → d.before a0 Z = true := fun i d h => hw d (List.mem_of_getElem? h)
  have e0 : s₁.heap = h0 := by rw [← hh, Bd.state]; rfl
  have N0 := Fr.nil n0
  obtain ⟨f0, hf0⟩ : ∃ f : JFrame, f = mkF m 0 #[rv oR, iv p2, iv p3, rv x1, .unset, .unset] [] := ⟨_, rfl⟩
  have pre0 : ∀ t, own_S p e below s₁ f0 t → Steps p.tables e below (s₁.setTop (entryFrame m #[(.ref oR), (.int p2), (.int p3), (.ref x1)] 6)) t := fun t k => castTop ((ef_rmApp1_0 m oR p2 p3 x1).trans hf0.symm) k
  have R0 : ∀ t, own_S p e below s₁ (mkF m 0 #[rv oR, iv p2, iv p3, rv x1, .unset, .unset] []) t → own_S p e below s₁ f0 t := by rw [hf0]; exact fun t k => k
  have R1 : ∀ t, own_S p e below s₁ (mkF m 1 #[rv oR, iv p2, iv p3, rv x1, .unset, .unset] [(.ref oR)]) t → own_S p e below s₁ f0 t := fun t k => R0 t (by
    refine XS.aloadN X0.here hx rfl (hb hby d10_0) rfl rfl ?_
    exact k)
  obtain ⟨T2, X2, e2, st2⟩ := getF X0 hx hZ hown (host := "") (Or.inl (hU 43 _ rfl)) Via.refl e0 F_chunks_oR (g := (mkF m 1 #[rv oR, iv p2, iv p3, rv x1, .unset, .unset] [(.ref oR)])) rfl rfl (hb hby d10_1)
  have R3 := fun t k => R1 t (st2 t k)
  have R4 : ∀ t, own_S p e below T2 (mkF m 5 #[rv oR, iv p2, iv p3, rv x1, .unset, .unset] [(.ref oR), (.ref ckR)]) t → own_S p e below s₁ f0 t := fun t k => R3 t (by
    refine XS.aloadN X2.here hx rfl (hb hby d10_4) rfl rfl ?_
    exact k)
  obtain ⟨T5, X5, e5, st5⟩ := getF X2 hx hZ hown (host := "") (Or.inl (hU 22 _ rfl)) Via.refl e2 F_chunkCount_oR (g := (mkF m 5 #[rv oR, iv p2, iv p3, rv x1, .unset, .unset] [(.ref oR), (.ref ckR)])) rfl rfl (hb hby d10_5)
  have R6 := fun t k => R4 t (st5 t k)
  have R7 : ∀ t, own_S p e below T5 (mkF m 10 #[rv oR, iv p2, iv p3, rv x1, .unset, .unset] [(.int (0 : Int32)), (.ref ckR)]) t → own_S p e below s₁ f0 t := fun t k => R6 t (by
    refine XS.iconst X5.here hx rfl (hb hby d10_8) ?_
    refine XS.isub X5.here hx rfl (hb hby d10_9) rfl ?_
    exact k)
  obtain ⟨cl8, Ar8, q8, S8, n8_, H8, G8⟩ := id A_ckR
  have hin8 : ¬ ((0 : Int32) < 0 ∨ cl8.slots.size ≤ ((0 : Int32)).toNatClampNeg) := inb_of S8 ⟨by decide, by decide⟩
  have hat8 : cl8.slots[((0 : Int32)).toNatClampNeg]? = some (.ref kkR) := Has.at H8 hin8 rfl
  have R9 : ∀ t, own_S p e below T5 (mkF m 11 #[rv oR, iv p2, iv p3, rv x1, .unset, .unset] [(.ref kkR)]) t → own_S p e below s₁ f0 t := fun t k => R7 t (X5.aaload hx (j := (0 : Int32)) (v := (.ref kkR)) (by rw [e5]; exact Ar8.1) (State.isArrayOf_alike hZ.alike Ar8.2.1) rfl Ar8.2.2 hin8 hat8 (g := (mkF m 10 #[rv oR, iv p2, iv p3, rv x1, .unset, .unset] [(.int (0 : Int32)), (.ref ckR)])) rfl rfl (hb hby d10_10) _ k)
  have R10 : ∀ t, own_S p e below T5 (mkF m 15 #[rv oR, iv p2, iv p3, rv x1, rv kkR, .unset] [(.ref kkR)]) t → own_S p e below s₁ f0 t := fun t k => R9 t (by
    refine XS.astore X5.here hx rfl (hb hby d10_11) rfl rfl (l' := #[rv oR, iv p2, iv p3, rv x1, rv kkR, .unset]) rfl ?_
    refine XS.aload X5.here hx rfl (hb hby d10_13) rfl rfl ?_
    exact k)
  obtain ⟨T11, X11, e11, st11⟩ := getF X5 hx hZ hown (Or.inr (hU 66 _ rfl)) Via.refl e5 F_size_kkR (g := (mkF m 15 #[rv oR, iv p2, iv p3, rv x1, rv kkR, .unset] [(.ref kkR)])) rfl rfl (hb hby d10_15)
  have R12 := fun t k => R10 t (st11 t k)
  have R13 : ∀ t, own_S p e below T11 (mkF m 28 #[rv oR, iv p2, iv p3, rv x1, rv kkR, iv (1 : Int32)] [(.ref kkR), (.int p2)]) t → own_S p e below s₁ f0 t := fun t k => R12 t (by
    refine XS.istore X11.here hx rfl (hb hby d10_18) rfl (l' := #[rv oR, iv p2, iv p3, rv x1, rv kkR, iv (1 : Int32)]) rfl ?_
    refine XS.iload X11.here hx rfl (hb hby d10_20) rfl  ?_
    refine XS.ifNo X11.here hx rfl (hb hby d10_22) rfl ((if0 _ _).trans (tlt (by decide : (0 : Int32) < (1 : Int32))).2.2.2) ?_
    refine XS.iloadN X11.here hx rfl (hb hby d10_25) rfl  ?_
    refine XS.aload X11.here hx rfl (hb hby d10_26) rfl rfl ?_
    exact k)
  obtain ⟨T14, X14, e14, st14⟩ := getF X11 hx hZ hown (Or.inr (hU 83 _ rfl)) Via.refl e11 F_starts_kkR (g := (mkF m 28 #[rv oR, iv p2, iv p3, rv x1, rv kkR, iv (1 : Int32)] [(.ref kkR), (.int p2)])) rfl rfl (hb hby d10_28)
  have R15 := fun t k => R13 t (st14 t k)
  have R16 : ∀ t, own_S p e below T14 (mkF m 35 #[rv oR, iv p2, iv p3, rv x1, rv kkR, iv (1 : Int32)] [(.int (0 : Int32)), (.ref saR), (.int p2)]) t → own_S p e below s₁ f0 t := fun t k => R15 t (by
    refine XS.iload X14.here hx rfl (hb hby d10_31) rfl  ?_
    refine XS.iconst X14.here hx rfl (hb hby d10_33) ?_
    refine XS.isub X14.here hx rfl (hb hby d10_34) rfl ?_
    exact k)
  obtain ⟨cl17, Ar17, q17, S17, n17_, H17, G17⟩ := id A_saR
  have hin17 : ¬ ((0 : Int32) < 0 ∨ cl17.slots.size ≤ ((0 : Int32)).toNatClampNeg) := inb_of S17 ⟨by decide, by decide⟩
  have hat17 : cl17.slots[((0 : Int32)).toNatClampNeg]? = some (.int x0) := Has.at H17 hin17 rfl
  have R18 : ∀ t, own_S p e below T14 (mkF m 36 #[rv oR, iv p2, iv p3, rv x1, rv kkR, iv (1 : Int32)] [(.int x0), (.int p2)]) t → own_S p e below s₁ f0 t := fun t k => R16 t (X14.iaload hx (j := (0 : Int32)) (v := (.int x0)) (by rw [e14]; exact Ar17.1) (State.isArrayOf_alike hZ.alike Ar17.2.1) Ar17.2.2 hin17 hat17 (g := (mkF m 35 #[rv oR, iv p2, iv p3, rv x1, rv kkR, iv (1 : Int32)] [(.int (0 : Int32)), (.ref saR), (.int p2)])) rfl rfl (hb hby d10_35) _ k)
  have R19 : ∀ t, own_S p e below T14 (mkF m 40 #[rv oR, iv p2, iv p3, rv x1, rv kkR, iv (1 : Int32)] [(.int (0 : Int32))]) t → own_S p e below s₁ f0 t := fun t k => R18 t (by
    refine XS.icmpNo X14.here hx rfl (hb hby d10_36) rfl (flt (own_asym ho0)).2.2.1 ?_
    refine XS.iconst X14.here hx rfl (hb hby d10_39) ?_
    exact k)
  obtain ⟨fs, hr, hrun, hended, hW, hsame⟩ := X14.leave (v := some (.int (0 : Int32))) (fun h => by rw [Bd.returns] at h; cases h)
  refine ⟨_, _, pre0 _ (R19 _ ?_), hrun, hended, _, _, rfl, ?_, ⟨_, rfl⟩, hW, hsame.mono (by decide) (by decide)⟩
  · show own_S p e below T14 (mkF m 40 #[rv oR, iv p2, iv p3, rv x1, rv kkR, iv (1 : Int32)] [(.int (0 : Int32))]) _
    exact retN X14 hx (t := .boolean) Bd.returns (by simp) (hb hby d10_40) hr
  · show Q_rmApp1_0 Z oR p2 p3 x1 ckR kckR kkR fiR kfiR saR kstR enR kenR itR kitR x0 e_0 v0 h0 n0 _ T14.heap _
    rw [e14]
    exact ⟨rfl, N0, rfl⟩
theorem ef_rmHolds1_0 (m : MethodId) (x0 : Addr) (x1 : Int64) (x2 : Int32) : entryFrame m #[(.ref x0), (.long x1), (.int x2)] 9 = mkF m 0 #[rv x0, own_l x1, .second, iv x2, .unset, .unset, .unset, .unset, .unset] [] := by first | (simp [entryFrame, mkF, argsToLocals, Value.category]; done) | rfl
def Q_rmHolds1_0 (Z : State) (oR : Addr) (p3 : Int32) (ckR : Addr) (kckR : ClassId) (kkR : Addr) (saR : Addr) (kstR : ClassId) (x0 : Int32) (h0 : Heap) (n0 : Nat) (v : Option Value) (h : Heap) (L : List Loc) : Prop := v = some (.int (1 : Int32)) ∧ Fr n0 L ∧ h = h0
set_option maxRecDepth 65536 in
set_option maxHeartbeats 40000000 in
theorem rmHolds1_0 (l : Launch) (Z : State) (a0 : Array Value) (hw : ∀ d ∈ tables_1, d.before a0 Z = true) (ws : List Jvm.Cond) (oR : Addr) (p3 : Int32) (ckR : Addr) (kckR : ClassId) (kkR : Addr) (saR : Addr) (kstR : ClassId) (x0 : Int32) (h0 : Heap) (n0 : Nat) (Z0 : n0 ≤ h0.size) (F_chunks_oR : Fld Z h0 oR sN0 "chunks" sN3 (.ref ckR)) (F_chunkCount_oR : Fld Z h0 oR sN0 "chunkCount" "I" (.int (1 : Int32))) (A_ckR : Arv Z h0 ckR kckR (.object sN1) (1 : Int32) [(.ref kkR)] .null) (F_size_kkR : Fld Z h0 kkR sN1 "size" "I" (.int (1 : Int32))) (F_starts_kkR : Fld Z h0 kkR sN1 "starts" "[I" (.ref saR)) (A_saR : Arv Z h0 saR kstR .int (256 : Int32) [(.int x0), (.int (0 : Int32)), (.int (0 : Int32))] (.int (0 : Int32))) (ho0 : p3 < x0) :
    own_M l (⟨sN0, "holds", "(JI)Z"⟩ : MethodName) (Jvm.Cond.code (⟨sN0, "holds", "(JI)Z"⟩ : MethodName) prog_118_method_4_code 9 (some .boolean) :: ws) ({ frames := 0, cells := 0, slots := 0, locals := 0 } : Room) #[(.ref oR), (.long (256 : Int64)), (.int p3)] Z h0 (Q_rmHolds1_0 Z oR p3 ckR kckR kkR saR kstR x0 h0 n0) := by
  refine MetFree.of_bodySF (plainFor_of_name pn_1) hisR ?_
  intro p e s m args below meth c s₁ Bd hml0 hP hK
  obtain ⟨rfl, hZ, hh⟩ := hP
  have hx := Bd.exec
  have hby := Bd.bytes
  have hml : c.maxLocals = 9 := hml0
  have hown : s.vm.findClass sN0 = some m.cls := findClass_of_methodNamed Bd.named
  have hnm := (name_of_methodNamed Bd.named Bd.method).1
  have X0 : Stand p l e ({ frames := 0, cells := 0, slots := 0, locals := 0 } : Room) s m #[(.ref oR), (.long (256 : Int64)), (.int p3)] below meth c s₁ [] 0 0 := Stand.of_body Bd
  have hU : ∀ (i : Nat) (d : Jvm.Cond), tables_1[i]? = some d → d.before a0 Z = true := fun i d h => hw d (List.mem_of_getElem? h)
  have e0 : s₁.heap = h0 := by rw [← hh, Bd.state]; rfl
  have N0 := Fr.nil n0
  obtain ⟨f0, hf0⟩ : ∃ f : JFrame, f = mkF m 0 #[rv oR, own_l (256 : Int64), .second, iv p3, .unset, .unset, .unset, .unset, .unset] [] := ⟨_, rfl⟩
  have pre0 : ∀ t, own_S p e below s₁ f0 t → Steps p.tables e below (s₁.setTop (entryFrame m #[(.ref oR), (.long (256 : Int64)), (.int p3)] 9)) t := fun t k => castTop ((ef_rmHolds1_0 m oR (256 : Int64) p3).trans hf0.symm) k
  have R0 : ∀ t, own_S p e below s₁ (mkF m 0 #[rv oR, own_l (256 : Int64), .second, iv p3, .unset, .unset, .unset, .unset, .unset] []) t → own_S p e below s₁ f0 t := by rw [hf0]; exact fun t k => k
  have R1 : ∀ t, own_S p e below s₁ (mkF m 4 #[rv oR, own_l (256 : Int64), .second, iv p3, .unset, .unset, .unset, .unset, .unset] [(.long (((256 : Int64).toUInt64 >>> ((32 : Int32) &&& 0x3f).toInt64.toUInt64).toInt64))]) t → own_S p e below s₁ f0 t := fun t k => R0 t (by
    refine XS.lloadN X0.here hx rfl (hb hby d16_0) rfl  ?_
    refine XS.bipush X0.here hx rfl (hb hby d16_1) ?_
    refine XS.lushr X0.here hx rfl (hb hby d16_3) rfl ?_
    exact k)
  have R2 : ∀ t, own_S p e below s₁ (mkF m 4 #[rv oR, own_l (256 : Int64), .second, iv p3, .unset, .unset, .unset, .unset, .unset] [(.long (0 : Int64))]) t → own_S p e below s₁ f0 t := by have q := R1; rw [((by decide) : (((256 : Int64).toUInt64 >>> ((32 : Int32) &&& 0x3f).toInt64.toUInt64).toInt64) = (0 : Int64))] at q; exact q
  have R3 : ∀ t, own_S p e below s₁ (mkF m 5 #[rv oR, own_l (256 : Int64), .second, iv p3, .unset, .unset, .unset, .unset, .unset] [(.int ((0 : Int64).toInt32))]) t → own_S p e below s₁ f0 t := fun t k => R2 t (by
    refine XS.l2i X0.here hx rfl (hb hby d16_4) rfl ?_
    exact k)
  have R4 : ∀ t, own_S p e below s₁ (mkF m 5 #[rv oR, own_l (256 : Int64), .second, iv p3, .unset, .unset, .unset, .unset, .unset] [(.int (0 : Int32))]) t → own_S p e below s₁ f0 t := by have q := R3; rw [((by decide) : ((0 : Int64).toInt32) = (0 : Int32))] at q; exact q
  have R5 : ∀ t, own_S p e below s₁ (mkF m 9 #[rv oR, own_l (256 : Int64), .second, iv p3, iv (0 : Int32), .unset, .unset, .unset, .unset] [(.int ((256 : Int64).toInt32))]) t → own_S p e below s₁ f0 t := fun t k => R4 t (by
    refine XS.istore X0.here hx rfl (hb hby d16_5) rfl (l' := #[rv oR, own_l (256 : Int64), .second, iv p3, iv (0 : Int32), .unset, .unset, .unset, .unset]) rfl ?_
    refine XS.lloadN X0.here hx rfl (hb hby d16_7) rfl  ?_
    refine XS.l2i X0.here hx rfl (hb hby d16_8) rfl ?_
    exact k)
  have R6 : ∀ t, own_S p e below s₁ (mkF m 9 #[rv oR, own_l (256 : Int64), .second, iv p3, iv (0 : Int32), .unset, .unset, .unset, .unset] [(.int (256 : Int32))]) t → own_S p e below s₁ f0 t := by have q := R5; rw [((by decide) : ((256 : Int64).toInt32) = (256 : Int32))] at q; exact q
  have R7 : ∀ t, own_S p e below s₁ (mkF m 23 #[rv oR, own_l (256 : Int64), .second, iv p3, iv (0 : Int32), iv (0 : Int32), .unset, .unset, .unset] [(.ref oR), (.int (0 : Int32))]) t → own_S p e below s₁ f0 t := fun t k => R6 t (by
    refine XS.sipush X0.here hx rfl (hb hby d16_9) ?_
    refine XS.isub X0.here hx rfl (hb hby d16_12) rfl ?_
    refine XS.istore X0.here hx rfl (hb hby d16_13) rfl (l' := #[rv oR, own_l (256 : Int64), .second, iv p3, iv (0 : Int32), iv (0 : Int32), .unset, .unset, .unset]) rfl ?_
    refine XS.iload X0.here hx rfl (hb hby d16_15) rfl  ?_
    refine XS.ifNo X0.here hx rfl (hb hby d16_17) rfl ((if0 _ _).trans (flt (by decide : ¬ ((0 : Int32) < (0 : Int32)))).1) ?_
    refine XS.iload X0.here hx rfl (hb hby d16_20) rfl  ?_
    show own_S p e below s₁ (mkF m 22 #[rv oR, own_l (256 : Int64), .second, iv p3, iv (0 : Int32), iv (0 : Int32), .unset, .unset, .unset] [(.int (0 : Int32))]) _
    refine XS.aloadN X0.here hx rfl (hb hby d16_22) rfl rfl ?_
    exact k)
  obtain ⟨T8, X8, e8, st8⟩ := getF X0 hx hZ hown (host := "") (Or.inl (hU 22 _ rfl)) Via.refl e0 F_chunkCount_oR (g := (mkF m 23 #[rv oR, own_l (256 : Int64), .second, iv p3, iv (0 : Int32), iv (0 : Int32), .unset, .unset, .unset] [(.ref oR), (.int (0 : Int32))])) rfl rfl (hb hby d16_23)
  have R9 := fun t k => R7 t (st8 t k)
  have R10 : ∀ t, own_S p e below T8 (mkF m 37 #[rv oR, own_l (256 : Int64), .second, iv p3, iv (0 : Int32), iv (0 : Int32), .unset, .unset, .unset] [(.ref oR), (.int (0 : Int32))]) t → own_S p e below s₁ f0 t := fun t k => R9 t (by
    refine XS.icmpNo X8.here hx rfl (hb hby d16_26) rfl (tlt (by decide : (0 : Int32) < (1 : Int32))).2.1 ?_
    refine XS.iload X8.here hx rfl (hb hby d16_29) rfl  ?_
    refine XS.ifNo X8.here hx rfl (hb hby d16_31) rfl ((if0 _ _).trans (flt (by decide : ¬ ((0 : Int32) < (0 : Int32)))).1) ?_
    refine XS.iload X8.here hx rfl (hb hby d16_34) rfl  ?_
    refine XS.aloadN X8.here hx rfl (hb hby d16_36) rfl rfl ?_
    exact k)
  obtain ⟨T11, X11, e11, st11⟩ := getF X8 hx hZ hown (host := "") (Or.inl (hU 43 _ rfl)) Via.refl e8 F_chunks_oR (g := (mkF m 37 #[rv oR, own_l (256 : Int64), .second, iv p3, iv (0 : Int32), iv (0 : Int32), .unset, .unset, .unset] [(.ref oR), (.int (0 : Int32))])) rfl rfl (hb hby d16_37)
  have R12 := fun t k => R10 t (st11 t k)
  have R13 : ∀ t, own_S p e below T11 (mkF m 42 #[rv oR, own_l (256 : Int64), .second, iv p3, iv (0 : Int32), iv (0 : Int32), .unset, .unset, .unset] [(.int (0 : Int32)), (.ref ckR), (.int (0 : Int32))]) t → own_S p e below s₁ f0 t := fun t k => R12 t (by
    refine XS.iload X11.here hx rfl (hb hby d16_40) rfl  ?_
    exact k)
  obtain ⟨cl14, Ar14, q14, S14, n14_, H14, G14⟩ := id A_ckR
  have hin14 : ¬ ((0 : Int32) < 0 ∨ cl14.slots.size ≤ ((0 : Int32)).toNatClampNeg) := inb_of S14 ⟨by decide, by decide⟩
  have hat14 : cl14.slots[((0 : Int32)).toNatClampNeg]? = some (.ref kkR) := Has.at H14 hin14 rfl
  have R15 : ∀ t, own_S p e below T11 (mkF m 43 #[rv oR, own_l (256 : Int64), .second, iv p3, iv (0 : Int32), iv (0 : Int32), .unset, .unset, .unset] [(.ref kkR), (.int (0 : Int32))]) t → own_S p e below s₁ f0 t := fun t k => R13 t (X11.aaload hx (j := (0 : Int32)) (v := (.ref kkR)) (by rw [e11]; exact Ar14.1) (State.isArrayOf_alike hZ.alike Ar14.2.1) rfl Ar14.2.2 hin14 hat14 (g := (mkF m 42 #[rv oR, own_l (256 : Int64), .second, iv p3, iv (0 : Int32), iv (0 : Int32), .unset, .unset, .unset] [(.int (0 : Int32)), (.ref ckR), (.int (0 : Int32))])) rfl rfl (hb hby d16_42) _ k)
  obtain ⟨T16, X16, e16, st16⟩ := getF X11 hx hZ hown (Or.inr (hU 66 _ rfl)) Via.refl e11 F_size_kkR (g := (mkF m 43 #[rv oR, own_l (256 : Int64), .second, iv p3, iv (0 : Int32), iv (0 : Int32), .unset, .unset, .unset] [(.ref kkR), (.int (0 : Int32))])) rfl rfl (hb hby d16_43)
  have R17 := fun t k => R15 t (st16 t k)
  have R18 : ∀ t, own_S p e below T16 (mkF m 52 #[rv oR, own_l (256 : Int64), .second, iv p3, iv (0 : Int32), iv (0 : Int32), .unset, .unset, .unset] [(.ref oR)]) t → own_S p e below s₁ f0 t := fun t k => R17 t (by
    refine XS.icmpYes X16.here hx rfl (pc0 := 46) (pc' := 51) rfl (hb hby d16_46) rfl (flt (by decide : ¬ ((1 : Int32) < (0 : Int32)))).2.2.2 (by decide) (by decide) ?_
    refine XS.aloadN X16.here hx rfl (hb hby d16_51) rfl rfl ?_
    exact k)
  obtain ⟨T19, X19, e19, st19⟩ := getF X16 hx hZ hown (host := "") (Or.inl (hU 43 _ rfl)) Via.refl e16 F_chunks_oR (g := (mkF m 52 #[rv oR, own_l (256 : Int64), .second, iv p3, iv (0 : Int32), iv (0 : Int32), .unset, .unset, .unset] [(.ref oR)])) rfl rfl (hb hby d16_52)
  have R20 := fun t k => R18 t (st19 t k)
  have R21 : ∀ t, own_S p e below T19 (mkF m 57 #[rv oR, own_l (256 : Int64), .second, iv p3, iv (0 : Int32), iv (0 : Int32), .unset, .unset, .unset] [(.int (0 : Int32)), (.ref ckR)]) t → own_S p e below s₁ f0 t := fun t k => R20 t (by
    refine XS.iload X19.here hx rfl (hb hby d16_55) rfl  ?_
    exact k)
  obtain ⟨cl22, Ar22, q22, S22, n22_, H22, G22⟩ := id A_ckR
  have hin22 : ¬ ((0 : Int32) < 0 ∨ cl22.slots.size ≤ ((0 : Int32)).toNatClampNeg) := inb_of S22 ⟨by decide, by decide⟩
  have hat22 : cl22.slots[((0 : Int32)).toNatClampNeg]? = some (.ref kkR) := Has.at H22 hin22 rfl
  have R23 : ∀ t, own_S p e below T19 (mkF m 58 #[rv oR, own_l (256 : Int64), .second, iv p3, iv (0 : Int32), iv (0 : Int32), .unset, .unset, .unset] [(.ref kkR)]) t → own_S p e below s₁ f0 t := fun t k => R21 t (X19.aaload hx (j := (0 : Int32)) (v := (.ref kkR)) (by rw [e19]; exact Ar22.1) (State.isArrayOf_alike hZ.alike Ar22.2.1) rfl Ar22.2.2 hin22 hat22 (g := (mkF m 57 #[rv oR, own_l (256 : Int64), .second, iv p3, iv (0 : Int32), iv (0 : Int32), .unset, .unset, .unset] [(.int (0 : Int32)), (.ref ckR)])) rfl rfl (hb hby d16_57) _ k)
  have R24 : ∀ t, own_S p e below T19 (mkF m 134 #[rv oR, own_l (256 : Int64), .second, iv p3, iv (0 : Int32), iv (0 : Int32), rv kkR, iv (1 : Int32), .unset] [(.ref kkR), (.int (0 : Int32))]) t → own_S p e below s₁ f0 t := fun t k => R23 t (by
    refine XS.astore X19.here hx rfl (hb hby d16_58) rfl rfl (l' := #[rv oR, own_l (256 : Int64), .second, iv p3, iv (0 : Int32), iv (0 : Int32), rv kkR, .unset, .unset]) rfl ?_
    refine XS.iload X19.here hx rfl (hb hby d16_60) rfl  ?_
    refine XS.ifYes X19.here hx rfl (pc0 := 62) (pc' := 87) rfl (hb hby d16_62) rfl ((if0 _ _).trans (flt (by decide : ¬ ((0 : Int32) < (0 : Int32)))).2.2.2) (by decide) (by decide) ?_
    refine XS.iload X19.here hx rfl (hb hby d16_87) rfl  ?_
    refine XS.ifYes X19.here hx rfl (pc0 := 89) (pc' := 123) rfl (hb hby d16_89) rfl ((if0 _ _).trans (teq (by decide : (0 : Int32) = (0 : Int32))).1) (by decide) (by decide) ?_
    refine XS.iconst X19.here hx rfl (hb hby d16_123) ?_
    show own_S p e below T19 (mkF m 124 #[rv oR, own_l (256 : Int64), .second, iv p3, iv (0 : Int32), iv (0 : Int32), rv kkR, .unset, .unset] [(.int (1 : Int32))]) _
    refine XS.goto X19.here hx rfl (pc0 := 124) (pc' := 128) rfl (hb hby d16_124) (by decide) (by decide) ?_
    refine XS.istore X19.here hx rfl (hb hby d16_128) rfl (l' := #[rv oR, own_l (256 : Int64), .second, iv p3, iv (0 : Int32), iv (0 : Int32), rv kkR, iv (1 : Int32), .unset]) rfl ?_
    refine XS.iload X19.here hx rfl (hb hby d16_130) rfl  ?_
    refine XS.aload X19.here hx rfl (hb hby d16_132) rfl rfl ?_
    exact k)
  obtain ⟨T25, X25, e25, st25⟩ := getF X19 hx hZ hown (Or.inr (hU 66 _ rfl)) Via.refl e19 F_size_kkR (g := (mkF m 134 #[rv oR, own_l (256 : Int64), .second, iv p3, iv (0 : Int32), iv (0 : Int32), rv kkR, iv (1 : Int32), .unset] [(.ref kkR), (.int (0 : Int32))])) rfl rfl (hb hby d16_134)
  have R26 := fun t k => R24 t (st25 t k)
  have R27 : ∀ t, own_S p e below T25 (mkF m 142 #[rv oR, own_l (256 : Int64), .second, iv p3, iv (0 : Int32), iv (0 : Int32), rv kkR, iv (1 : Int32), .unset] [(.ref kkR)]) t → own_S p e below s₁ f0 t := fun t k => R26 t (by
    refine XS.icmpNo X25.here hx rfl (hb hby d16_137) rfl (tlt (by decide : (0 : Int32) < (1 : Int32))).2.1 ?_
    refine XS.aload X25.here hx rfl (hb hby d16_140) rfl rfl ?_
    exact k)
  obtain ⟨T28, X28, e28, st28⟩ := getF X25 hx hZ hown (Or.inr (hU 83 _ rfl)) Via.refl e25 F_starts_kkR (g := (mkF m 142 #[rv oR, own_l (256 : Int64), .second, iv p3, iv (0 : Int32), iv (0 : Int32), rv kkR, iv (1 : Int32), .unset] [(.ref kkR)])) rfl rfl (hb hby d16_142)
  have R29 := fun t k => R27 t (st28 t k)
  have R30 : ∀ t, own_S p e below T28 (mkF m 147 #[rv oR, own_l (256 : Int64), .second, iv p3, iv (0 : Int32), iv (0 : Int32), rv kkR, iv (1 : Int32), .unset] [(.int (0 : Int32)), (.ref saR)]) t → own_S p e below s₁ f0 t := fun t k => R29 t (by
    refine XS.iload X28.here hx rfl (hb hby d16_145) rfl  ?_
    exact k)
  obtain ⟨cl31, Ar31, q31, S31, n31_, H31, G31⟩ := id A_saR
  have hin31 : ¬ ((0 : Int32) < 0 ∨ cl31.slots.size ≤ ((0 : Int32)).toNatClampNeg) := inb_of S31 ⟨by decide, by decide⟩
  have hat31 : cl31.slots[((0 : Int32)).toNatClampNeg]? = some (.int x0) := Has.at H31 hin31 rfl
  have R32 : ∀ t, own_S p e below T28 (mkF m 148 #[rv oR, own_l (256 : Int64), .second, iv p3, iv (0 : Int32), iv (0 : Int32), rv kkR, iv (1 : Int32), .unset] [(.int x0)]) t → own_S p e below s₁ f0 t := fun t k => R30 t (X28.iaload hx (j := (0 : Int32)) (v := (.int x0)) (by rw [e28]; exact Ar31.1) (State.isArrayOf_alike hZ.alike Ar31.2.1) Ar31.2.2 hin31 hat31 (g := (mkF m 147 #[rv oR, own_l (256 : Int64), .second, iv p3, iv (0 : Int32), iv (0 : Int32), rv kkR, iv (1 : Int32), .unset] [(.int (0 : Int32)), (.ref saR)])) rfl rfl (hb hby d16_147) _ k)
  have R33 : ∀ t, own_S p e below T28 (mkF m 211 #[rv oR, own_l (256 : Int64), .second, iv p3, iv (0 : Int32), iv (0 : Int32), rv kkR, iv (1 : Int32), iv (1 : Int32)] [(.int (1 : Int32))]) t → own_S p e below s₁ f0 t := fun t k => R32 t (by
    refine XS.iloadN X28.here hx rfl (hb hby d16_148) rfl  ?_
    refine XS.icmpNo X28.here hx rfl (hb hby d16_149) rfl (tlt ho0).2.2.2 ?_
    refine XS.iconst X28.here hx rfl (hb hby d16_152) ?_
    refine XS.goto X28.here hx rfl (pc0 := 153) (pc' := 194) rfl (hb hby d16_153) (by decide) (by decide) ?_
    refine XS.istore X28.here hx rfl (hb hby d16_194) rfl (l' := #[rv oR, own_l (256 : Int64), .second, iv p3, iv (0 : Int32), iv (0 : Int32), rv kkR, iv (1 : Int32), iv (1 : Int32)]) rfl ?_
    refine XS.iload X28.here hx rfl (hb hby d16_196) rfl  ?_
    show own_S p e below T28 (mkF m 198 #[rv oR, own_l (256 : Int64), .second, iv p3, iv (0 : Int32), iv (0 : Int32), rv kkR, iv (1 : Int32), iv (1 : Int32)] [(.int (1 : Int32))]) _
    refine XS.ifNo X28.here hx rfl (hb hby d16_198) rfl ((if0 _ _).trans (feq (by decide : ¬ ((1 : Int32) = (0 : Int32)))).1) ?_
    refine XS.iload X28.here hx rfl (hb hby d16_201) rfl  ?_
    refine XS.ifNo X28.here hx rfl (hb hby d16_203) rfl ((if0 _ _).trans (feq (by decide : ¬ ((1 : Int32) = (0 : Int32)))).1) ?_
    refine XS.iconst X28.here hx rfl (hb hby d16_206) ?_
    refine XS.goto X28.here hx rfl (pc0 := 207) (pc' := 211) rfl (hb hby d16_207) (by decide) (by decide) ?_
    exact k)
  obtain ⟨fs, hr, hrun, hended, hW, hsame⟩ := X28.leave (v := some (.int (1 : Int32))) (fun h => by rw [Bd.returns] at h; cases h)
  refine ⟨_, _, pre0 _ (R33 _ ?_), hrun, hended, _, _, rfl, ?_, ⟨_, rfl⟩, hW, hsame.mono (by decide) (by decide)⟩
  · show own_S p e below T28 (mkF m 211 #[rv oR, own_l (256 : Int64), .second, iv p3, iv (0 : Int32), iv (0 : Int32), rv kkR, iv (1 : Int32), iv (1 : Int32)] [(.int (1 : Int32))]) _
    exact retN X28 hx (t := .boolean) Bd.returns (by simp) (hb hby d16_211) hr
  · show Q_rmHolds1_0 Z oR p3 ckR kckR kkR saR kstR x0 h0 n0 _ T28.heap _
    rw [e28]
    exact ⟨rfl, N0, rfl⟩
theorem ef_rmOins1_0 (m : MethodId) (x0 : Addr) (x1 : Int64) (x2 : Int32) (x3 : Int32) (x4 : Addr) : entryFrame m #[(.ref x0), (.long x1), (.int x2), (.int x3), (.ref x4)] 10 = mkF m 0 #[rv x0, own_l x1, .second, iv x2, iv x3, rv x4, .unset, .unset, .unset, .unset] [] := by first | (simp [entryFrame, mkF, argsToLocals, Value.category]; done) | rfl
def Q_rmOins1_0 (Z : State) (oR : Addr) (p3 : Int32) (p4 : Int32) (x1 : Addr) (ckR : Addr) (kckR : ClassId) (kkR : Addr) (fiR : Addr) (kfiR : ClassId) (saR : Addr) (kstR : ClassId) (enR : Addr) (kenR : ClassId) (itR : Addr) (kitR : ClassId) (x0 : Int32) (e_0 : Int32) (v0 : Addr) (h0 : Heap) (n0 : Nat) (v : Option Value) (h : Heap) (L : List Loc) : Prop := v = none ∧ Fr n0 L ∧ Keep h0 h [saR, enR, itR, kkR, fiR] ∧ (Fld Z h kkR sN1 "size" "I" (.int (2 : Int32))) ∧ (Fld Z h kkR sN1 "starts" "[I" (.ref saR)) ∧ (Arv Z h fiR kfiR .int (1 : Int32) [(.int p3)] (.int (0 : Int32))) ∧ (Arv Z h saR kstR .int (256 : Int32) [(.int p3), (.int x0), (.int (0 : Int32))] (.int (0 : Int32))) ∧ (Fld Z h kkR sN1 "ends" "[I" (.ref enR)) ∧ (Fld Z h kkR sN1 "items" "[Ljava/lang/Object;" (.ref itR)) ∧ (Arv Z h enR kenR .int (256 : Int32) [(.int p4), (.int e_0), (.int (0 : Int32))] (.int (0 : Int32))) ∧ (Arv Z h itR kitR (.object "java/lang/Object") (256 : Int32) [(.ref x1), (.ref v0), .null] .null)
set_option maxRecDepth 65536 in
set_option maxHeartbeats 40000000 in
theorem rmOins1_0 (l : Launch) (Z : State) (a0 : Array Value) (hw : ∀ d ∈ tables_1, d.before a0 Z = true) (ws : List Jvm.Cond) (oR : Addr) (p3 : Int32) (p4 : Int32) (x1 : Addr) (ckR : Addr) (kckR : ClassId) (kkR : Addr) (fiR : Addr) (kfiR : ClassId) (saR : Addr) (kstR : ClassId) (enR : Addr) (kenR : ClassId) (itR : Addr) (kitR : ClassId) (x0 : Int32) (e_0 : Int32) (v0 : Addr) (h0 : Heap) (n0 : Nat) (Z0 : n0 ≤ h0.size) (E_oR : Exa Z h0 oR sN0) (F_chunks_oR : Fld Z h0 oR sN0 "chunks" sN3 (.ref ckR)) (F_chunkCount_oR : Fld Z h0 oR sN0 "chunkCount" "I" (.int (1 : Int32))) (F_firsts_oR : Fld Z h0 oR sN0 "firsts" "[I" (.ref fiR)) (F_withItems_oR : Fld Z h0 oR sN0 "withItems" "Z" (.int (1 : Int32))) (A_ckR : Arv Z h0 ckR kckR (.object sN1) (1 : Int32) [(.ref kkR)] .null) (E_kkR : Exa Z h0 kkR sN1) (F_size_kkR : Fld Z h0 kkR sN1 "size" "I" (.int (1 : Int32))) (F_starts_kkR : Fld Z h0 kkR sN1 "starts" "[I" (.ref saR)) (A_fiR : Arv Z h0 fiR kfiR .int (1 : Int32) [(.int x0)] (.int (0 : Int32))) (A_saR : Arv Z h0 saR kstR .int (256 : Int32) [(.int x0), (.int (0 : Int32)), (.int (0 : Int32))] (.int (0 : Int32))) (F_ends_kkR : Fld Z h0 kkR sN1 "ends" "[I" (.ref enR)) (F_items_kkR : Fld Z h0 kkR sN1 "items" "[Ljava/lang/Object;" (.ref itR)) (A_enR : Arv Z h0 enR kenR .int (256 : Int32) [(.int e_0), (.int (0 : Int32)), (.int (0 : Int32))] (.int (0 : Int32))) (A_itR : Arv Z h0 itR kitR (.object "java/lang/Object") (256 : Int32) [(.ref v0), .null, .null] .null) (E_x1 : Exa Z h0 x1 "java/lang/Integer") (E_v0 : Exa Z h0 v0 "java/lang/Integer") (g_fiR : n0 ≤ fiR) (g_ckR : n0 ≤ ckR) (g_saR : n0 ≤ saR) (g_enR : n0 ≤ enR) (g_itR : n0 ≤ itR) (g_kkR : n0 ≤ kkR) (ne_fiR_ckR : fiR ≠ ckR) (ne_fiR_saR : fiR ≠ saR) (ne_fiR_enR : fiR ≠ enR) (ne_fiR_itR : fiR ≠ itR) (ne_ckR_saR : ckR ≠ saR) (ne_ckR_enR : ckR ≠ enR) (ne_ckR_itR : ckR ≠ itR) (ne_saR_enR : saR ≠ enR) (ne_saR_itR : saR ≠ itR) (ne_enR_itR : enR ≠ itR) (ovr_itR : Ovr Z kitR "java/lang/Object") :
    own_M l (⟨sN0, "insert", sN5⟩ : MethodName) (Jvm.Cond.code (⟨sN0, "insert", sN5⟩ : MethodName) prog_118_method_6_code 10 none :: ws) ({ frames := 1, cells := 0, slots := 0, locals := 18 } : Room) #[(.ref oR), (.long (256 : Int64)), (.int p3), (.int p4), (.ref x1)] Z h0 (Q_rmOins1_0 Z oR p3 p4 x1 ckR kckR kkR fiR kfiR saR kstR enR kenR itR kitR x0 e_0 v0 h0 n0) := by
  refine MetFree.of_bodySF (plainFor_of_name pn_1) hisR ?_
  intro p e s m args below meth c s₁ Bd hml0 hP hK
  obtain ⟨rfl, hZ, hh⟩ := hP
  have hx := Bd.exec
  have hby := Bd.bytes
  have hml : c.maxLocals = 10 := hml0
  have hown : s.vm.findClass sN0 = some m.cls := findClass_of_methodNamed Bd.named
  have hnm := (name_of_methodNamed Bd.named Bd.method).1
  have X0 : Stand p l e ({ frames := 1, cells := 0, slots := 0, locals := 18 } : Room) s m #[(.ref oR), (.long (256 : Int64)), (.int p3), (.int p4), (.ref x1)] below meth c s₁ [] 0 0 := Stand.of_body Bd
  have hU : ∀ (i : Nat) (d : Jvm.Cond), tables_1[i]? = some d → d.before a0 Z = true := fun i d h => hw d (List.mem_of_getElem? h)
  have e0 : s₁.heap = h0 := by rw [← hh, Bd.state]; rfl
  have N0 := Fr.nil n0
  obtain ⟨f0, hf0⟩ : ∃ f : JFrame, f = mkF m 0 #[rv oR, own_l (256 : Int64), .second, iv p3, iv p4, rv x1, .unset, .unset, .unset, .unset] [] := ⟨_, rfl⟩
  have pre0 : ∀ t, own_S p e below s₁ f0 t → Steps p.tables e below (s₁.setTop (entryFrame m #[(.ref oR), (.long (256 : Int64)), (.int p3), (.int p4), (.ref x1)] 10)) t := fun t k => castTop ((ef_rmOins1_0 m oR (256 : Int64) p3 p4 x1).trans hf0.symm) k
  have R0 : ∀ t, own_S p e below s₁ (mkF m 0 #[rv oR, own_l (256 : Int64), .second, iv p3, iv p4, rv x1, .unset, .unset, .unset, .unset] []) t → own_S p e below s₁ f0 t := by rw [hf0]; exact fun t k => k
  have R1 : ∀ t, own_S p e below s₁ (mkF m 4 #[rv oR, own_l (256 : Int64), .second, iv p3, iv p4, rv x1, .unset, .unset, .unset, .unset] [(.long (((256 : Int64).toUInt64 >>> ((32 : Int32) &&& 0x3f).toInt64.toUInt64).toInt64))]) t → own_S p e below s₁ f0 t := fun t k => R0 t (by
    refine XS.lloadN X0.here hx rfl (hb hby d17_0) rfl  ?_
    refine XS.bipush X0.here hx rfl (hb hby d17_1) ?_
    refine XS.lushr X0.here hx rfl (hb hby d17_3) rfl ?_
    exact k)
  have R2 : ∀ t, own_S p e below s₁ (mkF m 4 #[rv oR, own_l (256 : Int64), .second, iv p3, iv p4, rv x1, .unset, .unset, .unset, .unset] [(.long (0 : Int64))]) t → own_S p e below s₁ f0 t := by have q := R1; rw [((by decide) : (((256 : Int64).toUInt64 >>> ((32 : Int32) &&& 0x3f).toInt64.toUInt64).toInt64) = (0 : Int64))] at q; exact q
  have R3 : ∀ t, own_S p e below s₁ (mkF m 5 #[rv oR, own_l (256 : Int64), .second, iv p3, iv p4, rv x1, .unset, .unset, .unset, .unset] [(.int ((0 : Int64).toInt32))]) t → own_S p e below s₁ f0 t := fun t k => R2 t (by
    refine XS.l2i X0.here hx rfl (hb hby d17_4) rfl ?_
    exact k)
  have R4 : ∀ t, own_S p e below s₁ (mkF m 5 #[rv oR, own_l (256 : Int64), .second, iv p3, iv p4, rv x1, .unset, .unset, .unset, .unset] [(.int (0 : Int32))]) t → own_S p e below s₁ f0 t := by have q := R3; rw [((by decide) : ((0 : Int64).toInt32) = (0 : Int32))] at q; exact q
  have R5 : ∀ t, own_S p e below s₁ (mkF m 9 #[rv oR, own_l (256 : Int64), .second, iv p3, iv p4, rv x1, iv (0 : Int32), .unset, .unset, .unset] [(.int ((256 : Int64).toInt32))]) t → own_S p e below s₁ f0 t := fun t k => R4 t (by
    refine XS.istore X0.here hx rfl (hb hby d17_5) rfl (l' := #[rv oR, own_l (256 : Int64), .second, iv p3, iv p4, rv x1, iv (0 : Int32), .unset, .unset, .unset]) rfl ?_
    refine XS.lloadN X0.here hx rfl (hb hby d17_7) rfl  ?_
    refine XS.l2i X0.here hx rfl (hb hby d17_8) rfl ?_
    exact k)
  have R6 : ∀ t, own_S p e below s₁ (mkF m 9 #[rv oR, own_l (256 : Int64), .second, iv p3, iv p4, rv x1, iv (0 : Int32), .unset, .unset, .unset] [(.int (256 : Int32))]) t → own_S p e below s₁ f0 t := by have q := R5; rw [((by decide) : ((256 : Int64).toInt32) = (256 : Int32))] at q; exact q
  have R7 : ∀ t, own_S p e below s₁ (mkF m 16 #[rv oR, own_l (256 : Int64), .second, iv p3, iv p4, rv x1, iv (0 : Int32), iv (0 : Int32), .unset, .unset] [(.ref oR)]) t → own_S p e below s₁ f0 t := fun t k => R6 t (by
    refine XS.sipush X0.here hx rfl (hb hby d17_9) ?_
    refine XS.isub X0.here hx rfl (hb hby d17_12) rfl ?_
    refine XS.istore X0.here hx rfl (hb hby d17_13) rfl (l' := #[rv oR, own_l (256 : Int64), .second, iv p3, iv p4, rv x1, iv (0 : Int32), iv (0 : Int32), .unset, .unset]) rfl ?_
    refine XS.aloadN X0.here hx rfl (hb hby d17_15) rfl rfl ?_
    exact k)
  obtain ⟨T8, X8, e8, st8⟩ := getF X0 hx hZ hown (host := "") (Or.inl (hU 43 _ rfl)) Via.refl e0 F_chunks_oR (g := (mkF m 16 #[rv oR, own_l (256 : Int64), .second, iv p3, iv p4, rv x1, iv (0 : Int32), iv (0 : Int32), .unset, .unset] [(.ref oR)])) rfl rfl (hb hby d17_16)
  have R9 := fun t k => R7 t (st8 t k)
  have R10 : ∀ t, own_S p e below T8 (mkF m 21 #[rv oR, own_l (256 : Int64), .second, iv p3, iv p4, rv x1, iv (0 : Int32), iv (0 : Int32), .unset, .unset] [(.int (0 : Int32)), (.ref ckR)]) t → own_S p e below s₁ f0 t := fun t k => R9 t (by
    refine XS.iload X8.here hx rfl (hb hby d17_19) rfl  ?_
    exact k)
  obtain ⟨cl11, Ar11, q11, S11, n11_, H11, G11⟩ := id A_ckR
  have hin11 : ¬ ((0 : Int32) < 0 ∨ cl11.slots.size ≤ ((0 : Int32)).toNatClampNeg) := inb_of S11 ⟨by decide, by decide⟩
  have hat11 : cl11.slots[((0 : Int32)).toNatClampNeg]? = some (.ref kkR) := Has.at H11 hin11 rfl
  have R12 : ∀ t, own_S p e below T8 (mkF m 22 #[rv oR, own_l (256 : Int64), .second, iv p3, iv p4, rv x1, iv (0 : Int32), iv (0 : Int32), .unset, .unset] [(.ref kkR)]) t → own_S p e below s₁ f0 t := fun t k => R10 t (X8.aaload hx (j := (0 : Int32)) (v := (.ref kkR)) (by rw [e8]; exact Ar11.1) (State.isArrayOf_alike hZ.alike Ar11.2.1) rfl Ar11.2.2 hin11 hat11 (g := (mkF m 21 #[rv oR, own_l (256 : Int64), .second, iv p3, iv p4, rv x1, iv (0 : Int32), iv (0 : Int32), .unset, .unset] [(.int (0 : Int32)), (.ref ckR)])) rfl rfl (hb hby d17_21) _ k)
  have R13 : ∀ t, own_S p e below T8 (mkF m 26 #[rv oR, own_l (256 : Int64), .second, iv p3, iv p4, rv x1, iv (0 : Int32), iv (0 : Int32), rv kkR, .unset] [(.ref kkR)]) t → own_S p e below s₁ f0 t := fun t k => R12 t (by
    refine XS.astore X8.here hx rfl (hb hby d17_22) rfl rfl (l' := #[rv oR, own_l (256 : Int64), .second, iv p3, iv p4, rv x1, iv (0 : Int32), iv (0 : Int32), rv kkR, .unset]) rfl ?_
    refine XS.aload X8.here hx rfl (hb hby d17_24) rfl rfl ?_
    exact k)
  obtain ⟨T14, X14, e14, st14⟩ := getF X8 hx hZ hown (Or.inr (hU 66 _ rfl)) Via.refl e8 F_size_kkR (g := (mkF m 26 #[rv oR, own_l (256 : Int64), .second, iv p3, iv p4, rv x1, iv (0 : Int32), iv (0 : Int32), rv kkR, .unset] [(.ref kkR)])) rfl rfl (hb hby d17_26)
  have R15 := fun t k => R13 t (st14 t k)
  have R16 : ∀ t, own_S p e below T14 (mkF m 104 #[rv oR, own_l (256 : Int64), .second, iv p3, iv p4, rv x1, iv (0 : Int32), iv (0 : Int32), rv kkR, .unset] [(.ref kkR)]) t → own_S p e below s₁ f0 t := fun t k => R15 t (by
    refine XS.sipush X14.here hx rfl (hb hby d17_29) ?_
    refine XS.icmpYes X14.here hx rfl (pc0 := 32) (pc' := 102) rfl (hb hby d17_32) rfl (feq (by decide : ¬ ((1 : Int32) = (256 : Int32)))).2 (by decide) (by decide) ?_
    refine XS.aload X14.here hx rfl (hb hby d17_102) rfl rfl ?_
    exact k)
  obtain ⟨T17, X17, e17, st17⟩ := getF X14 hx hZ hown (Or.inr (hU 66 _ rfl)) Via.refl e14 F_size_kkR (g := (mkF m 104 #[rv oR, own_l (256 : Int64), .second, iv p3, iv p4, rv x1, iv (0 : Int32), iv (0 : Int32), rv kkR, .unset] [(.ref kkR)])) rfl rfl (hb hby d17_104)
  have R18 := fun t k => R16 t (st17 t k)
  have R19 : ∀ t, own_S p e below T17 (mkF m 114 #[rv oR, own_l (256 : Int64), .second, iv p3, iv p4, rv x1, iv (0 : Int32), iv (0 : Int32), rv kkR, iv (1 : Int32)] [(.ref kkR)]) t → own_S p e below s₁ f0 t := fun t k => R18 t (by
    refine XS.iload X17.here hx rfl (hb hby d17_107) rfl  ?_
    refine XS.isub X17.here hx rfl (hb hby d17_109) rfl ?_
    refine XS.istore X17.here hx rfl (hb hby d17_110) rfl (l' := #[rv oR, own_l (256 : Int64), .second, iv p3, iv p4, rv x1, iv (0 : Int32), iv (0 : Int32), rv kkR, iv (1 : Int32)]) rfl ?_
    refine XS.aload X17.here hx rfl (hb hby d17_112) rfl rfl ?_
    exact k)
  obtain ⟨T20, X20, e20, st20⟩ := getF X17 hx hZ hown (Or.inr (hU 83 _ rfl)) Via.refl e17 F_starts_kkR (g := (mkF m 114 #[rv oR, own_l (256 : Int64), .second, iv p3, iv p4, rv x1, iv (0 : Int32), iv (0 : Int32), rv kkR, iv (1 : Int32)] [(.ref kkR)])) rfl rfl (hb hby d17_114)
  have R21 := fun t k => R19 t (st20 t k)
  have R22 : ∀ t, own_S p e below T20 (mkF m 121 #[rv oR, own_l (256 : Int64), .second, iv p3, iv p4, rv x1, iv (0 : Int32), iv (0 : Int32), rv kkR, iv (1 : Int32)] [(.ref kkR), (.int (0 : Int32)), (.ref saR)]) t → own_S p e below s₁ f0 t := fun t k => R21 t (by
    refine XS.iload X20.here hx rfl (hb hby d17_117) rfl  ?_
    refine XS.aload X20.here hx rfl (hb hby d17_119) rfl rfl ?_
    exact k)
  obtain ⟨T23, X23, e23, st23⟩ := getF X20 hx hZ hown (Or.inr (hU 83 _ rfl)) Via.refl e20 F_starts_kkR (g := (mkF m 121 #[rv oR, own_l (256 : Int64), .second, iv p3, iv p4, rv x1, iv (0 : Int32), iv (0 : Int32), rv kkR, iv (1 : Int32)] [(.ref kkR), (.int (0 : Int32)), (.ref saR)])) rfl rfl (hb hby d17_121)
  have R24 := fun t k => R22 t (st23 t k)
  have R25 : ∀ t, own_S p e below T23 (mkF m 130 #[rv oR, own_l (256 : Int64), .second, iv p3, iv p4, rv x1, iv (0 : Int32), iv (0 : Int32), rv kkR, iv (1 : Int32)] [(.int (1 : Int32)), (.int (1 : Int32)), (.ref saR), (.int (0 : Int32)), (.ref saR)]) t → own_S p e below s₁ f0 t := fun t k => R24 t (by
    refine XS.iload X23.here hx rfl (hb hby d17_124) rfl  ?_
    refine XS.iconst X23.here hx rfl (hb hby d17_126) ?_
    refine XS.iadd X23.here hx rfl (hb hby d17_127) rfl ?_
    refine XS.iload X23.here hx rfl (hb hby d17_128) rfl  ?_
    exact k)
  obtain ⟨T26, h26, L26, X26, e26, N26, Kc26, v26_, st26⟩ := cpA X23 hx hZ hown (hU 115 _ rfl) (hU 118 _ rfl) (hU 116 _ rfl) (hU 117 _ rfl) e23 A_saR A_saR (us := [(.int x0)]) (Or.inl ⟨rfl, rfl⟩) (by decide) (by decide) (by decide) (by decide) (by decide) rfl (Nat.le_of_ble_eq_true rfl) N0 g_saR (g := (mkF m 130 #[rv oR, own_l (256 : Int64), .second, iv p3, iv p4, rv x1, iv (0 : Int32), iv (0 : Int32), rv kkR, iv (1 : Int32)] [(.int (1 : Int32)), (.int (1 : Int32)), (.ref saR), (.int (0 : Int32)), (.ref saR)])) rfl (by rw [hml]; rfl) rfl (hb hby d17_130) (by decide) (W := 0) (Nat.le_of_eq rfl) (by decide)
  have f26_E_oR := E_oR.keep Kc26
  have f26_F_chunks_oR := F_chunks_oR.keep Kc26 (ninS (Exa.neArv E_oR A_saR (hU 13 _ rfl)) nin0)
  have f26_F_chunkCount_oR := F_chunkCount_oR.keep Kc26 (ninS (Exa.neArv E_oR A_saR (hU 13 _ rfl)) nin0)
  have f26_F_firsts_oR := F_firsts_oR.keep Kc26 (ninS (Exa.neArv E_oR A_saR (hU 13 _ rfl)) nin0)
  have f26_F_withItems_oR := F_withItems_oR.keep Kc26 (ninS (Exa.neArv E_oR A_saR (hU 13 _ rfl)) nin0)
  have f26_A_ckR := A_ckR.keep Kc26 (ninS ne_ckR_saR nin0)
  have f26_E_kkR := E_kkR.keep Kc26
  have f26_F_size_kkR := F_size_kkR.keep Kc26 (ninS (Exa.neArv E_kkR A_saR (hU 28 _ rfl)) nin0)
  have f26_F_starts_kkR := F_starts_kkR.keep Kc26 (ninS (Exa.neArv E_kkR A_saR (hU 28 _ rfl)) nin0)
  have f26_A_fiR := A_fiR.keep Kc26 (ninS ne_fiR_saR nin0)
  have f26_F_ends_kkR := F_ends_kkR.keep Kc26 (ninS (Exa.neArv E_kkR A_saR (hU 28 _ rfl)) nin0)
  have f26_F_items_kkR := F_items_kkR.keep Kc26 (ninS (Exa.neArv E_kkR A_saR (hU 28 _ rfl)) nin0)
  have f26_A_enR := A_enR.keep Kc26 (ninS (Ne.symm ne_saR_enR) nin0)
  have f26_A_itR := A_itR.keep Kc26 (ninS (Ne.symm ne_saR_itR) nin0)
  have f26_E_x1 := E_x1.keep Kc26
  have f26_E_v0 := E_v0.keep Kc26
  have z26 : n0 ≤ h26.size := Nat.le_trans Z0 Kc26.1
  have K26 : Keep h0 h26 [saR, enR, itR, kkR, fiR] := (Keep.refl h0 [saR, enR, itR, kkR, fiR]).trans Kc26 (allS (Or.inl (List.mem_of_getElem? (i := 0) rfl)) all0)
  have v26 : Arv Z h26 saR kstR .int (256 : Int32) [(.int x0), (.int x0), (.int (0 : Int32))] (.int (0 : Int32)) := v26_
  have R27 := fun t k => R25 t (st26 t k)
  have R28 : ∀ t, own_S p e below T26 (mkF m 135 #[rv oR, own_l (256 : Int64), .second, iv p3, iv p4, rv x1, iv (0 : Int32), iv (0 : Int32), rv kkR, iv (1 : Int32)] [(.ref kkR)]) t → own_S p e below s₁ f0 t := fun t k => R27 t (by
    refine XS.aload X26.here hx rfl (hb hby d17_133) rfl rfl ?_
    exact k)
  obtain ⟨T29, X29, e29, st29⟩ := getF X26 hx hZ hown (Or.inr (hU 83 _ rfl)) Via.refl e26 f26_F_starts_kkR (g := (mkF m 135 #[rv oR, own_l (256 : Int64), .second, iv p3, iv p4, rv x1, iv (0 : Int32), iv (0 : Int32), rv kkR, iv (1 : Int32)] [(.ref kkR)])) rfl rfl (hb hby d17_135)
  have R30 := fun t k => R28 t (st29 t k)
  have R31 : ∀ t, own_S p e below T29 (mkF m 141 #[rv oR, own_l (256 : Int64), .second, iv p3, iv p4, rv x1, iv (0 : Int32), iv (0 : Int32), rv kkR, iv (1 : Int32)] [(.int p3), (.int (0 : Int32)), (.ref saR)]) t → own_S p e below s₁ f0 t := fun t k => R30 t (by
    refine XS.iload X29.here hx rfl (hb hby d17_138) rfl  ?_
    refine XS.iloadN X29.here hx rfl (hb hby d17_140) rfl  ?_
    exact k)
  obtain ⟨cl32, Ar32, q32, S32, n32_, H32, G32⟩ := id v26
  have hin32 : ¬ ((0 : Int32) < 0 ∨ cl32.slots.size ≤ ((0 : Int32)).toNatClampNeg) := inb_of S32 ⟨by decide, by decide⟩
  obtain ⟨T32, h32, X32, e32, W32, st32⟩ := stI X29 hx hZ e29 Ar32 (j := (0 : Int32)) hin32 (g := (mkF m 141 #[rv oR, own_l (256 : Int64), .second, iv p3, iv p4, rv x1, iv (0 : Int32), iv (0 : Int32), rv kkR, iv (1 : Int32)] [(.int p3), (.int (0 : Int32)), (.ref saR)])) rfl rfl (hb hby d17_141)
  have f32_E_oR := f26_E_oR.wr W32
  have f32_F_chunks_oR := f26_F_chunks_oR.other W32 (Or.inl (Exa.neArv f26_E_oR v26 (hU 13 _ rfl)))
  have f32_F_chunkCount_oR := f26_F_chunkCount_oR.other W32 (Or.inl (Exa.neArv f26_E_oR v26 (hU 13 _ rfl)))
  have f32_F_firsts_oR := f26_F_firsts_oR.other W32 (Or.inl (Exa.neArv f26_E_oR v26 (hU 13 _ rfl)))
  have f32_F_withItems_oR := f26_F_withItems_oR.other W32 (Or.inl (Exa.neArv f26_E_oR v26 (hU 13 _ rfl)))
  have f32_A_ckR := f26_A_ckR.other W32 ne_ckR_saR
  have f32_E_kkR := f26_E_kkR.wr W32
  have f32_F_size_kkR := f26_F_size_kkR.other W32 (Or.inl (Exa.neArv f26_E_kkR v26 (hU 28 _ rfl)))
  have f32_F_starts_kkR := f26_F_starts_kkR.other W32 (Or.inl (Exa.neArv f26_E_kkR v26 (hU 28 _ rfl)))
  have f32_A_fiR := f26_A_fiR.other W32 ne_fiR_saR
  have f32_F_ends_kkR := f26_F_ends_kkR.other W32 (Or.inl (Exa.neArv f26_E_kkR v26 (hU 28 _ rfl)))
  have f32_F_items_kkR := f26_F_items_kkR.other W32 (Or.inl (Exa.neArv f26_E_kkR v26 (hU 28 _ rfl)))
  have f32_A_enR := f26_A_enR.other W32 (Ne.symm ne_saR_enR)
  have f32_A_itR := f26_A_itR.other W32 (Ne.symm ne_saR_itR)
  have f32_E_x1 := f26_E_x1.wr W32
  have f32_E_v0 := f26_E_v0.wr W32
  have z32 : n0 ≤ h32.size := by rw [W32.size]; exact z26
  have K32 : Keep h0 h32 [saR, enR, itR, kkR, fiR] := K26.wr W32 (Or.inl (List.mem_of_getElem? (i := 0) rfl))
  have v32 : Arv Z h32 saR kstR .int (256 : Int32) [(.int p3), (.int x0), (.int (0 : Int32))] (.int (0 : Int32)) := Arv.set Ar32 q32 S32 n32_ H32 G32 rfl W32 0 rfl (Nat.le_of_ble_eq_true rfl)
  have N32 := Fr.snoc X32 N26 g_saR
  have R33 := fun t k => R31 t (st32 t k)
  have R34 : ∀ t, own_S p e below T32 (mkF m 143 #[rv oR, own_l (256 : Int64), .second, iv p3, iv p4, rv x1, iv (0 : Int32), iv (0 : Int32), rv kkR, iv (1 : Int32)] [(.ref oR)]) t → own_S p e below s₁ f0 t := fun t k => R33 t (by
    refine XS.aloadN X32.here hx rfl (hb hby d17_142) rfl rfl ?_
    exact k)
  obtain ⟨T35, X35, e35, st35⟩ := getF X32 hx hZ hown (host := "") (Or.inl (hU 24 _ rfl)) Via.refl e32 f32_F_withItems_oR (g := (mkF m 143 #[rv oR, own_l (256 : Int64), .second, iv p3, iv p4, rv x1, iv (0 : Int32), iv (0 : Int32), rv kkR, iv (1 : Int32)] [(.ref oR)])) rfl rfl (hb hby d17_143)
  have R36 := fun t k => R34 t (st35 t k)
  have R37 : ∀ t, own_S p e below T35 (mkF m 151 #[rv oR, own_l (256 : Int64), .second, iv p3, iv p4, rv x1, iv (0 : Int32), iv (0 : Int32), rv kkR, iv (1 : Int32)] [(.ref kkR)]) t → own_S p e below s₁ f0 t := fun t k => R36 t (by
    refine XS.ifNo X35.here hx rfl (hb hby d17_146) rfl ((if0 _ _).trans (feq (by decide : ¬ ((1 : Int32) = (0 : Int32)))).1) ?_
    refine XS.aload X35.here hx rfl (hb hby d17_149) rfl rfl ?_
    exact k)
  obtain ⟨T38, X38, e38, st38⟩ := getF X35 hx hZ hown (Or.inr (hU 84 _ rfl)) Via.refl e35 f32_F_ends_kkR (g := (mkF m 151 #[rv oR, own_l (256 : Int64), .second, iv p3, iv p4, rv x1, iv (0 : Int32), iv (0 : Int32), rv kkR, iv (1 : Int32)] [(.ref kkR)])) rfl rfl (hb hby d17_151)
  have R39 := fun t k => R37 t (st38 t k)
  have R40 : ∀ t, own_S p e below T38 (mkF m 158 #[rv oR, own_l (256 : Int64), .second, iv p3, iv p4, rv x1, iv (0 : Int32), iv (0 : Int32), rv kkR, iv (1 : Int32)] [(.ref kkR), (.int (0 : Int32)), (.ref enR)]) t → own_S p e below s₁ f0 t := fun t k => R39 t (by
    refine XS.iload X38.here hx rfl (hb hby d17_154) rfl  ?_
    refine XS.aload X38.here hx rfl (hb hby d17_156) rfl rfl ?_
    exact k)
  obtain ⟨T41, X41, e41, st41⟩ := getF X38 hx hZ hown (Or.inr (hU 84 _ rfl)) Via.refl e38 f32_F_ends_kkR (g := (mkF m 158 #[rv oR, own_l (256 : Int64), .second, iv p3, iv p4, rv x1, iv (0 : Int32), iv (0 : Int32), rv kkR, iv (1 : Int32)] [(.ref kkR), (.int (0 : Int32)), (.ref enR)])) rfl rfl (hb hby d17_158)
  have R42 := fun t k => R40 t (st41 t k)
  have R43 : ∀ t, own_S p e below T41 (mkF m 167 #[rv oR, own_l (256 : Int64), .second, iv p3, iv p4, rv x1, iv (0 : Int32), iv (0 : Int32), rv kkR, iv (1 : Int32)] [(.int (1 : Int32)), (.int (1 : Int32)), (.ref enR), (.int (0 : Int32)), (.ref enR)]) t → own_S p e below s₁ f0 t := fun t k => R42 t (by
    refine XS.iload X41.here hx rfl (hb hby d17_161) rfl  ?_
    refine XS.iconst X41.here hx rfl (hb hby d17_163) ?_
    refine XS.iadd X41.here hx rfl (hb hby d17_164) rfl ?_
    refine XS.iload X41.here hx rfl (hb hby d17_165) rfl  ?_
    exact k)
  obtain ⟨T44, h44, L44, X44, e44, N44, Kc44, v44_, st44⟩ := cpA X41 hx hZ hown (hU 115 _ rfl) (hU 118 _ rfl) (hU 116 _ rfl) (hU 117 _ rfl) e41 f32_A_enR f32_A_enR (us := [(.int e_0)]) (Or.inl ⟨rfl, rfl⟩) (by decide) (by decide) (by decide) (by decide) (by decide) rfl (Nat.le_of_ble_eq_true rfl) N32 g_enR (g := (mkF m 167 #[rv oR, own_l (256 : Int64), .second, iv p3, iv p4, rv x1, iv (0 : Int32), iv (0 : Int32), rv kkR, iv (1 : Int32)] [(.int (1 : Int32)), (.int (1 : Int32)), (.ref enR), (.int (0 : Int32)), (.ref enR)])) rfl (by rw [hml]; rfl) rfl (hb hby d17_167) (by decide) (W := 0) (Nat.le_of_eq rfl) (by decide)
  have f44_E_oR := f32_E_oR.keep Kc44
  have f44_F_chunks_oR := f32_F_chunks_oR.keep Kc44 (ninS (Exa.neArv f32_E_oR f32_A_enR (hU 13 _ rfl)) nin0)
  have f44_F_chunkCount_oR := f32_F_chunkCount_oR.keep Kc44 (ninS (Exa.neArv f32_E_oR f32_A_enR (hU 13 _ rfl)) nin0)
  have f44_F_firsts_oR := f32_F_firsts_oR.keep Kc44 (ninS (Exa.neArv f32_E_oR f32_A_enR (hU 13 _ rfl)) nin0)
  have f44_F_withItems_oR := f32_F_withItems_oR.keep Kc44 (ninS (Exa.neArv f32_E_oR f32_A_enR (hU 13 _ rfl)) nin0)
  have f44_A_ckR := f32_A_ckR.keep Kc44 (ninS ne_ckR_enR nin0)
  have f44_E_kkR := f32_E_kkR.keep Kc44
  have f44_F_size_kkR := f32_F_size_kkR.keep Kc44 (ninS (Exa.neArv f32_E_kkR f32_A_enR (hU 28 _ rfl)) nin0)
  have f44_F_starts_kkR := f32_F_starts_kkR.keep Kc44 (ninS (Exa.neArv f32_E_kkR f32_A_enR (hU 28 _ rfl)) nin0)
  have f44_A_fiR := f32_A_fiR.keep Kc44 (ninS ne_fiR_enR nin0)
  have f44_F_ends_kkR := f32_F_ends_kkR.keep Kc44 (ninS (Exa.neArv f32_E_kkR f32_A_enR (hU 28 _ rfl)) nin0)
  have f44_F_items_kkR := f32_F_items_kkR.keep Kc44 (ninS (Exa.neArv f32_E_kkR f32_A_enR (hU 28 _ rfl)) nin0)
  have f44_A_itR := f32_A_itR.keep Kc44 (ninS (Ne.symm ne_enR_itR) nin0)
  have f44_E_x1 := f32_E_x1.keep Kc44
  have f44_E_v0 := f32_E_v0.keep Kc44
  have f44_A_saR := v32.keep Kc44 (ninS ne_saR_enR nin0)
  have z44 : n0 ≤ h44.size := Nat.le_trans z32 Kc44.1
  have K44 : Keep h0 h44 [saR, enR, itR, kkR, fiR] := K32.trans Kc44 (allS (Or.inl (List.mem_of_getElem? (i := 1) rfl)) all0)
  have v44 : Arv Z h44 enR kenR .int (256 : Int32) [(.int e_0), (.int e_0), (.int (0 : Int32))] (.int (0 : Int32)) := v44_
  have R45 := fun t k => R43 t (st44 t k)
  have R46 : ∀ t, own_S p e below T44 (mkF m 172 #[rv oR, own_l (256 : Int64), .second, iv p3, iv p4, rv x1, iv (0 : Int32), iv (0 : Int32), rv kkR, iv (1 : Int32)] [(.ref kkR)]) t → own_S p e below s₁ f0 t := fun t k => R45 t (by
    refine XS.aload X44.here hx rfl (hb hby d17_170) rfl rfl ?_
    exact k)
  obtain ⟨T47, X47, e47, st47⟩ := getF X44 hx hZ hown (Or.inr (hU 85 _ rfl)) Via.refl e44 f44_F_items_kkR (g := (mkF m 172 #[rv oR, own_l (256 : Int64), .second, iv p3, iv p4, rv x1, iv (0 : Int32), iv (0 : Int32), rv kkR, iv (1 : Int32)] [(.ref kkR)])) rfl rfl (hb hby d17_172)
  have R48 := fun t k => R46 t (st47 t k)
  have R49 : ∀ t, own_S p e below T47 (mkF m 179 #[rv oR, own_l (256 : Int64), .second, iv p3, iv p4, rv x1, iv (0 : Int32), iv (0 : Int32), rv kkR, iv (1 : Int32)] [(.ref kkR), (.int (0 : Int32)), (.ref itR)]) t → own_S p e below s₁ f0 t := fun t k => R48 t (by
    refine XS.iload X47.here hx rfl (hb hby d17_175) rfl  ?_
    refine XS.aload X47.here hx rfl (hb hby d17_177) rfl rfl ?_
    exact k)
  obtain ⟨T50, X50, e50, st50⟩ := getF X47 hx hZ hown (Or.inr (hU 85 _ rfl)) Via.refl e47 f44_F_items_kkR (g := (mkF m 179 #[rv oR, own_l (256 : Int64), .second, iv p3, iv p4, rv x1, iv (0 : Int32), iv (0 : Int32), rv kkR, iv (1 : Int32)] [(.ref kkR), (.int (0 : Int32)), (.ref itR)])) rfl rfl (hb hby d17_179)
  have R51 := fun t k => R49 t (st50 t k)
  have R52 : ∀ t, own_S p e below T50 (mkF m 188 #[rv oR, own_l (256 : Int64), .second, iv p3, iv p4, rv x1, iv (0 : Int32), iv (0 : Int32), rv kkR, iv (1 : Int32)] [(.int (1 : Int32)), (.int (1 : Int32)), (.ref itR), (.int (0 : Int32)), (.ref itR)]) t → own_S p e below s₁ f0 t := fun t k => R51 t (by
    refine XS.iload X50.here hx rfl (hb hby d17_182) rfl  ?_
    refine XS.iconst X50.here hx rfl (hb hby d17_184) ?_
    refine XS.iadd X50.here hx rfl (hb hby d17_185) rfl ?_
    refine XS.iload X50.here hx rfl (hb hby d17_186) rfl  ?_
    exact k)
  obtain ⟨T53, h53, L53, X53, e53, N53, Kc53, v53_, st53⟩ := cpA X50 hx hZ hown (hU 115 _ rfl) (hU 118 _ rfl) (hU 116 _ rfl) (hU 117 _ rfl) e50 f44_A_itR f44_A_itR (us := [(.ref v0)]) (Or.inr ⟨rfl, rfl, ⟨own_sto f44_A_itR ovr_itR (Ins.of_exa f44_E_v0 (hU 86 _ rfl)), trivial⟩⟩) (by decide) (by decide) (by decide) (by decide) (by decide) rfl (Nat.le_of_ble_eq_true rfl) N44 g_itR (g := (mkF m 188 #[rv oR, own_l (256 : Int64), .second, iv p3, iv p4, rv x1, iv (0 : Int32), iv (0 : Int32), rv kkR, iv (1 : Int32)] [(.int (1 : Int32)), (.int (1 : Int32)), (.ref itR), (.int (0 : Int32)), (.ref itR)])) rfl (by rw [hml]; rfl) rfl (hb hby d17_188) (by decide) (W := 0) (Nat.le_of_eq rfl) (by decide)
  have f53_E_oR := f44_E_oR.keep Kc53
  have f53_F_chunks_oR := f44_F_chunks_oR.keep Kc53 (ninS (Exa.neArv f44_E_oR f44_A_itR (hU 13 _ rfl)) nin0)
  have f53_F_chunkCount_oR := f44_F_chunkCount_oR.keep Kc53 (ninS (Exa.neArv f44_E_oR f44_A_itR (hU 13 _ rfl)) nin0)
  have f53_F_firsts_oR := f44_F_firsts_oR.keep Kc53 (ninS (Exa.neArv f44_E_oR f44_A_itR (hU 13 _ rfl)) nin0)
  have f53_F_withItems_oR := f44_F_withItems_oR.keep Kc53 (ninS (Exa.neArv f44_E_oR f44_A_itR (hU 13 _ rfl)) nin0)
  have f53_A_ckR := f44_A_ckR.keep Kc53 (ninS ne_ckR_itR nin0)
  have f53_E_kkR := f44_E_kkR.keep Kc53
  have f53_F_size_kkR := f44_F_size_kkR.keep Kc53 (ninS (Exa.neArv f44_E_kkR f44_A_itR (hU 28 _ rfl)) nin0)
  have f53_F_starts_kkR := f44_F_starts_kkR.keep Kc53 (ninS (Exa.neArv f44_E_kkR f44_A_itR (hU 28 _ rfl)) nin0)
  have f53_A_fiR := f44_A_fiR.keep Kc53 (ninS ne_fiR_itR nin0)
  have f53_F_ends_kkR := f44_F_ends_kkR.keep Kc53 (ninS (Exa.neArv f44_E_kkR f44_A_itR (hU 28 _ rfl)) nin0)
  have f53_F_items_kkR := f44_F_items_kkR.keep Kc53 (ninS (Exa.neArv f44_E_kkR f44_A_itR (hU 28 _ rfl)) nin0)
  have f53_E_x1 := f44_E_x1.keep Kc53
  have f53_E_v0 := f44_E_v0.keep Kc53
  have f53_A_saR := f44_A_saR.keep Kc53 (ninS ne_saR_itR nin0)
  have f53_A_enR := v44.keep Kc53 (ninS ne_enR_itR nin0)
  have z53 : n0 ≤ h53.size := Nat.le_trans z44 Kc53.1
  have K53 : Keep h0 h53 [saR, enR, itR, kkR, fiR] := K44.trans Kc53 (allS (Or.inl (List.mem_of_getElem? (i := 2) rfl)) all0)
  have v53 : Arv Z h53 itR kitR (.object "java/lang/Object") (256 : Int32) [(.ref v0), (.ref v0), .null] .null := v53_
  have R54 := fun t k => R52 t (st53 t k)
  have R55 : ∀ t, own_S p e below T53 (mkF m 193 #[rv oR, own_l (256 : Int64), .second, iv p3, iv p4, rv x1, iv (0 : Int32), iv (0 : Int32), rv kkR, iv (1 : Int32)] [(.ref kkR)]) t → own_S p e below s₁ f0 t := fun t k => R54 t (by
    refine XS.aload X53.here hx rfl (hb hby d17_191) rfl rfl ?_
    exact k)
  obtain ⟨T56, X56, e56, st56⟩ := getF X53 hx hZ hown (Or.inr (hU 84 _ rfl)) Via.refl e53 f53_F_ends_kkR (g := (mkF m 193 #[rv oR, own_l (256 : Int64), .second, iv p3, iv p4, rv x1, iv (0 : Int32), iv (0 : Int32), rv kkR, iv (1 : Int32)] [(.ref kkR)])) rfl rfl (hb hby d17_193)
  have R57 := fun t k => R55 t (st56 t k)
  have R58 : ∀ t, own_S p e below T56 (mkF m 200 #[rv oR, own_l (256 : Int64), .second, iv p3, iv p4, rv x1, iv (0 : Int32), iv (0 : Int32), rv kkR, iv (1 : Int32)] [(.int p4), (.int (0 : Int32)), (.ref enR)]) t → own_S p e below s₁ f0 t := fun t k => R57 t (by
    refine XS.iload X56.here hx rfl (hb hby d17_196) rfl  ?_
    refine XS.iload X56.here hx rfl (hb hby d17_198) rfl  ?_
    exact k)
  obtain ⟨cl59, Ar59, q59, S59, n59_, H59, G59⟩ := id f53_A_enR
  have hin59 : ¬ ((0 : Int32) < 0 ∨ cl59.slots.size ≤ ((0 : Int32)).toNatClampNeg) := inb_of S59 ⟨by decide, by decide⟩
  obtain ⟨T59, h59, X59, e59, W59, st59⟩ := stI X56 hx hZ e56 Ar59 (j := (0 : Int32)) hin59 (g := (mkF m 200 #[rv oR, own_l (256 : Int64), .second, iv p3, iv p4, rv x1, iv (0 : Int32), iv (0 : Int32), rv kkR, iv (1 : Int32)] [(.int p4), (.int (0 : Int32)), (.ref enR)])) rfl rfl (hb hby d17_200)
  have f59_E_oR := f53_E_oR.wr W59
  have f59_F_chunks_oR := f53_F_chunks_oR.other W59 (Or.inl (Exa.neArv f53_E_oR f53_A_enR (hU 13 _ rfl)))
  have f59_F_chunkCount_oR := f53_F_chunkCount_oR.other W59 (Or.inl (Exa.neArv f53_E_oR f53_A_enR (hU 13 _ rfl)))
  have f59_F_firsts_oR := f53_F_firsts_oR.other W59 (Or.inl (Exa.neArv f53_E_oR f53_A_enR (hU 13 _ rfl)))
  have f59_F_withItems_oR := f53_F_withItems_oR.other W59 (Or.inl (Exa.neArv f53_E_oR f53_A_enR (hU 13 _ rfl)))
  have f59_A_ckR := f53_A_ckR.other W59 ne_ckR_enR
  have f59_E_kkR := f53_E_kkR.wr W59
  have f59_F_size_kkR := f53_F_size_kkR.other W59 (Or.inl (Exa.neArv f53_E_kkR f53_A_enR (hU 28 _ rfl)))
  have f59_F_starts_kkR := f53_F_starts_kkR.other W59 (Or.inl (Exa.neArv f53_E_kkR f53_A_enR (hU 28 _ rfl)))
  have f59_A_fiR := f53_A_fiR.other W59 ne_fiR_enR
  have f59_F_ends_kkR := f53_F_ends_kkR.other W59 (Or.inl (Exa.neArv f53_E_kkR f53_A_enR (hU 28 _ rfl)))
  have f59_F_items_kkR := f53_F_items_kkR.other W59 (Or.inl (Exa.neArv f53_E_kkR f53_A_enR (hU 28 _ rfl)))
  have f59_E_x1 := f53_E_x1.wr W59
  have f59_E_v0 := f53_E_v0.wr W59
  have f59_A_saR := f53_A_saR.other W59 ne_saR_enR
  have f59_A_itR := v53.other W59 (Ne.symm ne_enR_itR)
  have z59 : n0 ≤ h59.size := by rw [W59.size]; exact z53
  have K59 : Keep h0 h59 [saR, enR, itR, kkR, fiR] := K53.wr W59 (Or.inl (List.mem_of_getElem? (i := 1) rfl))
  have v59 : Arv Z h59 enR kenR .int (256 : Int32) [(.int p4), (.int e_0), (.int (0 : Int32))] (.int (0 : Int32)) := Arv.set Ar59 q59 S59 n59_ H59 G59 rfl W59 0 rfl (Nat.le_of_ble_eq_true rfl)
  have N59 := Fr.snoc X59 N53 g_enR
  have R60 := fun t k => R58 t (st59 t k)
  have R61 : ∀ t, own_S p e below T59 (mkF m 203 #[rv oR, own_l (256 : Int64), .second, iv p3, iv p4, rv x1, iv (0 : Int32), iv (0 : Int32), rv kkR, iv (1 : Int32)] [(.ref kkR)]) t → own_S p e below s₁ f0 t := fun t k => R60 t (by
    refine XS.aload X59.here hx rfl (hb hby d17_201) rfl rfl ?_
    exact k)
  obtain ⟨T62, X62, e62, st62⟩ := getF X59 hx hZ hown (Or.inr (hU 85 _ rfl)) Via.refl e59 f59_F_items_kkR (g := (mkF m 203 #[rv oR, own_l (256 : Int64), .second, iv p3, iv p4, rv x1, iv (0 : Int32), iv (0 : Int32), rv kkR, iv (1 : Int32)] [(.ref kkR)])) rfl rfl (hb hby d17_203)
  have R63 := fun t k => R61 t (st62 t k)
  have R64 : ∀ t, own_S p e below T62 (mkF m 210 #[rv oR, own_l (256 : Int64), .second, iv p3, iv p4, rv x1, iv (0 : Int32), iv (0 : Int32), rv kkR, iv (1 : Int32)] [(.ref x1), (.int (0 : Int32)), (.ref itR)]) t → own_S p e below s₁ f0 t := fun t k => R63 t (by
    refine XS.iload X62.here hx rfl (hb hby d17_206) rfl  ?_
    refine XS.aload X62.here hx rfl (hb hby d17_208) rfl rfl ?_
    exact k)
  obtain ⟨cl65, Ar65, q65, S65, n65_, H65, G65⟩ := id f59_A_itR
  have hin65 : ¬ ((0 : Int32) < 0 ∨ cl65.slots.size ≤ ((0 : Int32)).toNatClampNeg) := inb_of S65 ⟨by decide, by decide⟩
  obtain ⟨T65, h65, X65, e65, W65, st65⟩ := stR X62 hx hZ e62 Ar65 (j := (0 : Int32)) hin65 rfl (Sto.ofV Ar65 q65 ovr_itR (Ins.of_exa f59_E_x1 (hU 86 _ rfl))) (g := (mkF m 210 #[rv oR, own_l (256 : Int64), .second, iv p3, iv p4, rv x1, iv (0 : Int32), iv (0 : Int32), rv kkR, iv (1 : Int32)] [(.ref x1), (.int (0 : Int32)), (.ref itR)])) rfl rfl (hb hby d17_210)
  have f65_E_oR := f59_E_oR.wr W65
  have f65_F_chunks_oR := f59_F_chunks_oR.other W65 (Or.inl (Exa.neArv f59_E_oR f59_A_itR (hU 13 _ rfl)))
  have f65_F_chunkCount_oR := f59_F_chunkCount_oR.other W65 (Or.inl (Exa.neArv f59_E_oR f59_A_itR (hU 13 _ rfl)))
  have f65_F_firsts_oR := f59_F_firsts_oR.other W65 (Or.inl (Exa.neArv f59_E_oR f59_A_itR (hU 13 _ rfl)))
  have f65_F_withItems_oR := f59_F_withItems_oR.other W65 (Or.inl (Exa.neArv f59_E_oR f59_A_itR (hU 13 _ rfl)))
  have f65_A_ckR := f59_A_ckR.other W65 ne_ckR_itR
  have f65_E_kkR := f59_E_kkR.wr W65
  have f65_F_size_kkR := f59_F_size_kkR.other W65 (Or.inl (Exa.neArv f59_E_kkR f59_A_itR (hU 28 _ rfl)))
  have f65_F_starts_kkR := f59_F_starts_kkR.other W65 (Or.inl (Exa.neArv f59_E_kkR f59_A_itR (hU 28 _ rfl)))
  have f65_A_fiR := f59_A_fiR.other W65 ne_fiR_itR
  have f65_F_ends_kkR := f59_F_ends_kkR.other W65 (Or.inl (Exa.neArv f59_E_kkR f59_A_itR (hU 28 _ rfl)))
  have f65_F_items_kkR := f59_F_items_kkR.other W65 (Or.inl (Exa.neArv f59_E_kkR f59_A_itR (hU 28 _ rfl)))
  have f65_E_x1 := f59_E_x1.wr W65
  have f65_E_v0 := f59_E_v0.wr W65
  have f65_A_saR := f59_A_saR.other W65 ne_saR_itR
  have f65_A_enR := v59.other W65 ne_enR_itR
  have z65 : n0 ≤ h65.size := by rw [W65.size]; exact z59
  have K65 : Keep h0 h65 [saR, enR, itR, kkR, fiR] := K59.wr W65 (Or.inl (List.mem_of_getElem? (i := 2) rfl))
  have v65 : Arv Z h65 itR kitR (.object "java/lang/Object") (256 : Int32) [(.ref x1), (.ref v0), .null] .null := Arv.set Ar65 q65 S65 n65_ H65 G65 rfl W65 0 rfl (Nat.le_of_ble_eq_true rfl)
  have N65 := Fr.snoc X65 N59 g_itR
  have R66 := fun t k => R64 t (st65 t k)
  have R67 : ∀ t, own_S p e below T65 (mkF m 214 #[rv oR, own_l (256 : Int64), .second, iv p3, iv p4, rv x1, iv (0 : Int32), iv (0 : Int32), rv kkR, iv (1 : Int32)] [(.ref kkR), (.ref kkR)]) t → own_S p e below s₁ f0 t := fun t k => R66 t (by
    refine XS.aload X65.here hx rfl (hb hby d17_211) rfl rfl ?_
    refine XS.dup X65.here hx rfl (hb hby d17_213) rfl rfl ?_
    exact k)
  obtain ⟨T68, X68, e68, st68⟩ := getF X65 hx hZ hown (Or.inr (hU 66 _ rfl)) Via.refl e65 f65_F_size_kkR (g := (mkF m 214 #[rv oR, own_l (256 : Int64), .second, iv p3, iv p4, rv x1, iv (0 : Int32), iv (0 : Int32), rv kkR, iv (1 : Int32)] [(.ref kkR), (.ref kkR)])) rfl rfl (hb hby d17_214)
  have R69 := fun t k => R67 t (st68 t k)
  have R70 : ∀ t, own_S p e below T68 (mkF m 219 #[rv oR, own_l (256 : Int64), .second, iv p3, iv p4, rv x1, iv (0 : Int32), iv (0 : Int32), rv kkR, iv (1 : Int32)] [(.int (2 : Int32)), (.ref kkR)]) t → own_S p e below s₁ f0 t := fun t k => R69 t (by
    refine XS.iconst X68.here hx rfl (hb hby d17_217) ?_
    refine XS.iadd X68.here hx rfl (hb hby d17_218) rfl ?_
    exact k)
  obtain ⟨T71, h71, X71, e71, W71, st71⟩ := putF X68 hx hZ hown (Or.inr (hU 66 _ rfl)) Via.refl e68 f65_F_size_kkR f65_E_kkR (Or.inl (hU 67 _ rfl)) (hU 28 _ rfl) (ty := .int) (by decide) rfl rfl (g := (mkF m 219 #[rv oR, own_l (256 : Int64), .second, iv p3, iv p4, rv x1, iv (0 : Int32), iv (0 : Int32), rv kkR, iv (1 : Int32)] [(.int (2 : Int32)), (.ref kkR)])) rfl rfl (hb hby d17_219)
  have fw71 : Fld Z h71 kkR sN1 "size" "I" (.int (2 : Int32)) := f65_F_size_kkR.same W71
  have f71_E_oR := f65_E_oR.wr W71
  have f71_F_chunks_oR := f65_F_chunks_oR.other W71 (Or.inl (Exa.ne f65_E_oR f65_E_kkR (by decide)))
  have f71_F_chunkCount_oR := f65_F_chunkCount_oR.other W71 (Or.inl (Exa.ne f65_E_oR f65_E_kkR (by decide)))
  have f71_F_firsts_oR := f65_F_firsts_oR.other W71 (Or.inl (Exa.ne f65_E_oR f65_E_kkR (by decide)))
  have f71_F_withItems_oR := f65_F_withItems_oR.other W71 (Or.inl (Exa.ne f65_E_oR f65_E_kkR (by decide)))
  have f71_A_ckR := f65_A_ckR.other W71 (Ne.symm (Exa.neArv f65_E_kkR f65_A_ckR (hU 28 _ rfl)))
  have f71_E_kkR := f65_E_kkR.wr W71
  have f71_F_starts_kkR := f65_F_starts_kkR.other W71 (Or.inr (slot_ne (Or.inr (hU 35 _ rfl)) (Or.inl (hU 67 _ rfl)) (by decide) (t := (.array .int)) (t' := .int) (by decide) (by decide)))
  have f71_A_fiR := f65_A_fiR.other W71 (Ne.symm (Exa.neArv f65_E_kkR f65_A_fiR (hU 28 _ rfl)))
  have f71_F_ends_kkR := f65_F_ends_kkR.other W71 (Or.inr (slot_ne (Or.inr (hU 37 _ rfl)) (Or.inl (hU 67 _ rfl)) (by decide) (t := (.array .int)) (t' := .int) (by decide) (by decide)))
  have f71_F_items_kkR := f65_F_items_kkR.other W71 (Or.inr (slot_ne (Or.inr (hU 41 _ rfl)) (Or.inl (hU 67 _ rfl)) (by decide) (t := (.array (.object "java/lang/Object"))) (t' := .int) (by decide) (by decide)))
  have f71_E_x1 := f65_E_x1.wr W71
  have f71_E_v0 := f65_E_v0.wr W71
  have f71_A_saR := f65_A_saR.other W71 (Ne.symm (Exa.neArv f65_E_kkR f65_A_saR (hU 28 _ rfl)))
  have f71_A_enR := f65_A_enR.other W71 (Ne.symm (Exa.neArv f65_E_kkR f65_A_enR (hU 28 _ rfl)))
  have f71_A_itR := v65.other W71 (Ne.symm (Exa.neArv f65_E_kkR v65 (hU 28 _ rfl)))
  have z71 : n0 ≤ h71.size := by rw [W71.size]; exact z65
  have K71 : Keep h0 h71 [saR, enR, itR, kkR, fiR] := K65.wr W71 (Or.inl (List.mem_of_getElem? (i := 3) rfl))
  have N71 := Fr.snoc X71 N65 g_kkR
  have R72 := fun t k => R70 t (st71 t k)
  have R73 : ∀ t, own_S p e below T71 (mkF m 223 #[rv oR, own_l (256 : Int64), .second, iv p3, iv p4, rv x1, iv (0 : Int32), iv (0 : Int32), rv kkR, iv (1 : Int32)] [(.ref oR)]) t → own_S p e below s₁ f0 t := fun t k => R72 t (by
    refine XS.aloadN X71.here hx rfl (hb hby d17_222) rfl rfl ?_
    exact k)
  obtain ⟨T74, X74, e74, st74⟩ := getF X71 hx hZ hown (host := "") (Or.inl (hU 20 _ rfl)) Via.refl e71 f71_F_firsts_oR (g := (mkF m 223 #[rv oR, own_l (256 : Int64), .second, iv p3, iv p4, rv x1, iv (0 : Int32), iv (0 : Int32), rv kkR, iv (1 : Int32)] [(.ref oR)])) rfl rfl (hb hby d17_223)
  have R75 := fun t k => R73 t (st74 t k)
  have R76 : ∀ t, own_S p e below T74 (mkF m 230 #[rv oR, own_l (256 : Int64), .second, iv p3, iv p4, rv x1, iv (0 : Int32), iv (0 : Int32), rv kkR, iv (1 : Int32)] [(.ref kkR), (.int (0 : Int32)), (.ref fiR)]) t → own_S p e below s₁ f0 t := fun t k => R75 t (by
    refine XS.iload X74.here hx rfl (hb hby d17_226) rfl  ?_
    refine XS.aload X74.here hx rfl (hb hby d17_228) rfl rfl ?_
    exact k)
  obtain ⟨T77, X77, e77, st77⟩ := getF X74 hx hZ hown (Or.inr (hU 83 _ rfl)) Via.refl e74 f71_F_starts_kkR (g := (mkF m 230 #[rv oR, own_l (256 : Int64), .second, iv p3, iv p4, rv x1, iv (0 : Int32), iv (0 : Int32), rv kkR, iv (1 : Int32)] [(.ref kkR), (.int (0 : Int32)), (.ref fiR)])) rfl rfl (hb hby d17_230)
  have R78 := fun t k => R76 t (st77 t k)
  have R79 : ∀ t, own_S p e below T77 (mkF m 234 #[rv oR, own_l (256 : Int64), .second, iv p3, iv p4, rv x1, iv (0 : Int32), iv (0 : Int32), rv kkR, iv (1 : Int32)] [(.int (0 : Int32)), (.ref saR), (.int (0 : Int32)), (.ref fiR)]) t → own_S p e below s₁ f0 t := fun t k => R78 t (by
    refine XS.iconst X77.here hx rfl (hb hby d17_233) ?_
    exact k)
  obtain ⟨cl80, Ar80, q80, S80, n80_, H80, G80⟩ := id f71_A_saR
  have hin80 : ¬ ((0 : Int32) < 0 ∨ cl80.slots.size ≤ ((0 : Int32)).toNatClampNeg) := inb_of S80 ⟨by decide, by decide⟩
  have hat80 : cl80.slots[((0 : Int32)).toNatClampNeg]? = some (.int p3) := Has.at H80 hin80 rfl
  have R81 : ∀ t, own_S p e below T77 (mkF m 235 #[rv oR, own_l (256 : Int64), .second, iv p3, iv p4, rv x1, iv (0 : Int32), iv (0 : Int32), rv kkR, iv (1 : Int32)] [(.int p3), (.int (0 : Int32)), (.ref fiR)]) t → own_S p e below s₁ f0 t := fun t k => R79 t (X77.iaload hx (j := (0 : Int32)) (v := (.int p3)) (by rw [e77]; exact Ar80.1) (State.isArrayOf_alike hZ.alike Ar80.2.1) Ar80.2.2 hin80 hat80 (g := (mkF m 234 #[rv oR, own_l (256 : Int64), .second, iv p3, iv p4, rv x1, iv (0 : Int32), iv (0 : Int32), rv kkR, iv (1 : Int32)] [(.int (0 : Int32)), (.ref saR), (.int (0 : Int32)), (.ref fiR)])) rfl rfl (hb hby d17_234) _ k)
  obtain ⟨cl82, Ar82, q82, S82, n82_, H82, G82⟩ := id f71_A_fiR
  have hin82 : ¬ ((0 : Int32) < 0 ∨ cl82.slots.size ≤ ((0 : Int32)).toNatClampNeg) := inb_of S82 ⟨by decide, by decide⟩
  obtain ⟨T82, h82, X82, e82, W82, st82⟩ := stI X77 hx hZ e77 Ar82 (j := (0 : Int32)) hin82 (g := (mkF m 235 #[rv oR, own_l (256 : Int64), .second, iv p3, iv p4, rv x1, iv (0 : Int32), iv (0 : Int32), rv kkR, iv (1 : Int32)] [(.int p3), (.int (0 : Int32)), (.ref fiR)])) rfl rfl (hb hby d17_235)
  have f82_E_oR := f71_E_oR.wr W82
  have f82_F_chunks_oR := f71_F_chunks_oR.other W82 (Or.inl (Exa.neArv f71_E_oR f71_A_fiR (hU 13 _ rfl)))
  have f82_F_chunkCount_oR := f71_F_chunkCount_oR.other W82 (Or.inl (Exa.neArv f71_E_oR f71_A_fiR (hU 13 _ rfl)))
  have f82_F_firsts_oR := f71_F_firsts_oR.other W82 (Or.inl (Exa.neArv f71_E_oR f71_A_fiR (hU 13 _ rfl)))
  have f82_F_withItems_oR := f71_F_withItems_oR.other W82 (Or.inl (Exa.neArv f71_E_oR f71_A_fiR (hU 13 _ rfl)))
  have f82_A_ckR := f71_A_ckR.other W82 (Ne.symm ne_fiR_ckR)
  have f82_E_kkR := f71_E_kkR.wr W82
  have f82_F_size_kkR := fw71.other W82 (Or.inl (Exa.neArv f71_E_kkR f71_A_fiR (hU 28 _ rfl)))
  have f82_F_starts_kkR := f71_F_starts_kkR.other W82 (Or.inl (Exa.neArv f71_E_kkR f71_A_fiR (hU 28 _ rfl)))
  have f82_F_ends_kkR := f71_F_ends_kkR.other W82 (Or.inl (Exa.neArv f71_E_kkR f71_A_fiR (hU 28 _ rfl)))
  have f82_F_items_kkR := f71_F_items_kkR.other W82 (Or.inl (Exa.neArv f71_E_kkR f71_A_fiR (hU 28 _ rfl)))
  have f82_E_x1 := f71_E_x1.wr W82
  have f82_E_v0 := f71_E_v0.wr W82
  have f82_A_saR := f71_A_saR.other W82 (Ne.symm ne_fiR_saR)
  have f82_A_enR := f71_A_enR.other W82 (Ne.symm ne_fiR_enR)
  have f82_A_itR := f71_A_itR.other W82 (Ne.symm ne_fiR_itR)
  have z82 : n0 ≤ h82.size := by rw [W82.size]; exact z71
  have K82 : Keep h0 h82 [saR, enR, itR, kkR, fiR] := K71.wr W82 (Or.inl (List.mem_of_getElem? (i := 4) rfl))
  have v82 : Arv Z h82 fiR kfiR .int (1 : Int32) [(.int p3)] (.int (0 : Int32)) := Arv.set Ar82 q82 S82 n82_ H82 G82 rfl W82 0 rfl (Nat.le_of_ble_eq_true rfl)
  have N82 := Fr.snoc X82 N71 g_fiR
  have R83 := fun t k => R81 t (st82 t k)
  obtain ⟨fs, hr, hrun, hended, hW, hsame⟩ := X82.leave (v := none) (fun _ => rfl)
  refine ⟨_, _, pre0 _ (R83 _ ?_), hrun, hended, _, _, rfl, ?_, ⟨_, rfl⟩, hW, hsame.mono (by decide) (by decide)⟩
  · show own_S p e below T82 (mkF m 236 #[rv oR, own_l (256 : Int64), .second, iv p3, iv p4, rv x1, iv (0 : Int32), iv (0 : Int32), rv kkR, iv (1 : Int32)] []) _
    exact X82.returnOut hx Bd.returns (hb hby d17_236) hr
  · show Q_rmOins1_0 Z oR p3 p4 x1 ckR kckR kkR fiR kfiR saR kstR enR kenR itR kitR x0 e_0 v0 h0 n0 _ T82.heap _
    rw [e82]
    exact ⟨rfl, N82, K82, f82_F_size_kkR, f82_F_starts_kkR, v82, f82_A_saR, f82_F_ends_kkR, f82_F_items_kkR, f82_A_enR, f82_A_itR⟩
theorem ef_rmFins1_0 (m : MethodId) (x0 : Addr) (x1 : Int64) (x2 : Int32) (x3 : Int32) (x4 : Addr) : entryFrame m #[(.ref x0), (.long x1), (.int x2), (.int x3), (.ref x4)] 6 = mkF m 0 #[rv x0, own_l x1, .second, iv x2, iv x3, rv x4] [] := by first | (simp [entryFrame, mkF, argsToLocals, Value.category]; done) | rfl
def Q_rmFins1_0 (Z : State) (a1 : Addr) (p2 : Int32) (p3 : Int32) (x1 : Addr) (oR : Addr) (ckR : Addr) (kckR : ClassId) (kkR : Addr) (fiR : Addr) (kfiR : ClassId) (saR : Addr) (kstR : ClassId) (enR : Addr) (kenR : ClassId) (itR : Addr) (kitR : ClassId) (x0 : Int32) (e_0 : Int32) (v0 : Addr) (oU : Addr) (ckU : Addr) (kckU : ClassId) (kkU : Addr) (h0 : Heap) (n0 : Nat) (v : Option Value) (h : Heap) (L : List Loc) : Prop := v = none ∧ Fr n0 L ∧ Keep h0 h [saR, enR, itR, kkR, fiR] ∧ (Fld Z h kkR sN1 "size" "I" (.int (2 : Int32))) ∧ (Fld Z h kkR sN1 "starts" "[I" (.ref saR)) ∧ (Arv Z h fiR kfiR .int (1 : Int32) [(.int p2)] (.int (0 : Int32))) ∧ (Arv Z h saR kstR .int (256 : Int32) [(.int p2), (.int x0), (.int (0 : Int32))] (.int (0 : Int32))) ∧ (Fld Z h kkR sN1 "ends" "[I" (.ref enR)) ∧ (Fld Z h kkR sN1 "items" "[Ljava/lang/Object;" (.ref itR)) ∧ (Arv Z h enR kenR .int (256 : Int32) [(.int p3), (.int e_0), (.int (0 : Int32))] (.int (0 : Int32))) ∧ (Arv Z h itR kitR (.object "java/lang/Object") (256 : Int32) [(.ref x1), (.ref v0), .null] .null)
set_option maxRecDepth 65536 in
set_option maxHeartbeats 40000000 in
theorem rmFins1_0 (l : Launch) (Z : State) (a0 : Array Value) (hw : ∀ d ∈ tables_1, d.before a0 Z = true) (ws : List Jvm.Cond) (a1 : Addr) (p2 : Int32) (p3 : Int32) (x1 : Addr) (oR : Addr) (ckR : Addr) (kckR : ClassId) (kkR : Addr) (fiR : Addr) (kfiR : ClassId) (saR : Addr) (kstR : ClassId) (enR : Addr) (kenR : ClassId) (itR : Addr) (kitR : ClassId) (x0 : Int32) (e_0 : Int32) (v0 : Addr) (oU : Addr) (ckU : Addr) (kckU : ClassId) (kkU : Addr) (h0 : Heap) (n0 : Nat) (Z0 : n0 ≤ h0.size) (F_read_a1 : Fld Z h0 a1 sN2 "read" sN4 (.ref oR)) (F_unread_a1 : Fld Z h0 a1 sN2 "unread" sN4 (.ref oU)) (E_oR : Exa Z h0 oR sN0) (F_chunks_oR : Fld Z h0 oR sN0 "chunks" sN3 (.ref ckR)) (F_chunkCount_oR : Fld Z h0 oR sN0 "chunkCount" "I" (.int (1 : Int32))) (F_firsts_oR : Fld Z h0 oR sN0 "firsts" "[I" (.ref fiR)) (F_withItems_oR : Fld Z h0 oR sN0 "withItems" "Z" (.int (1 : Int32))) (A_ckR : Arv Z h0 ckR kckR (.object sN1) (1 : Int32) [(.ref kkR)] .null) (E_kkR : Exa Z h0 kkR sN1) (F_size_kkR : Fld Z h0 kkR sN1 "size" "I" (.int (1 : Int32))) (F_starts_kkR : Fld Z h0 kkR sN1 "starts" "[I" (.ref saR)) (A_fiR : Arv Z h0 fiR kfiR .int (1 : Int32) [(.int x0)] (.int (0 : Int32))) (A_saR : Arv Z h0 saR kstR .int (256 : Int32) [(.int x0), (.int (0 : Int32)), (.int (0 : Int32))] (.int (0 : Int32))) (F_ends_kkR : Fld Z h0 kkR sN1 "ends" "[I" (.ref enR)) (F_items_kkR : Fld Z h0 kkR sN1 "items" "[Ljava/lang/Object;" (.ref itR)) (A_enR : Arv Z h0 enR kenR .int (256 : Int32) [(.int e_0), (.int (0 : Int32)), (.int (0 : Int32))] (.int (0 : Int32))) (A_itR : Arv Z h0 itR kitR (.object "java/lang/Object") (256 : Int32) [(.ref v0), .null, .null] .null) (E_x1 : Exa Z h0 x1 "java/lang/Integer") (E_v0 : Exa Z h0 v0 "java/lang/Integer") (g_fiR : n0 ≤ fiR) (g_ckR : n0 ≤ ckR) (g_saR : n0 ≤ saR) (g_enR : n0 ≤ enR) (g_itR : n0 ≤ itR) (g_kkR : n0 ≤ kkR) (ne_fiR_ckR : fiR ≠ ckR) (ne_fiR_saR : fiR ≠ saR) (ne_fiR_enR : fiR ≠ enR) (ne_fiR_itR : fiR ≠ itR) (ne_ckR_saR : ckR ≠ saR) (ne_ckR_enR : ckR ≠ enR) (ne_ckR_itR : ckR ≠ itR) (ne_saR_enR : saR ≠ enR) (ne_saR_itR : saR ≠ itR) (ne_enR_itR : enR ≠ itR) (ovr_itR : Ovr Z kitR "java/lang/Object") (E_oU : Exa Z h0 oU sN0) (F_chunks_oU : Fld Z h0 oU sN0 "chunks" sN3 (.ref ckU)) (A_ckU : Arv Z h0 ckU kckU (.object sN1) (1 : Int32) [(.ref kkU)] .null) (E_kkU : Exa Z h0 kkU sN1) (F_size_kkU : Fld Z h0 kkU sN1 "size" "I" (.int (0 : Int32))) (E_a1 : Exa Z h0 a1 sN2) (ne_ckU_saR : ckU ≠ saR) (ne_ckU_enR : ckU ≠ enR) (ne_ckU_itR : ckU ≠ itR) (ne_ckU_fiR : ckU ≠ fiR) (ne_kkU_kkR : kkU ≠ kkR) (ho0 : p2 < x0) :
    own_M l (⟨sN2, "insert", sN5⟩ : MethodName) (Jvm.Cond.code (⟨sN2, "insert", sN5⟩ : MethodName) prog_116_method_10_code 6 none :: ws) ({ frames := 2, cells := 0, slots := 0, locals := 39 } : Room) #[(.ref a1), (.long (256 : Int64)), (.int p2), (.int p3), (.ref x1)] Z h0 (Q_rmFins1_0 Z a1 p2 p3 x1 oR ckR kckR kkR fiR kfiR saR kstR enR kenR itR kitR x0 e_0 v0 oU ckU kckU kkU h0 n0) := by
  refine MetFree.of_bodySF (plainFor_of_name pn_3) hisR ?_
  intro p e s m args below meth c s₁ Bd hml0 hP hK
  obtain ⟨rfl, hZ, hh⟩ := hP
  have hx := Bd.exec
  have hby := Bd.bytes
  have hml : c.maxLocals = 6 := hml0
  have hown : s.vm.findClass sN2 = some m.cls := findClass_of_methodNamed Bd.named
  have hnm := (name_of_methodNamed Bd.named Bd.method).1
  have X0 : Stand p l e ({ frames := 2, cells := 0, slots := 0, locals := 39 } : Room) s m #[(.ref a1), (.long (256 : Int64)), (.int p2), (.int p3), (.ref x1)] below meth c s₁ [] 0 0 := Stand.of_body Bd
  have hU : ∀ (i : Nat) (d : Jvm.Cond), tables_1[i]? = some d → d.before a0 Z = true := fun i d h => hw d (List.mem_of_getElem? h)
  have e0 : s₁.heap = h0 := by rw [← hh, Bd.state]; rfl
  have N0 := Fr.nil n0
  obtain ⟨f0, hf0⟩ : ∃ f : JFrame, f = mkF m 0 #[rv a1, own_l (256 : Int64), .second, iv p2, iv p3, rv x1] [] := ⟨_, rfl⟩
  have pre0 : ∀ t, own_S p e below s₁ f0 t → Steps p.tables e below (s₁.setTop (entryFrame m #[(.ref a1), (.long (256 : Int64)), (.int p2), (.int p3), (.ref x1)] 6)) t := fun t k => castTop ((ef_rmFins1_0 m a1 (256 : Int64) p2 p3 x1).trans hf0.symm) k
  have R0 : ∀ t, own_S p e below s₁ (mkF m 0 #[rv a1, own_l (256 : Int64), .second, iv p2, iv p3, rv x1] []) t → own_S p e below s₁ f0 t := by rw [hf0]; exact fun t k => k
  have R1 : ∀ t, own_S p e below s₁ (mkF m 1 #[rv a1, own_l (256 : Int64), .second, iv p2, iv p3, rv x1] [(.ref a1)]) t → own_S p e below s₁ f0 t := fun t k => R0 t (by
    refine XS.aloadN X0.here hx rfl (hb hby d15_0) rfl rfl ?_
    exact k)
  obtain ⟨T2, X2, e2, st2⟩ := getF X0 hx hZ hown (host := "") (Or.inl (hU 45 _ rfl)) Via.refl e0 F_read_a1 (g := (mkF m 1 #[rv a1, own_l (256 : Int64), .second, iv p2, iv p3, rv x1] [(.ref a1)])) rfl rfl (hb hby d15_1)
  have R3 := fun t k => R1 t (st2 t k)
  have R4 : ∀ t, own_S p e below T2 (mkF m 6 #[rv a1, own_l (256 : Int64), .second, iv p2, iv p3, rv x1] [(.int p2), (.long (256 : Int64)), (.ref oR)]) t → own_S p e below s₁ f0 t := fun t k => R3 t (by
    refine XS.lloadN X2.here hx rfl (hb hby d15_4) rfl  ?_
    refine XS.iloadN X2.here hx rfl (hb hby d15_5) rfl  ?_
    exact k)
  obtain ⟨cq5, kq5, q5a, q5b, q5c⟩ := isOf hZ e2 E_oR
  obtain ⟨_, _, ⟨T5, L5, k5, n5⟩, -, X5, ⟨Lc5, hQ5, l5, y5, z5⟩, st5⟩ := X2.virtualBack hx (y := (⟨sN0, "holds", "(JI)Z"⟩ : MethodName)) (z := (⟨sN0, "holds", "(JI)Z"⟩ : MethodName)) hown (mvT hZ (hU 105 _ rfl)) (mvT hZ (hU 106 _ rfl)) (notFace_of_selects (args := #[]) (mvT hZ (hU 108 _ rfl))) (mvT hZ (hU 108 _ rfl)) (mvT hZ (hU 107 _ rfl)) (by decide) (backOf (W := 0) (rmHolds1_0 l Z a0 hw [] oR p2 ckR kckR kkR saR kstR x0 h0 n0 Z0 F_chunks_oR F_chunkCount_oR A_ckR F_size_kkR F_starts_kkR A_saR ho0) hZ (hU 109 _ rfl) (hU 14 _ rfl) (by decide) (by decide)) q5a q5c (g := (mkF m 6 #[rv a1, own_l (256 : Int64), .second, iv p2, iv p3, rv x1] [(.int p2), (.long (256 : Int64)), (.ref oR)])) rfl (by rw [hml]; rfl) (Steps.refl _) (argsL := [(.long (256 : Int64)), (.int p2)]) (rest := []) (lenOf pd_12 rfl) rfl (Nat.le_of_eq rfl) (hb hby d15_6) (fun _ _ => ⟨rfl, e2, (by decide : 0 + 0 ≤ _), (by decide : 0 + 0 ≤ _)⟩)
  dsimp only [Pt.U, Pt.locs, Pt.cells, Pt.slots] at X5 l5 y5 z5 st5 hQ5
  subst l5 y5 z5
  obtain ⟨rfl, N5q, p5_0⟩ := hQ5
  have N5 := Fr.app N0 N5q
  have R6 := fun t k => R4 t (st5.trans k)
  have R7 : ∀ t, own_S p e below T5 (mkF m 23 #[rv a1, own_l (256 : Int64), .second, iv p2, iv p3, rv x1] [(.int ((256 : Int64).toInt32))]) t → own_S p e below s₁ f0 t := fun t k => R6 t (by
    refine XS.ifYes X5.here hx rfl (pc0 := 9) (pc' := 21) rfl (hb hby d15_9) rfl ((if0 _ _).trans (feq (by decide : ¬ ((1 : Int32) = (0 : Int32)))).2) (by decide) (by decide) ?_
    refine XS.lloadN X5.here hx rfl (hb hby d15_21) rfl  ?_
    refine XS.l2i X5.here hx rfl (hb hby d15_22) rfl ?_
    exact k)
  have R8 : ∀ t, own_S p e below T5 (mkF m 23 #[rv a1, own_l (256 : Int64), .second, iv p2, iv p3, rv x1] [(.int (256 : Int32))]) t → own_S p e below s₁ f0 t := by have q := R7; rw [((by decide) : ((256 : Int64).toInt32) = (256 : Int32))] at q; exact q
  have R9 : ∀ t, own_S p e below T5 (mkF m 30 #[rv a1, own_l (256 : Int64), .second, iv p2, iv p3, rv x1] [(.ref a1)]) t → own_S p e below s₁ f0 t := fun t k => R8 t (by
    refine XS.sipush X5.here hx rfl (hb hby d15_23) ?_
    refine XS.icmpNo X5.here hx rfl (hb hby d15_26) rfl (flt (by decide : ¬ ((256 : Int32) < (256 : Int32)))).1 ?_
    refine XS.aloadN X5.here hx rfl (hb hby d15_29) rfl rfl ?_
    exact k)
  obtain ⟨T10, X10, e10, st10⟩ := getF X5 hx hZ hown (host := "") (Or.inl (hU 47 _ rfl)) Via.refl p5_0 F_unread_a1 (g := (mkF m 30 #[rv a1, own_l (256 : Int64), .second, iv p2, iv p3, rv x1] [(.ref a1)])) rfl rfl (hb hby d15_30)
  have R11 := fun t k => R9 t (st10 t k)
  obtain ⟨cq12, kq12, q12a, q12b, q12c⟩ := isOf hZ e10 E_oU
  obtain ⟨_, _, ⟨T12, L12, k12, n12⟩, -, X12, ⟨Lc12, hQ12, l12, y12, z12⟩, st12⟩ := X10.virtualBack hx (y := (⟨sN0, "isEmpty", "()Z"⟩ : MethodName)) (z := (⟨sN0, "isEmpty", "()Z"⟩ : MethodName)) hown (mvT hZ (hU 68 _ rfl)) (mvT hZ (hU 69 _ rfl)) (notFace_of_selects (args := #[]) (mvT hZ (hU 71 _ rfl))) (mvT hZ (hU 71 _ rfl)) (mvT hZ (hU 70 _ rfl)) (by decide) (backOf (W := 0) (rmEmp0 l Z a0 hw [] oU ckU kckU kkU h0 n0 Z0 F_chunks_oU A_ckU F_size_kkU) hZ (hU 72 _ rfl) (hU 14 _ rfl) (by decide) (by decide)) q12a q12c (g := (mkF m 33 #[rv a1, own_l (256 : Int64), .second, iv p2, iv p3, rv x1] [(.ref oU)])) rfl (by rw [hml]; rfl) (Steps.refl _) (argsL := []) (rest := []) (lenOf pd_6 rfl) rfl (Nat.le_of_eq rfl) (hb hby d15_33) (fun _ _ => ⟨rfl, e10, (by decide : 0 + 0 ≤ _), (by decide : 0 + 0 ≤ _)⟩)
  dsimp only [Pt.U, Pt.locs, Pt.cells, Pt.slots] at X12 l12 y12 z12 st12 hQ12
  subst l12 y12 z12
  obtain ⟨rfl, N12q, p12_0⟩ := hQ12
  have N12 := Fr.app N5 N12q
  have R13 := fun t k => R11 t (st12.trans k)
  have R14 : ∀ t, own_S p e below T12 (mkF m 95 #[rv a1, own_l (256 : Int64), .second, iv p2, iv p3, rv x1] [(.ref a1)]) t → own_S p e below s₁ f0 t := fun t k => R13 t (by
    refine XS.ifYes X12.here hx rfl (pc0 := 36) (pc' := 68) rfl (hb hby d15_36) rfl ((if0 _ _).trans (feq (by decide : ¬ ((1 : Int32) = (0 : Int32)))).2) (by decide) (by decide) ?_
    refine XS.aload X12.here hx rfl (hb hby d15_68) rfl rfl ?_
    refine XS.ifnonnullYes X12.here hx rfl (pc0 := 70) (pc' := 94) rfl (hb hby d15_70) rfl (by decide) (by decide) ?_
    refine XS.aloadN X12.here hx rfl (hb hby d15_94) rfl rfl ?_
    exact k)
  obtain ⟨T15, X15, e15, st15⟩ := getF X12 hx hZ hown (host := "") (Or.inl (hU 45 _ rfl)) Via.refl p12_0 F_read_a1 (g := (mkF m 95 #[rv a1, own_l (256 : Int64), .second, iv p2, iv p3, rv x1] [(.ref a1)])) rfl rfl (hb hby d15_95)
  have R16 := fun t k => R14 t (st15 t k)
  have R17 : ∀ t, own_S p e below T15 (mkF m 104 #[rv a1, own_l (256 : Int64), .second, iv p2, iv p3, rv x1] [(.ref x1), (.int p3), (.int p2), (.long (256 : Int64)), (.ref oR)]) t → own_S p e below s₁ f0 t := fun t k => R16 t (by
    refine XS.lloadN X15.here hx rfl (hb hby d15_98) rfl  ?_
    refine XS.iloadN X15.here hx rfl (hb hby d15_99) rfl  ?_
    refine XS.iload X15.here hx rfl (hb hby d15_100) rfl  ?_
    refine XS.aload X15.here hx rfl (hb hby d15_102) rfl rfl ?_
    exact k)
  obtain ⟨cq18, kq18, q18a, q18b, q18c⟩ := isOf hZ e15 E_oR
  obtain ⟨_, _, ⟨T18, L18, k18, n18⟩, -, X18, ⟨Lc18, hQ18, l18, y18, z18⟩, st18⟩ := X15.virtualBack hx (y := (⟨sN0, "insert", sN5⟩ : MethodName)) (z := (⟨sN0, "insert", sN5⟩ : MethodName)) hown (mvT hZ (hU 110 _ rfl)) (mvT hZ (hU 111 _ rfl)) (notFace_of_selects (args := #[]) (mvT hZ (hU 113 _ rfl))) (mvT hZ (hU 113 _ rfl)) (mvT hZ (hU 112 _ rfl)) (by decide) (backOf (W := 0) (rmOins1_0 l Z a0 hw [] oR p2 p3 x1 ckR kckR kkR fiR kfiR saR kstR enR kenR itR kitR x0 e_0 v0 h0 n0 Z0 E_oR F_chunks_oR F_chunkCount_oR F_firsts_oR F_withItems_oR A_ckR E_kkR F_size_kkR F_starts_kkR A_fiR A_saR F_ends_kkR F_items_kkR A_enR A_itR E_x1 E_v0 g_fiR g_ckR g_saR g_enR g_itR g_kkR ne_fiR_ckR ne_fiR_saR ne_fiR_enR ne_fiR_itR ne_ckR_saR ne_ckR_enR ne_ckR_itR ne_saR_enR ne_saR_itR ne_enR_itR ovr_itR) hZ (hU 114 _ rfl) (hU 14 _ rfl) (by decide) (by decide)) q18a q18c (g := (mkF m 104 #[rv a1, own_l (256 : Int64), .second, iv p2, iv p3, rv x1] [(.ref x1), (.int p3), (.int p2), (.long (256 : Int64)), (.ref oR)])) rfl (by rw [hml]; rfl) (Steps.refl _) (argsL := [(.long (256 : Int64)), (.int p2), (.int p3), (.ref x1)]) (rest := []) (lenOf pd_13 rfl) rfl (Nat.le_of_eq rfl) (hb hby d15_104) (fun _ _ => ⟨rfl, e15, (by decide : 0 + 0 ≤ _), (by decide : 0 + 0 ≤ _)⟩)
  dsimp only [Pt.U, Pt.locs, Pt.cells, Pt.slots] at X18 l18 y18 z18 st18 hQ18
  subst l18 y18 z18
  obtain ⟨rfl, N18q, p18_0, p18_1, p18_2, p18_3, p18_4, p18_5, p18_6, p18_7, p18_8⟩ := hQ18
  have N18 := Fr.app N12 N18q
  have f18_F_read_a1 := F_read_a1.keep p18_0 (ninS (Exa.neArv E_a1 A_saR (hU 4 _ rfl)) (ninS (Exa.neArv E_a1 A_enR (hU 4 _ rfl)) (ninS (Exa.neArv E_a1 A_itR (hU 4 _ rfl)) (ninS (Exa.ne E_a1 E_kkR (by decide)) (ninS (Exa.neArv E_a1 A_fiR (hU 4 _ rfl)) nin0)))))
  have f18_F_unread_a1 := F_unread_a1.keep p18_0 (ninS (Exa.neArv E_a1 A_saR (hU 4 _ rfl)) (ninS (Exa.neArv E_a1 A_enR (hU 4 _ rfl)) (ninS (Exa.neArv E_a1 A_itR (hU 4 _ rfl)) (ninS (Exa.ne E_a1 E_kkR (by decide)) (ninS (Exa.neArv E_a1 A_fiR (hU 4 _ rfl)) nin0)))))
  have f18_E_oR := E_oR.keep p18_0
  have f18_F_chunks_oR := F_chunks_oR.keep p18_0 (ninS (Exa.neArv E_oR A_saR (hU 13 _ rfl)) (ninS (Exa.neArv E_oR A_enR (hU 13 _ rfl)) (ninS (Exa.neArv E_oR A_itR (hU 13 _ rfl)) (ninS (Exa.ne E_oR E_kkR (by decide)) (ninS (Exa.neArv E_oR A_fiR (hU 13 _ rfl)) nin0)))))
  have f18_F_chunkCount_oR := F_chunkCount_oR.keep p18_0 (ninS (Exa.neArv E_oR A_saR (hU 13 _ rfl)) (ninS (Exa.neArv E_oR A_enR (hU 13 _ rfl)) (ninS (Exa.neArv E_oR A_itR (hU 13 _ rfl)) (ninS (Exa.ne E_oR E_kkR (by decide)) (ninS (Exa.neArv E_oR A_fiR (hU 13 _ rfl)) nin0)))))
  have f18_F_firsts_oR := F_firsts_oR.keep p18_0 (ninS (Exa.neArv E_oR A_saR (hU 13 _ rfl)) (ninS (Exa.neArv E_oR A_enR (hU 13 _ rfl)) (ninS (Exa.neArv E_oR A_itR (hU 13 _ rfl)) (ninS (Exa.ne E_oR E_kkR (by decide)) (ninS (Exa.neArv E_oR A_fiR (hU 13 _ rfl)) nin0)))))
  have f18_F_withItems_oR := F_withItems_oR.keep p18_0 (ninS (Exa.neArv E_oR A_saR (hU 13 _ rfl)) (ninS (Exa.neArv E_oR A_enR (hU 13 _ rfl)) (ninS (Exa.neArv E_oR A_itR (hU 13 _ rfl)) (ninS (Exa.ne E_oR E_kkR (by decide)) (ninS (Exa.neArv E_oR A_fiR (hU 13 _ rfl)) nin0)))))
  have f18_A_ckR := A_ckR.keep p18_0 (ninS ne_ckR_saR (ninS ne_ckR_enR (ninS ne_ckR_itR (ninS (Ne.symm (Exa.neArv E_kkR A_ckR (hU 28 _ rfl))) (ninS (Ne.symm ne_fiR_ckR) nin0)))))
  have f18_E_kkR := E_kkR.keep p18_0
  have f18_E_x1 := E_x1.keep p18_0
  have f18_E_v0 := E_v0.keep p18_0
  have f18_E_oU := E_oU.keep p18_0
  have f18_F_chunks_oU := F_chunks_oU.keep p18_0 (ninS (Exa.neArv E_oU A_saR (hU 13 _ rfl)) (ninS (Exa.neArv E_oU A_enR (hU 13 _ rfl)) (ninS (Exa.neArv E_oU A_itR (hU 13 _ rfl)) (ninS (Exa.ne E_oU E_kkR (by decide)) (ninS (Exa.neArv E_oU A_fiR (hU 13 _ rfl)) nin0)))))
  have f18_A_ckU := A_ckU.keep p18_0 (ninS ne_ckU_saR (ninS ne_ckU_enR (ninS ne_ckU_itR (ninS (Ne.symm (Exa.neArv E_kkR A_ckU (hU 28 _ rfl))) (ninS ne_ckU_fiR nin0)))))
  have f18_E_kkU := E_kkU.keep p18_0
  have f18_F_size_kkU := F_size_kkU.keep p18_0 (ninS (Exa.neArv E_kkU A_saR (hU 28 _ rfl)) (ninS (Exa.neArv E_kkU A_enR (hU 28 _ rfl)) (ninS (Exa.neArv E_kkU A_itR (hU 28 _ rfl)) (ninS ne_kkU_kkR (ninS (Exa.neArv E_kkU A_fiR (hU 28 _ rfl)) nin0)))))
  have f18_E_a1 := E_a1.keep p18_0
  have z18 : n0 ≤ T18.heap.size := Nat.le_trans Z0 p18_0.1
  have K18 : Keep h0 T18.heap [saR, enR, itR, kkR, fiR] := (Keep.refl h0 [saR, enR, itR, kkR, fiR]).trans p18_0 (allS (Or.inl (List.mem_of_getElem? (i := 0) rfl)) (allS (Or.inl (List.mem_of_getElem? (i := 1) rfl)) (allS (Or.inl (List.mem_of_getElem? (i := 2) rfl)) (allS (Or.inl (List.mem_of_getElem? (i := 3) rfl)) (allS (Or.inl (List.mem_of_getElem? (i := 4) rfl)) all0)))))
  have R19 := fun t k => R17 t (st18.trans k)
  obtain ⟨fs, hr, hrun, hended, hW, hsame⟩ := X18.leave (v := none) (fun _ => rfl)
  refine ⟨_, _, pre0 _ (R19 _ ?_), hrun, hended, _, _, rfl, ?_, ⟨_, rfl⟩, hW, hsame.mono (by decide) (by decide)⟩
  · show own_S p e below T18 (mkF m 107 #[rv a1, own_l (256 : Int64), .second, iv p2, iv p3, rv x1] []) _
    exact X18.returnOut hx Bd.returns (hb hby d15_107) hr
  · show Q_rmFins1_0 Z a1 p2 p3 x1 oR ckR kckR kkR fiR kfiR saR kstR enR kenR itR kitR x0 e_0 v0 oU ckU kckU kkU h0 n0 _ T18.heap _
    exact ⟨rfl, N18, K18, p18_1, p18_2, p18_3, p18_4, p18_5, p18_6, p18_7, p18_8⟩
theorem ef_rmFadd1_0 (m : MethodId) (x0 : Addr) (x1 : Int64) (x2 : Int32) (x3 : Int32) (x4 : Addr) : entryFrame m #[(.ref x0), (.long x1), (.int x2), (.int x3), (.ref x4)] 6 = mkF m 0 #[rv x0, own_l x1, .second, iv x2, iv x3, rv x4] [] := by first | (simp [entryFrame, mkF, argsToLocals, Value.category]; done) | rfl
def Q_rmFadd1_0 (Z : State) (a1 : Addr) (p2 : Int32) (p3 : Int32) (x1 : Addr) (oR : Addr) (ckR : Addr) (kckR : ClassId) (kkR : Addr) (fiR : Addr) (kfiR : ClassId) (saR : Addr) (kstR : ClassId) (enR : Addr) (kenR : ClassId) (itR : Addr) (kitR : ClassId) (x0 : Int32) (e_0 : Int32) (v0 : Addr) (oU : Addr) (ckU : Addr) (kckU : ClassId) (kkU : Addr) (h0 : Heap) (n0 : Nat) (v : Option Value) (h : Heap) (L : List Loc) : Prop := v = none ∧ Fr n0 L ∧ Keep h0 h [saR, enR, itR, kkR, fiR] ∧ (Fld Z h kkR sN1 "size" "I" (.int (2 : Int32))) ∧ (Fld Z h kkR sN1 "starts" "[I" (.ref saR)) ∧ (Arv Z h fiR kfiR .int (1 : Int32) [(.int p2)] (.int (0 : Int32))) ∧ (Arv Z h saR kstR .int (256 : Int32) [(.int p2), (.int x0), (.int (0 : Int32))] (.int (0 : Int32))) ∧ (Fld Z h kkR sN1 "ends" "[I" (.ref enR)) ∧ (Fld Z h kkR sN1 "items" "[Ljava/lang/Object;" (.ref itR)) ∧ (Arv Z h enR kenR .int (256 : Int32) [(.int p3), (.int e_0), (.int (0 : Int32))] (.int (0 : Int32))) ∧ (Arv Z h itR kitR (.object "java/lang/Object") (256 : Int32) [(.ref x1), (.ref v0), .null] .null)
set_option maxRecDepth 65536 in
set_option maxHeartbeats 40000000 in
theorem rmFadd1_0 (l : Launch) (Z : State) (a0 : Array Value) (hw : ∀ d ∈ tables_1, d.before a0 Z = true) (ws : List Jvm.Cond) (a1 : Addr) (p2 : Int32) (p3 : Int32) (x1 : Addr) (oR : Addr) (ckR : Addr) (kckR : ClassId) (kkR : Addr) (fiR : Addr) (kfiR : ClassId) (saR : Addr) (kstR : ClassId) (enR : Addr) (kenR : ClassId) (itR : Addr) (kitR : ClassId) (x0 : Int32) (e_0 : Int32) (v0 : Addr) (oU : Addr) (ckU : Addr) (kckU : ClassId) (kkU : Addr) (h0 : Heap) (n0 : Nat) (Z0 : n0 ≤ h0.size) (F_read_a1 : Fld Z h0 a1 sN2 "read" sN4 (.ref oR)) (F_unread_a1 : Fld Z h0 a1 sN2 "unread" sN4 (.ref oU)) (E_oR : Exa Z h0 oR sN0) (F_chunks_oR : Fld Z h0 oR sN0 "chunks" sN3 (.ref ckR)) (F_chunkCount_oR : Fld Z h0 oR sN0 "chunkCount" "I" (.int (1 : Int32))) (F_firsts_oR : Fld Z h0 oR sN0 "firsts" "[I" (.ref fiR)) (F_withItems_oR : Fld Z h0 oR sN0 "withItems" "Z" (.int (1 : Int32))) (A_ckR : Arv Z h0 ckR kckR (.object sN1) (1 : Int32) [(.ref kkR)] .null) (E_kkR : Exa Z h0 kkR sN1) (F_size_kkR : Fld Z h0 kkR sN1 "size" "I" (.int (1 : Int32))) (F_starts_kkR : Fld Z h0 kkR sN1 "starts" "[I" (.ref saR)) (A_fiR : Arv Z h0 fiR kfiR .int (1 : Int32) [(.int x0)] (.int (0 : Int32))) (A_saR : Arv Z h0 saR kstR .int (256 : Int32) [(.int x0), (.int (0 : Int32)), (.int (0 : Int32))] (.int (0 : Int32))) (F_ends_kkR : Fld Z h0 kkR sN1 "ends" "[I" (.ref enR)) (F_items_kkR : Fld Z h0 kkR sN1 "items" "[Ljava/lang/Object;" (.ref itR)) (A_enR : Arv Z h0 enR kenR .int (256 : Int32) [(.int e_0), (.int (0 : Int32)), (.int (0 : Int32))] (.int (0 : Int32))) (A_itR : Arv Z h0 itR kitR (.object "java/lang/Object") (256 : Int32) [(.ref v0), .null, .null] .null) (E_x1 : Exa Z h0 x1 "java/lang/Integer") (E_v0 : Exa Z h0 v0 "java/lang/Integer") (g_fiR : n0 ≤ fiR) (g_ckR : n0 ≤ ckR) (g_saR : n0 ≤ saR) (g_enR : n0 ≤ enR) (g_itR : n0 ≤ itR) (g_kkR : n0 ≤ kkR) (ne_fiR_ckR : fiR ≠ ckR) (ne_fiR_saR : fiR ≠ saR) (ne_fiR_enR : fiR ≠ enR) (ne_fiR_itR : fiR ≠ itR) (ne_ckR_saR : ckR ≠ saR) (ne_ckR_enR : ckR ≠ enR) (ne_ckR_itR : ckR ≠ itR) (ne_saR_enR : saR ≠ enR) (ne_saR_itR : saR ≠ itR) (ne_enR_itR : enR ≠ itR) (ovr_itR : Ovr Z kitR "java/lang/Object") (E_oU : Exa Z h0 oU sN0) (F_chunks_oU : Fld Z h0 oU sN0 "chunks" sN3 (.ref ckU)) (A_ckU : Arv Z h0 ckU kckU (.object sN1) (1 : Int32) [(.ref kkU)] .null) (E_kkU : Exa Z h0 kkU sN1) (F_size_kkU : Fld Z h0 kkU sN1 "size" "I" (.int (0 : Int32))) (E_a1 : Exa Z h0 a1 sN2) (ne_ckU_saR : ckU ≠ saR) (ne_ckU_enR : ckU ≠ enR) (ne_ckU_itR : ckU ≠ itR) (ne_ckU_fiR : ckU ≠ fiR) (ne_kkU_kkR : kkU ≠ kkR) (ho0 : p2 < x0) :
    own_M l (⟨sN2, "add", sN5⟩ : MethodName) (Jvm.Cond.code (⟨sN2, "add", sN5⟩ : MethodName) prog_116_method_9_code 6 none :: ws) ({ frames := 3, cells := 0, slots := 0, locals := 56 } : Room) #[(.ref a1), (.long (256 : Int64)), (.int p2), (.int p3), (.ref x1)] Z h0 (Q_rmFadd1_0 Z a1 p2 p3 x1 oR ckR kckR kkR fiR kfiR saR kstR enR kenR itR kitR x0 e_0 v0 oU ckU kckU kkU h0 n0) := by
  refine MetFree.of_bodySF (plainFor_of_name pn_3) hisR ?_
  intro p e s m args below meth c s₁ Bd hml0 hP hK
  obtain ⟨rfl, hZ, hh⟩ := hP
  have hx := Bd.exec
  have hby := Bd.bytes
  have hml : c.maxLocals = 6 := hml0
  have hown : s.vm.findClass sN2 = some m.cls := findClass_of_methodNamed Bd.named
  have hnm := (name_of_methodNamed Bd.named Bd.method).1
  have X0 : Stand p l e ({ frames := 3, cells := 0, slots := 0, locals := 56 } : Room) s m #[(.ref a1), (.long (256 : Int64)), (.int p2), (.int p3), (.ref x1)] below meth c s₁ [] 0 0 := Stand.of_body Bd
  have hU : ∀ (i : Nat) (d : Jvm.Cond), tables_1[i]? = some d → d.before a0 Z = true := fun i d h => hw d (List.mem_of_getElem? h)
  have e0 : s₁.heap = h0 := by rw [← hh, Bd.state]; rfl
  have N0 := Fr.nil n0
  obtain ⟨f0, hf0⟩ : ∃ f : JFrame, f = mkF m 0 #[rv a1, own_l (256 : Int64), .second, iv p2, iv p3, rv x1] [] := ⟨_, rfl⟩
  have pre0 : ∀ t, own_S p e below s₁ f0 t → Steps p.tables e below (s₁.setTop (entryFrame m #[(.ref a1), (.long (256 : Int64)), (.int p2), (.int p3), (.ref x1)] 6)) t := fun t k => castTop ((ef_rmFadd1_0 m a1 (256 : Int64) p2 p3 x1).trans hf0.symm) k
  have R0 : ∀ t, own_S p e below s₁ (mkF m 0 #[rv a1, own_l (256 : Int64), .second, iv p2, iv p3, rv x1] []) t → own_S p e below s₁ f0 t := by rw [hf0]; exact fun t k => k
  have R1 : ∀ t, own_S p e below s₁ (mkF m 6 #[rv a1, own_l (256 : Int64), .second, iv p2, iv p3, rv x1] [(.ref a1)]) t → own_S p e below s₁ f0 t := fun t k => R0 t (by
    refine XS.aload X0.here hx rfl (hb hby d9_0) rfl rfl ?_
    refine XS.ifnullNo X0.here hx rfl (hb hby d9_2) rfl ?_
    refine XS.aloadN X0.here hx rfl (hb hby d9_5) rfl rfl ?_
    exact k)
  obtain ⟨T2, X2, e2, st2⟩ := getF X0 hx hZ hown (host := "") (Or.inl (hU 47 _ rfl)) Via.refl e0 F_unread_a1 (g := (mkF m 6 #[rv a1, own_l (256 : Int64), .second, iv p2, iv p3, rv x1] [(.ref a1)])) rfl rfl (hb hby d9_6)
  have R3 := fun t k => R1 t (st2 t k)
  obtain ⟨cq4, kq4, q4a, q4b, q4c⟩ := isOf hZ e2 E_oU
  obtain ⟨_, _, ⟨T4, L4, k4, n4⟩, -, X4, ⟨Lc4, hQ4, l4, y4, z4⟩, st4⟩ := X2.virtualBack hx (y := (⟨sN0, "isEmpty", "()Z"⟩ : MethodName)) (z := (⟨sN0, "isEmpty", "()Z"⟩ : MethodName)) hown (mvT hZ (hU 68 _ rfl)) (mvT hZ (hU 69 _ rfl)) (notFace_of_selects (args := #[]) (mvT hZ (hU 71 _ rfl))) (mvT hZ (hU 71 _ rfl)) (mvT hZ (hU 70 _ rfl)) (by decide) (backOf (W := 0) (rmEmp0 l Z a0 hw [] oU ckU kckU kkU h0 n0 Z0 F_chunks_oU A_ckU F_size_kkU) hZ (hU 72 _ rfl) (hU 14 _ rfl) (by decide) (by decide)) q4a q4c (g := (mkF m 9 #[rv a1, own_l (256 : Int64), .second, iv p2, iv p3, rv x1] [(.ref oU)])) rfl (by rw [hml]; rfl) (Steps.refl _) (argsL := []) (rest := []) (lenOf pd_6 rfl) rfl (Nat.le_of_eq rfl) (hb hby d9_9) (fun _ _ => ⟨rfl, e2, (by decide : 0 + 0 ≤ _), (by decide : 0 + 0 ≤ _)⟩)
  dsimp only [Pt.U, Pt.locs, Pt.cells, Pt.slots] at X4 l4 y4 z4 st4 hQ4
  subst l4 y4 z4
  obtain ⟨rfl, N4q, p4_0⟩ := hQ4
  have N4 := Fr.app N0 N4q
  have R5 := fun t k => R3 t (st4.trans k)
  have R6 : ∀ t, own_S p e below T4 (mkF m 16 #[rv a1, own_l (256 : Int64), .second, iv p2, iv p3, rv x1] [(.ref a1)]) t → own_S p e below s₁ f0 t := fun t k => R5 t (by
    refine XS.ifNo X4.here hx rfl (hb hby d9_12) rfl ((if0 _ _).trans (feq (by decide : ¬ ((1 : Int32) = (0 : Int32)))).1) ?_
    refine XS.aloadN X4.here hx rfl (hb hby d9_15) rfl rfl ?_
    exact k)
  obtain ⟨T7, X7, e7, st7⟩ := getF X4 hx hZ hown (host := "") (Or.inl (hU 45 _ rfl)) Via.refl p4_0 F_read_a1 (g := (mkF m 16 #[rv a1, own_l (256 : Int64), .second, iv p2, iv p3, rv x1] [(.ref a1)])) rfl rfl (hb hby d9_16)
  have R8 := fun t k => R6 t (st7 t k)
  have R9 : ∀ t, own_S p e below T7 (mkF m 24 #[rv a1, own_l (256 : Int64), .second, iv p2, iv p3, rv x1] [(.ref x1), (.int p3), (.int p2), (.ref oR)]) t → own_S p e below s₁ f0 t := fun t k => R8 t (by
    refine XS.iloadN X7.here hx rfl (hb hby d9_19) rfl  ?_
    refine XS.iload X7.here hx rfl (hb hby d9_20) rfl  ?_
    refine XS.aload X7.here hx rfl (hb hby d9_22) rfl rfl ?_
    exact k)
  obtain ⟨cq10, kq10, q10a, q10b, q10c⟩ := isOf hZ e7 E_oR
  obtain ⟨_, _, ⟨T10, L10, k10, n10⟩, -, X10, ⟨Lc10, hQ10, l10, y10, z10⟩, st10⟩ := X7.virtualBack hx (y := (⟨sN0, "append", sN6⟩ : MethodName)) (z := (⟨sN0, "append", sN6⟩ : MethodName)) hown (mvT hZ (hU 78 _ rfl)) (mvT hZ (hU 79 _ rfl)) (notFace_of_selects (args := #[]) (mvT hZ (hU 81 _ rfl))) (mvT hZ (hU 81 _ rfl)) (mvT hZ (hU 80 _ rfl)) (by decide) (backOf (W := 0) (rmApp1_0 l Z a0 hw [] oR p2 p3 x1 ckR kckR kkR fiR kfiR saR kstR enR kenR itR kitR x0 e_0 v0 h0 n0 Z0 E_oR F_chunks_oR F_chunkCount_oR F_firsts_oR F_withItems_oR A_ckR E_kkR F_size_kkR F_starts_kkR A_fiR A_saR F_ends_kkR F_items_kkR A_enR A_itR E_x1 g_fiR g_ckR g_saR g_enR g_itR g_kkR ne_fiR_ckR ne_fiR_saR ne_fiR_enR ne_fiR_itR ne_ckR_saR ne_ckR_enR ne_ckR_itR ne_saR_enR ne_saR_itR ne_enR_itR ovr_itR ho0) hZ (hU 82 _ rfl) (hU 14 _ rfl) (by decide) (by decide)) q10a q10c (g := (mkF m 24 #[rv a1, own_l (256 : Int64), .second, iv p2, iv p3, rv x1] [(.ref x1), (.int p3), (.int p2), (.ref oR)])) rfl (by rw [hml]; rfl) (Steps.refl _) (argsL := [(.int p2), (.int p3), (.ref x1)]) (rest := []) (lenOf pd_11 rfl) rfl (Nat.le_of_eq rfl) (hb hby d9_24) (fun _ _ => ⟨rfl, e7, (by decide : 0 + 0 ≤ _), (by decide : 0 + 0 ≤ _)⟩)
  dsimp only [Pt.U, Pt.locs, Pt.cells, Pt.slots] at X10 l10 y10 z10 st10 hQ10
  subst l10 y10 z10
  obtain ⟨rfl, N10q, p10_0⟩ := hQ10
  have N10 := Fr.app N4 N10q
  have R11 := fun t k => R9 t (st10.trans k)
  have R12 : ∀ t, own_S p e below T10 (mkF m 38 #[rv a1, own_l (256 : Int64), .second, iv p2, iv p3, rv x1] [(.ref x1), (.int p3), (.int p2), (.long (256 : Int64)), (.ref a1)]) t → own_S p e below s₁ f0 t := fun t k => R11 t (by
    refine XS.ifYes X10.here hx rfl (pc0 := 27) (pc' := 31) rfl (hb hby d9_27) rfl ((if0 _ _).trans (teq (by decide : (0 : Int32) = (0 : Int32))).1) (by decide) (by decide) ?_
    refine XS.aloadN X10.here hx rfl (hb hby d9_31) rfl rfl ?_
    refine XS.lloadN X10.here hx rfl (hb hby d9_32) rfl  ?_
    refine XS.iloadN X10.here hx rfl (hb hby d9_33) rfl  ?_
    refine XS.iload X10.here hx rfl (hb hby d9_34) rfl  ?_
    refine XS.aload X10.here hx rfl (hb hby d9_36) rfl rfl ?_
    exact k)
  obtain ⟨cq13, q13, q13'⟩ := E_a1.cell
  obtain ⟨_, _, ⟨T13, L13, k13, n13⟩, -, X13, ⟨Lc13, hQ13, l13, y13, z13⟩, st13⟩ := X10.privateBack hx (y := (⟨sN2, "insert", sN5⟩ : MethodName)) hown (mvT hZ (hU 101 _ rfl)) (mvT hZ (hU 102 _ rfl)) (own_selp (w := (⟨sN2, "find", "(I)J"⟩ : MethodName)) (mvT hZ (hU 59 _ rfl)) rfl (Cond.privateMethod_at (mvP hZ (hU 103 _ rfl) (args := #[]))) (mvT hZ (hU 102 _ rfl)) (by decide)) (Cond.privateMethod_at (mvP hZ (hU 103 _ rfl) (args := #[]))) (mvT hZ (hU 104 _ rfl)) (by decide) (backOf (W := 0) (rmFins1_0 l Z a0 hw [] a1 p2 p3 x1 oR ckR kckR kkR fiR kfiR saR kstR enR kenR itR kitR x0 e_0 v0 oU ckU kckU kkU h0 n0 Z0 F_read_a1 F_unread_a1 E_oR F_chunks_oR F_chunkCount_oR F_firsts_oR F_withItems_oR A_ckR E_kkR F_size_kkR F_starts_kkR A_fiR A_saR F_ends_kkR F_items_kkR A_enR A_itR E_x1 E_v0 g_fiR g_ckR g_saR g_enR g_itR g_kkR ne_fiR_ckR ne_fiR_saR ne_fiR_enR ne_fiR_itR ne_ckR_saR ne_ckR_enR ne_ckR_itR ne_saR_enR ne_saR_itR ne_enR_itR ovr_itR E_oU F_chunks_oU A_ckU E_kkU F_size_kkU E_a1 ne_ckU_saR ne_ckU_enR ne_ckU_itR ne_ckU_fiR ne_kkU_kkR ho0) hZ (hU 104 _ rfl) (hU 5 _ rfl) (by decide) (by decide)) (g := (mkF m 38 #[rv a1, own_l (256 : Int64), .second, iv p2, iv p3, rv x1] [(.ref x1), (.int p3), (.int p2), (.long (256 : Int64)), (.ref a1)])) rfl (by rw [hml]; rfl) (Steps.refl _) (a := a1) (by rw [p10_0]; exact q13) q13' (argsL := [(.long (256 : Int64)), (.int p2), (.int p3), (.ref x1)]) (rest := []) (lenOf pd_13 rfl) rfl (Nat.le_of_eq rfl) (hb hby d9_38) (fun _ _ => ⟨rfl, p10_0, (by decide : 0 + 0 ≤ _), (by decide : 0 + 0 ≤ _)⟩)
  dsimp only [Pt.U, Pt.locs, Pt.cells, Pt.slots] at X13 l13 y13 z13 st13 hQ13
  subst l13 y13 z13
  obtain ⟨rfl, N13q, p13_0, p13_1, p13_2, p13_3, p13_4, p13_5, p13_6, p13_7, p13_8⟩ := hQ13
  have N13 := Fr.app N10 N13q
  have f13_F_read_a1 := F_read_a1.keep p13_0 (ninS (Exa.neArv E_a1 A_saR (hU 4 _ rfl)) (ninS (Exa.neArv E_a1 A_enR (hU 4 _ rfl)) (ninS (Exa.neArv E_a1 A_itR (hU 4 _ rfl)) (ninS (Exa.ne E_a1 E_kkR (by decide)) (ninS (Exa.neArv E_a1 A_fiR (hU 4 _ rfl)) nin0)))))
  have f13_F_unread_a1 := F_unread_a1.keep p13_0 (ninS (Exa.neArv E_a1 A_saR (hU 4 _ rfl)) (ninS (Exa.neArv E_a1 A_enR (hU 4 _ rfl)) (ninS (Exa.neArv E_a1 A_itR (hU 4 _ rfl)) (ninS (Exa.ne E_a1 E_kkR (by decide)) (ninS (Exa.neArv E_a1 A_fiR (hU 4 _ rfl)) nin0)))))
  have f13_E_oR := E_oR.keep p13_0
  have f13_F_chunks_oR := F_chunks_oR.keep p13_0 (ninS (Exa.neArv E_oR A_saR (hU 13 _ rfl)) (ninS (Exa.neArv E_oR A_enR (hU 13 _ rfl)) (ninS (Exa.neArv E_oR A_itR (hU 13 _ rfl)) (ninS (Exa.ne E_oR E_kkR (by decide)) (ninS (Exa.neArv E_oR A_fiR (hU 13 _ rfl)) nin0)))))
  have f13_F_chunkCount_oR := F_chunkCount_oR.keep p13_0 (ninS (Exa.neArv E_oR A_saR (hU 13 _ rfl)) (ninS (Exa.neArv E_oR A_enR (hU 13 _ rfl)) (ninS (Exa.neArv E_oR A_itR (hU 13 _ rfl)) (ninS (Exa.ne E_oR E_kkR (by decide)) (ninS (Exa.neArv E_oR A_fiR (hU 13 _ rfl)) nin0)))))
  have f13_F_firsts_oR := F_firsts_oR.keep p13_0 (ninS (Exa.neArv E_oR A_saR (hU 13 _ rfl)) (ninS (Exa.neArv E_oR A_enR (hU 13 _ rfl)) (ninS (Exa.neArv E_oR A_itR (hU 13 _ rfl)) (ninS (Exa.ne E_oR E_kkR (by decide)) (ninS (Exa.neArv E_oR A_fiR (hU 13 _ rfl)) nin0)))))
  have f13_F_withItems_oR := F_withItems_oR.keep p13_0 (ninS (Exa.neArv E_oR A_saR (hU 13 _ rfl)) (ninS (Exa.neArv E_oR A_enR (hU 13 _ rfl)) (ninS (Exa.neArv E_oR A_itR (hU 13 _ rfl)) (ninS (Exa.ne E_oR E_kkR (by decide)) (ninS (Exa.neArv E_oR A_fiR (hU 13 _ rfl)) nin0)))))
  have f13_A_ckR := A_ckR.keep p13_0 (ninS ne_ckR_saR (ninS ne_ckR_enR (ninS ne_ckR_itR (ninS (Ne.symm (Exa.neArv E_kkR A_ckR (hU 28 _ rfl))) (ninS (Ne.symm ne_fiR_ckR) nin0)))))
  have f13_E_kkR := E_kkR.keep p13_0
  have f13_E_x1 := E_x1.keep p13_0
  have f13_E_v0 := E_v0.keep p13_0
  have f13_E_oU := E_oU.keep p13_0
  have f13_F_chunks_oU := F_chunks_oU.keep p13_0 (ninS (Exa.neArv E_oU A_saR (hU 13 _ rfl)) (ninS (Exa.neArv E_oU A_enR (hU 13 _ rfl)) (ninS (Exa.neArv E_oU A_itR (hU 13 _ rfl)) (ninS (Exa.ne E_oU E_kkR (by decide)) (ninS (Exa.neArv E_oU A_fiR (hU 13 _ rfl)) nin0)))))
  have f13_A_ckU := A_ckU.keep p13_0 (ninS ne_ckU_saR (ninS ne_ckU_enR (ninS ne_ckU_itR (ninS (Ne.symm (Exa.neArv E_kkR A_ckU (hU 28 _ rfl))) (ninS ne_ckU_fiR nin0)))))
  have f13_E_kkU := E_kkU.keep p13_0
  have f13_F_size_kkU := F_size_kkU.keep p13_0 (ninS (Exa.neArv E_kkU A_saR (hU 28 _ rfl)) (ninS (Exa.neArv E_kkU A_enR (hU 28 _ rfl)) (ninS (Exa.neArv E_kkU A_itR (hU 28 _ rfl)) (ninS ne_kkU_kkR (ninS (Exa.neArv E_kkU A_fiR (hU 28 _ rfl)) nin0)))))
  have f13_E_a1 := E_a1.keep p13_0
  have z13 : n0 ≤ T13.heap.size := Nat.le_trans Z0 p13_0.1
  have K13 : Keep h0 T13.heap [saR, enR, itR, kkR, fiR] := (Keep.refl h0 [saR, enR, itR, kkR, fiR]).trans p13_0 (allS (Or.inl (List.mem_of_getElem? (i := 0) rfl)) (allS (Or.inl (List.mem_of_getElem? (i := 1) rfl)) (allS (Or.inl (List.mem_of_getElem? (i := 2) rfl)) (allS (Or.inl (List.mem_of_getElem? (i := 3) rfl)) (allS (Or.inl (List.mem_of_getElem? (i := 4) rfl)) all0)))))
  have R14 := fun t k => R12 t (st13.trans k)
  obtain ⟨fs, hr, hrun, hended, hW, hsame⟩ := X13.leave (v := none) (fun _ => rfl)
  refine ⟨_, _, pre0 _ (R14 _ ?_), hrun, hended, _, _, rfl, ?_, ⟨_, rfl⟩, hW, hsame.mono (by decide) (by decide)⟩
  · show own_S p e below T13 (mkF m 41 #[rv a1, own_l (256 : Int64), .second, iv p2, iv p3, rv x1] []) _
    exact X13.returnOut hx Bd.returns (hb hby d9_41) hr
  · show Q_rmFadd1_0 Z a1 p2 p3 x1 oR ckR kckR kkR fiR kfiR saR kstR enR kenR itR kitR x0 e_0 v0 oU ckU kckU kkU h0 n0 _ T13.heap _
    exact ⟨rfl, N13, K13, p13_1, p13_2, p13_3, p13_4, p13_5, p13_6, p13_7, p13_8⟩
theorem ef_rmLaw (m : MethodId) (x0 : Int32) (x1 : Int32) (x2 : Int32) (x3 : Int32) (x4 : Int32) (x5 : Int32) : entryFrame m #[(.int x0), (.int x1), (.int x2), (.int x3), (.int x4), (.int x5)] maxLocals = mkF m 0 #[iv x0, iv x1, iv x2, iv x3, iv x4, iv x5, .unset, .unset, .unset, .unset, .unset, .unset, .unset, .unset, .unset, .unset, .unset, .unset, .unset, .unset, .unset, .unset, .unset, .unset, .unset, .unset, .unset] [] := by first | (simp [entryFrame, mkF, argsToLocals, Value.category, maxLocals]; done) | rfl
def Q_rmLaw (Z : State) (p0 : Int32) (p1 : Int32) (p2 : Int32) (p3 : Int32) (p4 : Int32) (p5 : Int32) (ca : Addr) (kca : ClassId) (vsc : List Value) (iv_ : Addr) (h0 : Heap) (n0 : Nat) (v : Option Value) (h : Heap) (L : List Loc) : Prop := v = some (.int (1 : Int32)) ∧ Fr n0 L
set_option maxRecDepth 65536 in
set_option maxHeartbeats 40000000 in
theorem rmLaw (l : Launch) (Z : State) (a0 : Array Value) (hw : ∀ d ∈ tables_1, d.before a0 Z = true) (ws : List Jvm.Cond) (p0 : Int32) (p1 : Int32) (p2 : Int32) (p3 : Int32) (p4 : Int32) (p5 : Int32) (ca : Addr) (kca : ClassId) (vsc : List Value) (iv_ : Addr) (h0 : Heap) (n0 : Nat) (Z0 : n0 ≤ h0.size) (S_Integer_IntegerCache_high : Sta Z h0 "java/lang/Integer$IntegerCache" "high" "I" (.int (127 : Int32))) (S_Integer_IntegerCache_cache : Sta Z h0 "java/lang/Integer$IntegerCache" "cache" "[Ljava/lang/Integer;" (.ref ca)) (A_ca : Arv Z h0 ca kca (.object "java/lang/Integer") (256 : Int32) vsc .null) (E_iv_ : Exa Z h0 iv_ "java/lang/Integer") (hat : vsc.getD (129 : Int32).toNatClampNeg .null = .ref iv_) :
    own_M l x (Jvm.Cond.code x code maxLocals ret :: ws) room_1 #[(.int p0), (.int p1), (.int p2), (.int p3), (.int p4), (.int p5)] Z h0 (Q_rmLaw Z p0 p1 p2 p3 p4 p5 ca kca vsc iv_ h0 n0) := by
  refine MetFree.of_bodySF (plainFor_of_name pn_14) hisR ?_
  intro p e s m args below meth c s₁ Bd hml0 hP hK
  obtain ⟨rfl, hZ, hh⟩ := hP
  have hx := Bd.exec
  have hby := Bd.bytes
  have hml : c.maxLocals = 27 := hml0
  have hown : s.vm.findClass "com/example/theuth/theuth/io/FollowedContainingPinLaw" = some m.cls := findClass_of_methodNamed Bd.named
  have hnm := (name_of_methodNamed Bd.named Bd.method).1
  have X0 : Stand p l e room_1 s m #[(.int p0), (.int p1), (.int p2), (.int p3), (.int p4), (.int p5)] below meth c s₁ [] 0 0 := Stand.of_body Bd
  have hU : ∀ (i : Nat) (d : Jvm.Cond), tables_1[i]? = some d → d.before a0 Z = true := fun i d h => hw d (List.mem_of_getElem? h)
  have e0 : s₁.heap = h0 := by rw [← hh, Bd.state]; rfl
  have N0 := Fr.nil n0
  obtain ⟨f0, hf0⟩ : ∃ f : JFrame, f = mkF m 0 #[iv p0, iv p1, iv p2, iv p3, iv p4, iv p5, .unset, .unset, .unset, .unset, .unset, .unset, .unset, .unset, .unset, .unset, .unset, .unset, .unset, .unset, .unset, .unset, .unset, .unset, .unset, .unset, .unset] [] := ⟨_, rfl⟩
  have pre0 : ∀ t, own_S p e below s₁ f0 t → Steps p.tables e below (s₁.setTop (entryFrame m #[(.int p0), (.int p1), (.int p2), (.int p3), (.int p4), (.int p5)] maxLocals)) t := fun t k => castTop ((ef_rmLaw m p0 p1 p2 p3 p4 p5).trans hf0.symm) k
  have R0 : ∀ t, own_S p e below s₁ (mkF m 0 #[iv p0, iv p1, iv p2, iv p3, iv p4, iv p5, .unset, .unset, .unset, .unset, .unset, .unset, .unset, .unset, .unset, .unset, .unset, .unset, .unset, .unset, .unset, .unset, .unset, .unset, .unset, .unset, .unset] []) t → own_S p e below s₁ f0 t := by rw [hf0]; exact fun t k => k
  have R1 : ∀ t, own_S p e below s₁ (mkF m 15 #[iv p0, iv p1, iv p2, iv p3, iv p4, iv p5, own_l (p0.toInt64), .second, .unset, .unset, .unset, .unset, .unset, .unset, .unset, .unset, .unset, .unset, .unset, .unset, .unset, .unset, .unset, .unset, .unset, .unset, .unset] [(.long (((p0.toInt64) + (1 : Int64)) + ((p1 &&& (255 : Int32)).toInt64)))]) t → own_S p e below s₁ f0 t := fun t k => R0 t (by
    refine XS.iloadN X0.here hx rfl (hb hby at_0) rfl  ?_
    refine XS.i2l X0.here hx rfl (hb hby at_1) rfl ?_
    refine XS.lstore X0.here hx rfl (hb hby at_2) rfl (l' := #[iv p0, iv p1, iv p2, iv p3, iv p4, iv p5, own_l (p0.toInt64), .second, .unset, .unset, .unset, .unset, .unset, .unset, .unset, .unset, .unset, .unset, .unset, .unset, .unset, .unset, .unset, .unset, .unset, .unset, .unset]) rfl ?_
    refine XS.lload X0.here hx rfl (hb hby at_4) rfl  ?_
    refine XS.lconst X0.here hx rfl (hb hby at_6) ?_
    refine XS.ladd X0.here hx rfl (hb hby at_7) rfl ?_
    show own_S p e below s₁ (mkF m 8 #[iv p0, iv p1, iv p2, iv p3, iv p4, iv p5, own_l (p0.toInt64), .second, .unset, .unset, .unset, .unset, .unset, .unset, .unset, .unset, .unset, .unset, .unset, .unset, .unset, .unset, .unset, .unset, .unset, .unset, .unset] [(.long ((p0.toInt64) + (1 : Int64)))]) _
    refine XS.iloadN X0.here hx rfl (hb hby at_8) rfl  ?_
    refine XS.sipush X0.here hx rfl (hb hby at_9) ?_
    refine XS.iand X0.here hx rfl (hb hby at_12) rfl ?_
    refine XS.i2l X0.here hx rfl (hb hby at_13) rfl ?_
    refine XS.ladd X0.here hx rfl (hb hby at_14) rfl ?_
    exact k)
  obtain ⟨eL1, e_eL1⟩ : ∃ z : Int64, z = (((p0.toInt64) + (1 : Int64)) + ((p1 &&& (255 : Int32)).toInt64)) := ⟨_, rfl⟩
  have R2 : ∀ t, own_S p e below s₁ (mkF m 15 #[iv p0, iv p1, iv p2, iv p3, iv p4, iv p5, own_l (p0.toInt64), .second, .unset, .unset, .unset, .unset, .unset, .unset, .unset, .unset, .unset, .unset, .unset, .unset, .unset, .unset, .unset, .unset, .unset, .unset, .unset] [(.long eL1)]) t → own_S p e below s₁ f0 t := by have q := R1; rw [← e_eL1] at q; exact q
  have R3 : ∀ t, own_S p e below s₁ (mkF m 26 #[iv p0, iv p1, iv p2, iv p3, iv p4, iv p5, own_l (p0.toInt64), .second, own_l eL1, .second, .unset, .unset, .unset, .unset, .unset, .unset, .unset, .unset, .unset, .unset, .unset, .unset, .unset, .unset, .unset, .unset, .unset] [(.long (eL1 + ((p2 &&& (255 : Int32)).toInt64)))]) t → own_S p e below s₁ f0 t := fun t k => R2 t (by
    refine XS.lstore X0.here hx rfl (hb hby at_15) rfl (l' := #[iv p0, iv p1, iv p2, iv p3, iv p4, iv p5, own_l (p0.toInt64), .second, own_l eL1, .second, .unset, .unset, .unset, .unset, .unset, .unset, .unset, .unset, .unset, .unset, .unset, .unset, .unset, .unset, .unset, .unset, .unset]) rfl ?_
    refine XS.lload X0.here hx rfl (hb hby at_17) rfl  ?_
    refine XS.iloadN X0.here hx rfl (hb hby at_19) rfl  ?_
    refine XS.sipush X0.here hx rfl (hb hby at_20) ?_
    refine XS.iand X0.here hx rfl (hb hby at_23) rfl ?_
    refine XS.i2l X0.here hx rfl (hb hby at_24) rfl ?_
    show own_S p e below s₁ (mkF m 25 #[iv p0, iv p1, iv p2, iv p3, iv p4, iv p5, own_l (p0.toInt64), .second, own_l eL1, .second, .unset, .unset, .unset, .unset, .unset, .unset, .unset, .unset, .unset, .unset, .unset, .unset, .unset, .unset, .unset, .unset, .unset] [(.long ((p2 &&& (255 : Int32)).toInt64)), (.long eL1)]) _
    refine XS.ladd X0.here hx rfl (hb hby at_25) rfl ?_
    exact k)
  obtain ⟨sL2, e_sL2⟩ : ∃ z : Int64, z = (eL1 + ((p2 &&& (255 : Int32)).toInt64)) := ⟨_, rfl⟩
  have R4 : ∀ t, own_S p e below s₁ (mkF m 26 #[iv p0, iv p1, iv p2, iv p3, iv p4, iv p5, own_l (p0.toInt64), .second, own_l eL1, .second, .unset, .unset, .unset, .unset, .unset, .unset, .unset, .unset, .unset, .unset, .unset, .unset, .unset, .unset, .unset, .unset, .unset] [(.long sL2)]) t → own_S p e below s₁ f0 t := by have q := R3; rw [← e_sL2] at q; exact q
  have R5 : ∀ t, own_S p e below s₁ (mkF m 39 #[iv p0, iv p1, iv p2, iv p3, iv p4, iv p5, own_l (p0.toInt64), .second, own_l eL1, .second, own_l sL2, .second, .unset, .unset, .unset, .unset, .unset, .unset, .unset, .unset, .unset, .unset, .unset, .unset, .unset, .unset, .unset] [(.long ((sL2 + (1 : Int64)) + ((p3 &&& (255 : Int32)).toInt64)))]) t → own_S p e below s₁ f0 t := fun t k => R4 t (by
    refine XS.lstore X0.here hx rfl (hb hby at_26) rfl (l' := #[iv p0, iv p1, iv p2, iv p3, iv p4, iv p5, own_l (p0.toInt64), .second, own_l eL1, .second, own_l sL2, .second, .unset, .unset, .unset, .unset, .unset, .unset, .unset, .unset, .unset, .unset, .unset, .unset, .unset, .unset, .unset]) rfl ?_
    refine XS.lload X0.here hx rfl (hb hby at_28) rfl  ?_
    refine XS.lconst X0.here hx rfl (hb hby at_30) ?_
    refine XS.ladd X0.here hx rfl (hb hby at_31) rfl ?_
    refine XS.iloadN X0.here hx rfl (hb hby at_32) rfl  ?_
    refine XS.sipush X0.here hx rfl (hb hby at_33) ?_
    show own_S p e below s₁ (mkF m 36 #[iv p0, iv p1, iv p2, iv p3, iv p4, iv p5, own_l (p0.toInt64), .second, own_l eL1, .second, own_l sL2, .second, .unset, .unset, .unset, .unset, .unset, .unset, .unset, .unset, .unset, .unset, .unset, .unset, .unset, .unset, .unset] [(.int (255 : Int32)), (.int p3), (.long (sL2 + (1 : Int64)))]) _
    refine XS.iand X0.here hx rfl (hb hby at_36) rfl ?_
    refine XS.i2l X0.here hx rfl (hb hby at_37) rfl ?_
    refine XS.ladd X0.here hx rfl (hb hby at_38) rfl ?_
    exact k)
  obtain ⟨eL2, e_eL2⟩ : ∃ z : Int64, z = ((sL2 + (1 : Int64)) + ((p3 &&& (255 : Int32)).toInt64)) := ⟨_, rfl⟩
  have R6 : ∀ t, own_S p e below s₁ (mkF m 39 #[iv p0, iv p1, iv p2, iv p3, iv p4, iv p5, own_l (p0.toInt64), .second, own_l eL1, .second, own_l sL2, .second, .unset, .unset, .unset, .unset, .unset, .unset, .unset, .unset, .unset, .unset, .unset, .unset, .unset, .unset, .unset] [(.long eL2)]) t → own_S p e below s₁ f0 t := by have q := R5; rw [← e_eL2] at q; exact q
  have R7 : ∀ t, own_S p e below s₁ (mkF m 47 #[iv p0, iv p1, iv p2, iv p3, iv p4, iv p5, own_l (p0.toInt64), .second, own_l eL1, .second, own_l sL2, .second, own_l eL2, .second, .unset, .unset, .unset, .unset, .unset, .unset, .unset, .unset, .unset, .unset, .unset, .unset, .unset] [(.int (lcmpW eL2 (2147483647 : Int64)))]) t → own_S p e below s₁ f0 t := fun t k => R6 t (by
    refine XS.lstore X0.here hx rfl (hb hby at_39) rfl (l' := #[iv p0, iv p1, iv p2, iv p3, iv p4, iv p5, own_l (p0.toInt64), .second, own_l eL1, .second, own_l sL2, .second, own_l eL2, .second, .unset, .unset, .unset, .unset, .unset, .unset, .unset, .unset, .unset, .unset, .unset, .unset, .unset]) rfl ?_
    refine XS.lload X0.here hx rfl (hb hby at_41) rfl  ?_
    refine X0.ldc2Long hx hown (mvT hZ (hU 0 _ rfl)) (g := (mkF m 43 #[iv p0, iv p1, iv p2, iv p3, iv p4, iv p5, own_l (p0.toInt64), .second, own_l eL1, .second, own_l sL2, .second, own_l eL2, .second, .unset, .unset, .unset, .unset, .unset, .unset, .unset, .unset, .unset, .unset, .unset, .unset, .unset] [(.long eL2)])) rfl (hb hby at_43) _ ?_
    refine XS.lcmp X0.here hx rfl (hb hby at_46) rfl ?_
    exact k)
  by_cases hov : (0 : Int32) < (lcmpW eL2 (2147483647 : Int64))
  · skip
    have R8 : ∀ t, own_S p e below s₁ (mkF m 51 #[iv p0, iv p1, iv p2, iv p3, iv p4, iv p5, own_l (p0.toInt64), .second, own_l eL1, .second, own_l sL2, .second, own_l eL2, .second, .unset, .unset, .unset, .unset, .unset, .unset, .unset, .unset, .unset, .unset, .unset, .unset, .unset] [(.int (1 : Int32))]) t → own_S p e below s₁ f0 t := fun t k => R7 t (by
      refine XS.ifNo X0.here hx rfl (hb hby at_47) rfl ((if0 _ _).trans (tlt hov).2.2.2) ?_
      refine XS.iconst X0.here hx rfl (hb hby at_50) ?_
      exact k)
    obtain ⟨fs, hr, hrun, hended, hW, hsame⟩ := X0.leave (v := some (.int (1 : Int32))) (fun h => by rw [Bd.returns] at h; cases h)
    refine ⟨_, _, pre0 _ (R8 _ ?_), hrun, hended, _, _, rfl, ?_, ⟨_, rfl⟩, hW, hsame.mono (by decide) (by decide)⟩
    · show own_S p e below s₁ (mkF m 51 #[iv p0, iv p1, iv p2, iv p3, iv p4, iv p5, own_l (p0.toInt64), .second, own_l eL1, .second, own_l sL2, .second, own_l eL2, .second, .unset, .unset, .unset, .unset, .unset, .unset, .unset, .unset, .unset, .unset, .unset, .unset, .unset] [(.int (1 : Int32))]) _
      exact retN X0 hx (t := .boolean) Bd.returns (by simp) (hb hby at_51) hr
    · show Q_rmLaw Z p0 p1 p2 p3 p4 p5 ca kca vsc iv_ h0 n0 _ s₁.heap _
      rw [e0]
      exact ⟨rfl, N0⟩
  · skip
    have R9 : ∀ t, own_S p e below s₁ (mkF m 56 #[iv p0, iv p1, iv p2, iv p3, iv p4, iv p5, own_l (p0.toInt64), .second, own_l eL1, .second, own_l sL2, .second, own_l eL2, .second, .unset, .unset, .unset, .unset, .unset, .unset, .unset, .unset, .unset, .unset, .unset, .unset, .unset] [(.int (p5 &&& (4 : Int32)))]) t → own_S p e below s₁ f0 t := fun t k => R7 t (by
      refine XS.ifYes X0.here hx rfl (pc0 := 47) (pc' := 52) rfl (hb hby at_47) rfl ((if0 _ _).trans (flt hov).2.2.2) (by decide) (by decide) ?_
      refine XS.iload X0.here hx rfl (hb hby at_52) rfl  ?_
      refine XS.iconst X0.here hx rfl (hb hby at_54) ?_
      refine XS.iand X0.here hx rfl (hb hby at_55) rfl ?_
      exact k)
    have R10 : ∀ t, own_S p e below s₁ (mkF m 79 #[iv p0, iv p1, iv p2, iv p3, iv p4, iv p5, own_l (p0.toInt64), .second, own_l eL1, .second, own_l sL2, .second, own_l eL2, .second, .unset, .unset, .unset, .unset, .unset, .unset, .unset, .unset, .unset, .unset, .unset, .unset, .unset] [(.long (own_q p0 p4 p5))]) t → own_S p e below s₁ f0 t := by
      intro t k
      refine R9 t ?_
      by_cases hm1 : (p5 &&& (4 : Int32)) = (0 : Int32)
      · skip
        refine XS.ifYes X0.here hx rfl (pc0 := 56) (pc' := 65) rfl (hb hby at_56) rfl ((if0 _ _).trans (teq hm1).1) (by decide) (by decide) ?_
        refine XS.lload X0.here hx rfl (hb hby at_65) rfl  ?_
        refine X0.ldc2Long hx hown (mvT hZ (hU 1 _ rfl)) (g := (mkF m 67 #[iv p0, iv p1, iv p2, iv p3, iv p4, iv p5, own_l (p0.toInt64), .second, own_l eL1, .second, own_l sL2, .second, own_l eL2, .second, .unset, .unset, .unset, .unset, .unset, .unset, .unset, .unset, .unset, .unset, .unset, .unset, .unset] [(.long (p0.toInt64))])) rfl (hb hby at_67) _ ?_
        refine XS.lsub X0.here hx rfl (hb hby at_70) rfl ?_
        refine XS.iload X0.here hx rfl (hb hby at_71) rfl  ?_
        refine XS.sipush X0.here hx rfl (hb hby at_73) ?_
        show own_S p e below s₁ (mkF m 76 #[iv p0, iv p1, iv p2, iv p3, iv p4, iv p5, own_l (p0.toInt64), .second, own_l eL1, .second, own_l sL2, .second, own_l eL2, .second, .unset, .unset, .unset, .unset, .unset, .unset, .unset, .unset, .unset, .unset, .unset, .unset, .unset] [(.int (1023 : Int32)), (.int p4), (.long ((p0.toInt64) - (16 : Int64)))]) _
        refine XS.iand X0.here hx rfl (hb hby at_76) rfl ?_
        refine XS.i2l X0.here hx rfl (hb hby at_77) rfl ?_
        refine XS.ladd X0.here hx rfl (hb hby at_78) rfl ?_
        have hv : (own_q p0 p4 p5) = (((p0.toInt64) - (16 : Int64)) + ((p4 &&& (1023 : Int32)).toInt64)) := by (try simp only [lw_gt, lw_lt, lw_eq] at hm1); simp [own_q, hm1]
        rw [hv] at k
        exact k
      · skip
        refine XS.ifNo X0.here hx rfl (hb hby at_56) rfl ((if0 _ _).trans (feq hm1).1) ?_
        refine XS.iload X0.here hx rfl (hb hby at_59) rfl  ?_
        refine XS.i2l X0.here hx rfl (hb hby at_61) rfl ?_
        refine XS.goto X0.here hx rfl (pc0 := 62) (pc' := 79) rfl (hb hby at_62) (by decide) (by decide) ?_
        have hv : (own_q p0 p4 p5) = (p4.toInt64) := by (try simp only [lw_gt, lw_lt, lw_eq] at hm1); simp [own_q, hm1]
        rw [hv] at k
        exact k
    obtain ⟨qL, e_qL⟩ : ∃ z : Int64, z = (own_q p0 p4 p5) := ⟨_, rfl⟩
    have R11 : ∀ t, own_S p e below s₁ (mkF m 79 #[iv p0, iv p1, iv p2, iv p3, iv p4, iv p5, own_l (p0.toInt64), .second, own_l eL1, .second, own_l sL2, .second, own_l eL2, .second, .unset, .unset, .unset, .unset, .unset, .unset, .unset, .unset, .unset, .unset, .unset, .unset, .unset] [(.long qL)]) t → own_S p e below s₁ f0 t := by have q := R10; rw [← e_qL] at q; exact q
    have R12 : ∀ t, own_S p e below s₁ (mkF m 87 #[iv p0, iv p1, iv p2, iv p3, iv p4, iv p5, own_l (p0.toInt64), .second, own_l eL1, .second, own_l sL2, .second, own_l eL2, .second, own_l qL, .second, .unset, .unset, .unset, .unset, .unset, .unset, .unset, .unset, .unset, .unset, .unset] [(.int (lcmpW qL (-2147483648 : Int64)))]) t → own_S p e below s₁ f0 t := fun t k => R11 t (by
      refine XS.lstore X0.here hx rfl (hb hby at_79) rfl (l' := #[iv p0, iv p1, iv p2, iv p3, iv p4, iv p5, own_l (p0.toInt64), .second, own_l eL1, .second, own_l sL2, .second, own_l eL2, .second, own_l qL, .second, .unset, .unset, .unset, .unset, .unset, .unset, .unset, .unset, .unset, .unset, .unset]) rfl ?_
      refine XS.lload X0.here hx rfl (hb hby at_81) rfl  ?_
      refine X0.ldc2Long hx hown (mvT hZ (hU 2 _ rfl)) (g := (mkF m 83 #[iv p0, iv p1, iv p2, iv p3, iv p4, iv p5, own_l (p0.toInt64), .second, own_l eL1, .second, own_l sL2, .second, own_l eL2, .second, own_l qL, .second, .unset, .unset, .unset, .unset, .unset, .unset, .unset, .unset, .unset, .unset, .unset] [(.long qL)])) rfl (hb hby at_83) _ ?_
      refine XS.lcmp X0.here hx rfl (hb hby at_86) rfl ?_
      exact k)
    by_cases hq1 : (lcmpW qL (-2147483648 : Int64)) < (0 : Int32)
    · skip
      have R13 : ∀ t, own_S p e below s₁ (mkF m 100 #[iv p0, iv p1, iv p2, iv p3, iv p4, iv p5, own_l (p0.toInt64), .second, own_l eL1, .second, own_l sL2, .second, own_l eL2, .second, own_l qL, .second, .unset, .unset, .unset, .unset, .unset, .unset, .unset, .unset, .unset, .unset, .unset] [(.int (1 : Int32))]) t → own_S p e below s₁ f0 t := fun t k => R12 t (by
        refine XS.ifYes X0.here hx rfl (pc0 := 87) (pc' := 99) rfl (hb hby at_87) rfl ((if0 _ _).trans (tlt hq1).1) (by decide) (by decide) ?_
        refine XS.iconst X0.here hx rfl (hb hby at_99) ?_
        exact k)
      obtain ⟨fs, hr, hrun, hended, hW, hsame⟩ := X0.leave (v := some (.int (1 : Int32))) (fun h => by rw [Bd.returns] at h; cases h)
      refine ⟨_, _, pre0 _ (R13 _ ?_), hrun, hended, _, _, rfl, ?_, ⟨_, rfl⟩, hW, hsame.mono (by decide) (by decide)⟩
      · show own_S p e below s₁ (mkF m 100 #[iv p0, iv p1, iv p2, iv p3, iv p4, iv p5, own_l (p0.toInt64), .second, own_l eL1, .second, own_l sL2, .second, own_l eL2, .second, own_l qL, .second, .unset, .unset, .unset, .unset, .unset, .unset, .unset, .unset, .unset, .unset, .unset] [(.int (1 : Int32))]) _
        exact retN X0 hx (t := .boolean) Bd.returns (by simp) (hb hby at_100) hr
      · show Q_rmLaw Z p0 p1 p2 p3 p4 p5 ca kca vsc iv_ h0 n0 _ s₁.heap _
        rw [e0]
        exact ⟨rfl, N0⟩
    · skip
      have R14 : ∀ t, own_S p e below s₁ (mkF m 96 #[iv p0, iv p1, iv p2, iv p3, iv p4, iv p5, own_l (p0.toInt64), .second, own_l eL1, .second, own_l sL2, .second, own_l eL2, .second, own_l qL, .second, .unset, .unset, .unset, .unset, .unset, .unset, .unset, .unset, .unset, .unset, .unset] [(.int (lcmpW qL (2147483647 : Int64)))]) t → own_S p e below s₁ f0 t := fun t k => R12 t (by
        refine XS.ifNo X0.here hx rfl (hb hby at_87) rfl ((if0 _ _).trans (flt hq1).1) ?_
        refine XS.lload X0.here hx rfl (hb hby at_90) rfl  ?_
        refine X0.ldc2Long hx hown (mvT hZ (hU 0 _ rfl)) (g := (mkF m 92 #[iv p0, iv p1, iv p2, iv p3, iv p4, iv p5, own_l (p0.toInt64), .second, own_l eL1, .second, own_l sL2, .second, own_l eL2, .second, own_l qL, .second, .unset, .unset, .unset, .unset, .unset, .unset, .unset, .unset, .unset, .unset, .unset] [(.long qL)])) rfl (hb hby at_92) _ ?_
        refine XS.lcmp X0.here hx rfl (hb hby at_95) rfl ?_
        exact k)
      by_cases hq2 : (0 : Int32) < (lcmpW qL (2147483647 : Int64))
      · skip
        have R15 : ∀ t, own_S p e below s₁ (mkF m 100 #[iv p0, iv p1, iv p2, iv p3, iv p4, iv p5, own_l (p0.toInt64), .second, own_l eL1, .second, own_l sL2, .second, own_l eL2, .second, own_l qL, .second, .unset, .unset, .unset, .unset, .unset, .unset, .unset, .unset, .unset, .unset, .unset] [(.int (1 : Int32))]) t → own_S p e below s₁ f0 t := fun t k => R14 t (by
          refine XS.ifNo X0.here hx rfl (hb hby at_96) rfl ((if0 _ _).trans (tlt hq2).2.2.2) ?_
          refine XS.iconst X0.here hx rfl (hb hby at_99) ?_
          exact k)
        obtain ⟨fs, hr, hrun, hended, hW, hsame⟩ := X0.leave (v := some (.int (1 : Int32))) (fun h => by rw [Bd.returns] at h; cases h)
        refine ⟨_, _, pre0 _ (R15 _ ?_), hrun, hended, _, _, rfl, ?_, ⟨_, rfl⟩, hW, hsame.mono (by decide) (by decide)⟩
        · show own_S p e below s₁ (mkF m 100 #[iv p0, iv p1, iv p2, iv p3, iv p4, iv p5, own_l (p0.toInt64), .second, own_l eL1, .second, own_l sL2, .second, own_l eL2, .second, own_l qL, .second, .unset, .unset, .unset, .unset, .unset, .unset, .unset, .unset, .unset, .unset, .unset] [(.int (1 : Int32))]) _
          exact retN X0 hx (t := .boolean) Bd.returns (by simp) (hb hby at_100) hr
        · show Q_rmLaw Z p0 p1 p2 p3 p4 p5 ca kca vsc iv_ h0 n0 _ s₁.heap _
          rw [e0]
          exact ⟨rfl, N0⟩
      · skip
        have R16 : ∀ t, own_S p e below s₁ (mkF m 104 #[iv p0, iv p1, iv p2, iv p3, iv p4, iv p5, own_l (p0.toInt64), .second, own_l eL1, .second, own_l sL2, .second, own_l eL2, .second, own_l qL, .second, .unset, .unset, .unset, .unset, .unset, .unset, .unset, .unset, .unset, .unset, .unset] [(.int ((p0.toInt64).toInt32))]) t → own_S p e below s₁ f0 t := fun t k => R14 t (by
          refine XS.ifYes X0.here hx rfl (pc0 := 96) (pc' := 101) rfl (hb hby at_96) rfl ((if0 _ _).trans (flt hq2).2.2.2) (by decide) (by decide) ?_
          refine XS.lload X0.here hx rfl (hb hby at_101) rfl  ?_
          refine XS.l2i X0.here hx rfl (hb hby at_103) rfl ?_
          exact k)
        obtain ⟨sA, e_sA⟩ : ∃ z : Int32, z = ((p0.toInt64).toInt32) := ⟨_, rfl⟩
        have R17 : ∀ t, own_S p e below s₁ (mkF m 104 #[iv p0, iv p1, iv p2, iv p3, iv p4, iv p5, own_l (p0.toInt64), .second, own_l eL1, .second, own_l sL2, .second, own_l eL2, .second, own_l qL, .second, .unset, .unset, .unset, .unset, .unset, .unset, .unset, .unset, .unset, .unset, .unset] [(.int sA)]) t → own_S p e below s₁ f0 t := by have q := R16; rw [← e_sA] at q; exact q
        have R18 : ∀ t, own_S p e below s₁ (mkF m 109 #[iv p0, iv p1, iv p2, iv p3, iv p4, iv p5, own_l (p0.toInt64), .second, own_l eL1, .second, own_l sL2, .second, own_l eL2, .second, own_l qL, .second, iv sA, .unset, .unset, .unset, .unset, .unset, .unset, .unset, .unset, .unset, .unset] [(.int (eL1.toInt32))]) t → own_S p e below s₁ f0 t := fun t k => R17 t (by
          refine XS.istore X0.here hx rfl (hb hby at_104) rfl (l' := #[iv p0, iv p1, iv p2, iv p3, iv p4, iv p5, own_l (p0.toInt64), .second, own_l eL1, .second, own_l sL2, .second, own_l eL2, .second, own_l qL, .second, iv sA, .unset, .unset, .unset, .unset, .unset, .unset, .unset, .unset, .unset, .unset]) rfl ?_
          refine XS.lload X0.here hx rfl (hb hby at_106) rfl  ?_
          refine XS.l2i X0.here hx rfl (hb hby at_108) rfl ?_
          exact k)
        obtain ⟨eA, e_eA⟩ : ∃ z : Int32, z = (eL1.toInt32) := ⟨_, rfl⟩
        have R19 : ∀ t, own_S p e below s₁ (mkF m 109 #[iv p0, iv p1, iv p2, iv p3, iv p4, iv p5, own_l (p0.toInt64), .second, own_l eL1, .second, own_l sL2, .second, own_l eL2, .second, own_l qL, .second, iv sA, .unset, .unset, .unset, .unset, .unset, .unset, .unset, .unset, .unset, .unset] [(.int eA)]) t → own_S p e below s₁ f0 t := by have q := R18; rw [← e_eA] at q; exact q
        have R20 : ∀ t, own_S p e below s₁ (mkF m 114 #[iv p0, iv p1, iv p2, iv p3, iv p4, iv p5, own_l (p0.toInt64), .second, own_l eL1, .second, own_l sL2, .second, own_l eL2, .second, own_l qL, .second, iv sA, iv eA, .unset, .unset, .unset, .unset, .unset, .unset, .unset, .unset, .unset] [(.int (sL2.toInt32))]) t → own_S p e below s₁ f0 t := fun t k => R19 t (by
          refine XS.istore X0.here hx rfl (hb hby at_109) rfl (l' := #[iv p0, iv p1, iv p2, iv p3, iv p4, iv p5, own_l (p0.toInt64), .second, own_l eL1, .second, own_l sL2, .second, own_l eL2, .second, own_l qL, .second, iv sA, iv eA, .unset, .unset, .unset, .unset, .unset, .unset, .unset, .unset, .unset]) rfl ?_
          refine XS.lload X0.here hx rfl (hb hby at_111) rfl  ?_
          refine XS.l2i X0.here hx rfl (hb hby at_113) rfl ?_
          exact k)
        obtain ⟨sB, e_sB⟩ : ∃ z : Int32, z = (sL2.toInt32) := ⟨_, rfl⟩
        have R21 : ∀ t, own_S p e below s₁ (mkF m 114 #[iv p0, iv p1, iv p2, iv p3, iv p4, iv p5, own_l (p0.toInt64), .second, own_l eL1, .second, own_l sL2, .second, own_l eL2, .second, own_l qL, .second, iv sA, iv eA, .unset, .unset, .unset, .unset, .unset, .unset, .unset, .unset, .unset] [(.int sB)]) t → own_S p e below s₁ f0 t := by have q := R20; rw [← e_sB] at q; exact q
        have R22 : ∀ t, own_S p e below s₁ (mkF m 119 #[iv p0, iv p1, iv p2, iv p3, iv p4, iv p5, own_l (p0.toInt64), .second, own_l eL1, .second, own_l sL2, .second, own_l eL2, .second, own_l qL, .second, iv sA, iv eA, iv sB, .unset, .unset, .unset, .unset, .unset, .unset, .unset, .unset] [(.int (eL2.toInt32))]) t → own_S p e below s₁ f0 t := fun t k => R21 t (by
          refine XS.istore X0.here hx rfl (hb hby at_114) rfl (l' := #[iv p0, iv p1, iv p2, iv p3, iv p4, iv p5, own_l (p0.toInt64), .second, own_l eL1, .second, own_l sL2, .second, own_l eL2, .second, own_l qL, .second, iv sA, iv eA, iv sB, .unset, .unset, .unset, .unset, .unset, .unset, .unset, .unset]) rfl ?_
          refine XS.lload X0.here hx rfl (hb hby at_116) rfl  ?_
          refine XS.l2i X0.here hx rfl (hb hby at_118) rfl ?_
          exact k)
        obtain ⟨eB, e_eB⟩ : ∃ z : Int32, z = (eL2.toInt32) := ⟨_, rfl⟩
        have R23 : ∀ t, own_S p e below s₁ (mkF m 119 #[iv p0, iv p1, iv p2, iv p3, iv p4, iv p5, own_l (p0.toInt64), .second, own_l eL1, .second, own_l sL2, .second, own_l eL2, .second, own_l qL, .second, iv sA, iv eA, iv sB, .unset, .unset, .unset, .unset, .unset, .unset, .unset, .unset] [(.int eB)]) t → own_S p e below s₁ f0 t := by have q := R22; rw [← e_eB] at q; exact q
        have R24 : ∀ t, own_S p e below s₁ (mkF m 124 #[iv p0, iv p1, iv p2, iv p3, iv p4, iv p5, own_l (p0.toInt64), .second, own_l eL1, .second, own_l sL2, .second, own_l eL2, .second, own_l qL, .second, iv sA, iv eA, iv sB, iv eB, .unset, .unset, .unset, .unset, .unset, .unset, .unset] [(.int (qL.toInt32))]) t → own_S p e below s₁ f0 t := fun t k => R23 t (by
          refine XS.istore X0.here hx rfl (hb hby at_119) rfl (l' := #[iv p0, iv p1, iv p2, iv p3, iv p4, iv p5, own_l (p0.toInt64), .second, own_l eL1, .second, own_l sL2, .second, own_l eL2, .second, own_l qL, .second, iv sA, iv eA, iv sB, iv eB, .unset, .unset, .unset, .unset, .unset, .unset, .unset]) rfl ?_
          refine XS.lload X0.here hx rfl (hb hby at_121) rfl  ?_
          refine XS.l2i X0.here hx rfl (hb hby at_123) rfl ?_
          exact k)
        obtain ⟨qq, e_qq⟩ : ∃ z : Int32, z = (qL.toInt32) := ⟨_, rfl⟩
        have R25 : ∀ t, own_S p e below s₁ (mkF m 124 #[iv p0, iv p1, iv p2, iv p3, iv p4, iv p5, own_l (p0.toInt64), .second, own_l eL1, .second, own_l sL2, .second, own_l eL2, .second, own_l qL, .second, iv sA, iv eA, iv sB, iv eB, .unset, .unset, .unset, .unset, .unset, .unset, .unset] [(.int qq)]) t → own_S p e below s₁ f0 t := by have q := R24; rw [← e_qq] at q; exact q
        have R26 : ∀ t, own_S p e below s₁ (mkF m 130 #[iv p0, iv p1, iv p2, iv p3, iv p4, iv p5, own_l (p0.toInt64), .second, own_l eL1, .second, own_l sL2, .second, own_l eL2, .second, own_l qL, .second, iv sA, iv eA, iv sB, iv eB, iv qq, .unset, .unset, .unset, .unset, .unset, .unset] [(.int (p5 &&& (3 : Int32)))]) t → own_S p e below s₁ f0 t := fun t k => R25 t (by
          refine XS.istore X0.here hx rfl (hb hby at_124) rfl (l' := #[iv p0, iv p1, iv p2, iv p3, iv p4, iv p5, own_l (p0.toInt64), .second, own_l eL1, .second, own_l sL2, .second, own_l eL2, .second, own_l qL, .second, iv sA, iv eA, iv sB, iv eB, iv qq, .unset, .unset, .unset, .unset, .unset, .unset]) rfl ?_
          refine XS.iload X0.here hx rfl (hb hby at_126) rfl  ?_
          refine XS.iconst X0.here hx rfl (hb hby at_128) ?_
          refine XS.iand X0.here hx rfl (hb hby at_129) rfl ?_
          exact k)
        obtain ⟨md, e_md⟩ : ∃ z : Int32, z = (p5 &&& (3 : Int32)) := ⟨_, rfl⟩
        have R27 : ∀ t, own_S p e below s₁ (mkF m 130 #[iv p0, iv p1, iv p2, iv p3, iv p4, iv p5, own_l (p0.toInt64), .second, own_l eL1, .second, own_l sL2, .second, own_l eL2, .second, own_l qL, .second, iv sA, iv eA, iv sB, iv eB, iv qq, .unset, .unset, .unset, .unset, .unset, .unset] [(.int md)]) t → own_S p e below s₁ f0 t := by have q := R26; rw [← e_md] at q; exact q
        have ho := own_ord e_eL1 e_sL2 e_eL2 hov e_sA e_eA e_sB e_eB
        have hAB := own_lt ho
        have R28 : ∀ t, own_S p e below s₁ (mkF m 134 #[iv p0, iv p1, iv p2, iv p3, iv p4, iv p5, own_l (p0.toInt64), .second, own_l eL1, .second, own_l sL2, .second, own_l eL2, .second, own_l qL, .second, iv sA, iv eA, iv sB, iv eB, iv qq, iv md, .unset, .unset, .unset, .unset, .unset] [(.int md)]) t → own_S p e below s₁ f0 t := fun t k => R27 t (by
          refine XS.istore X0.here hx rfl (hb hby at_130) rfl (l' := #[iv p0, iv p1, iv p2, iv p3, iv p4, iv p5, own_l (p0.toInt64), .second, own_l eL1, .second, own_l sL2, .second, own_l eL2, .second, own_l qL, .second, iv sA, iv eA, iv sB, iv eB, iv qq, iv md, .unset, .unset, .unset, .unset, .unset]) rfl ?_
          refine XS.iload X0.here hx rfl (hb hby at_132) rfl  ?_
          exact k)
        have R29 : ∀ t, own_S p e below s₁ (mkF m 142 #[iv p0, iv p1, iv p2, iv p3, iv p4, iv p5, own_l (p0.toInt64), .second, own_l eL1, .second, own_l sL2, .second, own_l eL2, .second, own_l qL, .second, iv sA, iv eA, iv sB, iv eB, iv qq, iv md, .unset, .unset, .unset, .unset, .unset] [(.int (own_b (¬ md = 0)))]) t → own_S p e below s₁ f0 t := by
          intro t k
          refine R28 t ?_
          by_cases hm1 : md = (0 : Int32)
          · skip
            refine XS.ifYes X0.here hx rfl (pc0 := 134) (pc' := 141) rfl (hb hby at_134) rfl ((if0 _ _).trans (teq hm1).1) (by decide) (by decide) ?_
            refine XS.iconst X0.here hx rfl (hb hby at_141) ?_
            have hv : (own_b (¬ md = 0)) = (0 : Int32) := by (try simp only [lw_gt, lw_lt, lw_eq] at hm1); simp [own_b, hm1]
            rw [hv] at k
            exact k
          · skip
            refine XS.ifNo X0.here hx rfl (hb hby at_134) rfl ((if0 _ _).trans (feq hm1).1) ?_
            refine XS.iconst X0.here hx rfl (hb hby at_137) ?_
            refine XS.goto X0.here hx rfl (pc0 := 138) (pc' := 142) rfl (hb hby at_138) (by decide) (by decide) ?_
            have hv : (own_b (¬ md = 0)) = (1 : Int32) := by (try simp only [lw_gt, lw_lt, lw_eq] at hm1); simp [own_b, hm1]
            rw [hv] at k
            exact k
        have R30 : ∀ t, own_S p e below s₁ (mkF m 147 #[iv p0, iv p1, iv p2, iv p3, iv p4, iv p5, own_l (p0.toInt64), .second, own_l eL1, .second, own_l sL2, .second, own_l eL2, .second, own_l qL, .second, iv sA, iv eA, iv sB, iv eB, iv qq, iv md, iv (own_b (¬ md = 0)), .unset, .unset, .unset, .unset] [(.int (2 : Int32)), (.int md)]) t → own_S p e below s₁ f0 t := fun t k => R29 t (by
          refine XS.istore X0.here hx rfl (hb hby at_142) rfl (l' := #[iv p0, iv p1, iv p2, iv p3, iv p4, iv p5, own_l (p0.toInt64), .second, own_l eL1, .second, own_l sL2, .second, own_l eL2, .second, own_l qL, .second, iv sA, iv eA, iv sB, iv eB, iv qq, iv md, iv (own_b (¬ md = 0)), .unset, .unset, .unset, .unset]) rfl ?_
          refine XS.iload X0.here hx rfl (hb hby at_144) rfl  ?_
          refine XS.iconst X0.here hx rfl (hb hby at_146) ?_
          exact k)
        have R31 : ∀ t, own_S p e below s₁ (mkF m 155 #[iv p0, iv p1, iv p2, iv p3, iv p4, iv p5, own_l (p0.toInt64), .second, own_l eL1, .second, own_l sL2, .second, own_l eL2, .second, own_l qL, .second, iv sA, iv eA, iv sB, iv eB, iv qq, iv md, iv (own_b (¬ md = 0)), .unset, .unset, .unset, .unset] [(.int (own_b (¬ md < 2)))]) t → own_S p e below s₁ f0 t := by
          intro t k
          refine R30 t ?_
          by_cases hm1 : md < (2 : Int32)
          · skip
            refine XS.icmpYes X0.here hx rfl (pc0 := 147) (pc' := 154) rfl (hb hby at_147) rfl (tlt hm1).1 (by decide) (by decide) ?_
            refine XS.iconst X0.here hx rfl (hb hby at_154) ?_
            have hv : (own_b (¬ md < 2)) = (0 : Int32) := by (try simp only [lw_gt, lw_lt, lw_eq] at hm1); simp [own_b, hm1]
            rw [hv] at k
            exact k
          · skip
            refine XS.icmpNo X0.here hx rfl (hb hby at_147) rfl (flt hm1).1 ?_
            refine XS.iconst X0.here hx rfl (hb hby at_150) ?_
            refine XS.goto X0.here hx rfl (pc0 := 151) (pc' := 155) rfl (hb hby at_151) (by decide) (by decide) ?_
            have hv : (own_b (¬ md < 2)) = (1 : Int32) := by (try simp only [lw_gt, lw_lt, lw_eq] at hm1); simp [own_b, hm1]
            rw [hv] at k
            exact k
        have R32 : ∀ t, own_S p e below s₁ (mkF m 159 #[iv p0, iv p1, iv p2, iv p3, iv p4, iv p5, own_l (p0.toInt64), .second, own_l eL1, .second, own_l sL2, .second, own_l eL2, .second, own_l qL, .second, iv sA, iv eA, iv sB, iv eB, iv qq, iv md, iv (own_b (¬ md = 0)), iv (own_b (¬ md < 2)), .unset, .unset, .unset] [(.int (own_b (¬ md = 0)))]) t → own_S p e below s₁ f0 t := fun t k => R31 t (by
          refine XS.istore X0.here hx rfl (hb hby at_155) rfl (l' := #[iv p0, iv p1, iv p2, iv p3, iv p4, iv p5, own_l (p0.toInt64), .second, own_l eL1, .second, own_l sL2, .second, own_l eL2, .second, own_l qL, .second, iv sA, iv eA, iv sB, iv eB, iv qq, iv md, iv (own_b (¬ md = 0)), iv (own_b (¬ md < 2)), .unset, .unset, .unset]) rfl ?_
          refine XS.iload X0.here hx rfl (hb hby at_157) rfl  ?_
          exact k)
        by_cases hA : ¬ md = 0 ∧ qq = sA
        · skip
          have R33 : ∀ t, own_S p e below s₁ (mkF m 170 #[iv p0, iv p1, iv p2, iv p3, iv p4, iv p5, own_l (p0.toInt64), .second, own_l eL1, .second, own_l sL2, .second, own_l eL2, .second, own_l qL, .second, iv sA, iv eA, iv sB, iv eB, iv qq, iv md, iv (own_b (¬ md = 0)), iv (own_b (¬ md < 2)), .unset, .unset, .unset] [(.int (1 : Int32))]) t → own_S p e below s₁ f0 t := fun t k => R32 t (by
            refine XS.ifNo X0.here hx rfl (hb hby at_159) rfl ((if0 _ _).trans (feq (own_bt hA.1)).1) ?_
            refine XS.iload X0.here hx rfl (hb hby at_162) rfl  ?_
            refine XS.iload X0.here hx rfl (hb hby at_164) rfl  ?_
            refine XS.icmpNo X0.here hx rfl (hb hby at_166) rfl (teq hA.2).2 ?_
            refine XS.iconst X0.here hx rfl (hb hby at_169) ?_
            exact k)
          obtain ⟨fs, hr, hrun, hended, hW, hsame⟩ := X0.leave (v := some (.int (1 : Int32))) (fun h => by rw [Bd.returns] at h; cases h)
          refine ⟨_, _, pre0 _ (R33 _ ?_), hrun, hended, _, _, rfl, ?_, ⟨_, rfl⟩, hW, hsame.mono (by decide) (by decide)⟩
          · show own_S p e below s₁ (mkF m 170 #[iv p0, iv p1, iv p2, iv p3, iv p4, iv p5, own_l (p0.toInt64), .second, own_l eL1, .second, own_l sL2, .second, own_l eL2, .second, own_l qL, .second, iv sA, iv eA, iv sB, iv eB, iv qq, iv md, iv (own_b (¬ md = 0)), iv (own_b (¬ md < 2)), .unset, .unset, .unset] [(.int (1 : Int32))]) _
            exact retN X0 hx (t := .boolean) Bd.returns (by simp) (hb hby at_170) hr
          · show Q_rmLaw Z p0 p1 p2 p3 p4 p5 ca kca vsc iv_ h0 n0 _ s₁.heap _
            rw [e0]
            exact ⟨rfl, N0⟩
        · skip
          have R34 : ∀ t, own_S p e below s₁ (mkF m 171 #[iv p0, iv p1, iv p2, iv p3, iv p4, iv p5, own_l (p0.toInt64), .second, own_l eL1, .second, own_l sL2, .second, own_l eL2, .second, own_l qL, .second, iv sA, iv eA, iv sB, iv eB, iv qq, iv md, iv (own_b (¬ md = 0)), iv (own_b (¬ md < 2)), .unset, .unset, .unset] []) t → own_S p e below s₁ f0 t := by
            intro t k
            refine R32 t ?_
            by_cases hm1 : (own_b (¬ md = 0)) = (0 : Int32)
            · skip
              refine XS.ifYes X0.here hx rfl (pc0 := 159) (pc' := 171) rfl (hb hby at_159) rfl ((if0 _ _).trans (teq hm1).1) (by decide) (by decide) ?_
              exact k
            · skip
              refine XS.ifNo X0.here hx rfl (hb hby at_159) rfl ((if0 _ _).trans (feq hm1).1) ?_
              refine XS.iload X0.here hx rfl (hb hby at_162) rfl  ?_
              refine XS.iload X0.here hx rfl (hb hby at_164) rfl  ?_
              refine XS.icmpYes X0.here hx rfl (pc0 := 166) (pc' := 171) rfl (hb hby at_166) rfl (feq (fun e => hA ⟨own_bf hm1, e⟩)).2 (by decide) (by decide) ?_
              exact k
          have R35 : ∀ t, own_S p e below s₁ (mkF m 173 #[iv p0, iv p1, iv p2, iv p3, iv p4, iv p5, own_l (p0.toInt64), .second, own_l eL1, .second, own_l sL2, .second, own_l eL2, .second, own_l qL, .second, iv sA, iv eA, iv sB, iv eB, iv qq, iv md, iv (own_b (¬ md = 0)), iv (own_b (¬ md < 2)), .unset, .unset, .unset] [(.int (own_b (¬ md < 2)))]) t → own_S p e below s₁ f0 t := fun t k => R34 t (by
            refine XS.iload X0.here hx rfl (hb hby at_171) rfl  ?_
            exact k)
          by_cases hB : ¬ md < 2 ∧ qq = sB
          · skip
            have R36 : ∀ t, own_S p e below s₁ (mkF m 184 #[iv p0, iv p1, iv p2, iv p3, iv p4, iv p5, own_l (p0.toInt64), .second, own_l eL1, .second, own_l sL2, .second, own_l eL2, .second, own_l qL, .second, iv sA, iv eA, iv sB, iv eB, iv qq, iv md, iv (own_b (¬ md = 0)), iv (own_b (¬ md < 2)), .unset, .unset, .unset] [(.int (1 : Int32))]) t → own_S p e below s₁ f0 t := fun t k => R35 t (by
              refine XS.ifNo X0.here hx rfl (hb hby at_173) rfl ((if0 _ _).trans (feq (own_bt hB.1)).1) ?_
              refine XS.iload X0.here hx rfl (hb hby at_176) rfl  ?_
              refine XS.iload X0.here hx rfl (hb hby at_178) rfl  ?_
              refine XS.icmpNo X0.here hx rfl (hb hby at_180) rfl (teq hB.2).2 ?_
              refine XS.iconst X0.here hx rfl (hb hby at_183) ?_
              exact k)
            obtain ⟨fs, hr, hrun, hended, hW, hsame⟩ := X0.leave (v := some (.int (1 : Int32))) (fun h => by rw [Bd.returns] at h; cases h)
            refine ⟨_, _, pre0 _ (R36 _ ?_), hrun, hended, _, _, rfl, ?_, ⟨_, rfl⟩, hW, hsame.mono (by decide) (by decide)⟩
            · show own_S p e below s₁ (mkF m 184 #[iv p0, iv p1, iv p2, iv p3, iv p4, iv p5, own_l (p0.toInt64), .second, own_l eL1, .second, own_l sL2, .second, own_l eL2, .second, own_l qL, .second, iv sA, iv eA, iv sB, iv eB, iv qq, iv md, iv (own_b (¬ md = 0)), iv (own_b (¬ md < 2)), .unset, .unset, .unset] [(.int (1 : Int32))]) _
              exact retN X0 hx (t := .boolean) Bd.returns (by simp) (hb hby at_184) hr
            · show Q_rmLaw Z p0 p1 p2 p3 p4 p5 ca kca vsc iv_ h0 n0 _ s₁.heap _
              rw [e0]
              exact ⟨rfl, N0⟩
          · skip
            have R37 : ∀ t, own_S p e below s₁ (mkF m 185 #[iv p0, iv p1, iv p2, iv p3, iv p4, iv p5, own_l (p0.toInt64), .second, own_l eL1, .second, own_l sL2, .second, own_l eL2, .second, own_l qL, .second, iv sA, iv eA, iv sB, iv eB, iv qq, iv md, iv (own_b (¬ md = 0)), iv (own_b (¬ md < 2)), .unset, .unset, .unset] []) t → own_S p e below s₁ f0 t := by
              intro t k
              refine R35 t ?_
              by_cases hm1 : (own_b (¬ md < 2)) = (0 : Int32)
              · skip
                refine XS.ifYes X0.here hx rfl (pc0 := 173) (pc' := 185) rfl (hb hby at_173) rfl ((if0 _ _).trans (teq hm1).1) (by decide) (by decide) ?_
                exact k
              · skip
                refine XS.ifNo X0.here hx rfl (hb hby at_173) rfl ((if0 _ _).trans (feq hm1).1) ?_
                refine XS.iload X0.here hx rfl (hb hby at_176) rfl  ?_
                refine XS.iload X0.here hx rfl (hb hby at_178) rfl  ?_
                refine XS.icmpYes X0.here hx rfl (pc0 := 180) (pc' := 185) rfl (hb hby at_180) rfl (feq (fun e => hB ⟨own_bf hm1, e⟩)).2 (by decide) (by decide) ?_
                exact k
            obtain ⟨T38, h38, X38, e38, E38, A38, D38, -, st38⟩ := newO X0 hx hZ hown (hU 3 _ rfl) (hU 4 _ rfl) (hU 5 _ rfl) e0 (g := (mkF m 185 #[iv p0, iv p1, iv p2, iv p3, iv p4, iv p5, own_l (p0.toInt64), .second, own_l eL1, .second, own_l sL2, .second, own_l eL2, .second, own_l qL, .second, iv sA, iv eA, iv sB, iv eB, iv qq, iv md, iv (own_b (¬ md = 0)), iv (own_b (¬ md < 2)), .unset, .unset, .unset] [])) rfl (hb hby at_185) (by decide) (by decide)
            obtain ⟨b38, g38⟩ : ∃ z, z = h0.size := ⟨_, rfl⟩
            rw [← g38] at A38 D38 st38
            have g_b38 : n0 ≤ b38 := Nat.le_trans Z0 (Nat.le_of_eq g38.symm)
            have sz_b38 : h0.size ≤ b38 := Nat.le_trans (Keep.refl h0 []).1 (Nat.le_of_eq g38.symm)
            have ne_ca_b38 : ca ≠ b38 := Nat.ne_of_lt (Nat.lt_of_lt_of_le A_ca.lt (Nat.le_of_eq g38.symm))
            have ne_iv__b38 : iv_ ≠ b38 := Nat.ne_of_lt (Nat.lt_of_lt_of_le E_iv_.lt (Nat.le_of_eq g38.symm))
            have f38_S_Integer_IntegerCache_high := S_Integer_IntegerCache_high.ext E38
            have f38_S_Integer_IntegerCache_cache := S_Integer_IntegerCache_cache.ext E38
            have f38_A_ca := A_ca.ext E38
            have f38_E_iv_ := E_iv_.ext E38
            have z38 : n0 ≤ h38.size := Nat.le_trans Z0 E38.1
            have K38 : Keep h0 h38 [] := (Keep.refl h0 []).ext E38
            have d38_read : Fld Z h38 b38 sN2 "read" sN4 .null := D38 (Or.inr (hU 46 _ rfl)) (ty := (.object sN0)) (by decide)
            have d38_unread : Fld Z h38 b38 sN2 "unread" sN4 .null := D38 (Or.inr (hU 48 _ rfl)) (ty := (.object sN0)) (by decide)
            have R39 := fun t k => R37 t (st38 t k)
            have R40 : ∀ t, own_S p e below T38 (mkF m 189 #[iv p0, iv p1, iv p2, iv p3, iv p4, iv p5, own_l (p0.toInt64), .second, own_l eL1, .second, own_l sL2, .second, own_l eL2, .second, own_l qL, .second, iv sA, iv eA, iv sB, iv eB, iv qq, iv md, iv (own_b (¬ md = 0)), iv (own_b (¬ md < 2)), .unset, .unset, .unset] [(.ref b38), (.ref b38)]) t → own_S p e below s₁ f0 t := fun t k => R39 t (by
              refine XS.dup X38.here hx rfl (hb hby at_188) rfl rfl ?_
              exact k)
            obtain ⟨_, _, ⟨T41, L41, k41, n41⟩, -, X41, ⟨Lc41, hQ41, l41, y41, z41⟩, st41⟩ := X38.specialBack hx (y := (⟨sN2, "<init>", "()V"⟩ : MethodName)) rfl hown (mvT hZ (hU 6 _ rfl)) (mvT hZ (hU 7 _ rfl)) (mvT hZ (hU 8 _ rfl)) (by decide) (backOf (W := 1) (rmFol l Z a0 hw [] b38 .null .null h38 n0 z38 A38 d38_read d38_unread g_b38) hZ (hU 8 _ rfl) (hU 5 _ rfl) (by decide) (by decide)) (g := (mkF m 189 #[iv p0, iv p1, iv p2, iv p3, iv p4, iv p5, own_l (p0.toInt64), .second, own_l eL1, .second, own_l sL2, .second, own_l eL2, .second, own_l qL, .second, iv sA, iv eA, iv sB, iv eB, iv qq, iv md, iv (own_b (¬ md = 0)), iv (own_b (¬ md < 2)), .unset, .unset, .unset] [(.ref b38), (.ref b38)])) rfl (by rw [hml]; rfl) (Steps.refl _) (a := b38) (argsL := []) (rest := [(.ref b38)]) (lenOf pd_15 rfl) rfl (Nat.le_of_eq rfl) (hb hby at_189) (fun _ _ => ⟨rfl, e38, (by decide : 1 + 12 ≤ _), (by decide : 2 + 1044 ≤ _)⟩)
            dsimp only [Pt.U, Pt.locs, Pt.cells, Pt.slots] at X41 l41 y41 z41 st41 hQ41
            subst l41 y41 z41
            obtain ⟨oR_41, fiR_41, kfiR_41, ckR_41, kckR_41, kkR_41, saR_41, kstR_41, enR_41, kenR_41, itR_41, kitR_41, oU_41, ckU_41, kckU_41, kkU_41, rfl, N41q, p41_0, p41_1, p41_2, p41_3, p41_4, p41_5, p41_6, p41_7, p41_8, p41_9, p41_10, p41_11, p41_12, p41_13, p41_14, p41_15, p41_16, p41_17, p41_18, p41_19, p41_20, p41_21, p41_22, p41_23, p41_24, p41_25, p41_26, p41_27, p41_28, p41_29, p41_30, p41_31, p41_32, p41_33, p41_34, p41_35, p41_36, p41_37, p41_38, p41_39, p41_40, p41_41, p41_42, p41_43, p41_44, p41_45, p41_46, p41_47, p41_48, p41_49⟩ := hQ41
            have N41 := Fr.app N0 N41q
            have f41_S_Integer_IntegerCache_high := own_sta_keep f38_S_Integer_IntegerCache_high p41_0 (nsS A38.nostat ns0)
            have f41_S_Integer_IntegerCache_cache := own_sta_keep f38_S_Integer_IntegerCache_cache p41_0 (nsS A38.nostat ns0)
            have f41_A_ca := f38_A_ca.keep p41_0 (ninS ne_ca_b38 nin0)
            have f41_E_iv_ := f38_E_iv_.keep p41_0
            have f41_E_b38 := A38.keep p41_0
            have z41 : n0 ≤ T41.heap.size := Nat.le_trans z38 p41_0.1
            have K41 : Keep h0 T41.heap [] := K38.trans p41_0 (allS (Or.inr sz_b38) all0)
            have g_fiR_41 : n0 ≤ fiR_41 := Nat.le_trans z38 p41_24
            have sz_fiR_41 : h0.size ≤ fiR_41 := Nat.le_trans K38.1 p41_24
            have ne_ca_fiR_41 : ca ≠ fiR_41 := Nat.ne_of_lt (Nat.lt_of_lt_of_le f38_A_ca.lt p41_24)
            have ne_b38_fiR_41 : b38 ≠ fiR_41 := Nat.ne_of_lt (Nat.lt_of_lt_of_le d38_read.lt p41_24)
            have g_ckR_41 : n0 ≤ ckR_41 := Nat.le_trans z38 p41_25
            have sz_ckR_41 : h0.size ≤ ckR_41 := Nat.le_trans K38.1 p41_25
            have ne_ca_ckR_41 : ca ≠ ckR_41 := Nat.ne_of_lt (Nat.lt_of_lt_of_le f38_A_ca.lt p41_25)
            have ne_b38_ckR_41 : b38 ≠ ckR_41 := Nat.ne_of_lt (Nat.lt_of_lt_of_le d38_read.lt p41_25)
            have g_saR_41 : n0 ≤ saR_41 := Nat.le_trans z38 p41_26
            have sz_saR_41 : h0.size ≤ saR_41 := Nat.le_trans K38.1 p41_26
            have ne_ca_saR_41 : ca ≠ saR_41 := Nat.ne_of_lt (Nat.lt_of_lt_of_le f38_A_ca.lt p41_26)
            have ne_b38_saR_41 : b38 ≠ saR_41 := Nat.ne_of_lt (Nat.lt_of_lt_of_le d38_read.lt p41_26)
            have g_enR_41 : n0 ≤ enR_41 := Nat.le_trans z38 p41_27
            have sz_enR_41 : h0.size ≤ enR_41 := Nat.le_trans K38.1 p41_27
            have ne_ca_enR_41 : ca ≠ enR_41 := Nat.ne_of_lt (Nat.lt_of_lt_of_le f38_A_ca.lt p41_27)
            have ne_b38_enR_41 : b38 ≠ enR_41 := Nat.ne_of_lt (Nat.lt_of_lt_of_le d38_read.lt p41_27)
            have g_itR_41 : n0 ≤ itR_41 := Nat.le_trans z38 p41_28
            have sz_itR_41 : h0.size ≤ itR_41 := Nat.le_trans K38.1 p41_28
            have ne_ca_itR_41 : ca ≠ itR_41 := Nat.ne_of_lt (Nat.lt_of_lt_of_le f38_A_ca.lt p41_28)
            have ne_b38_itR_41 : b38 ≠ itR_41 := Nat.ne_of_lt (Nat.lt_of_lt_of_le d38_read.lt p41_28)
            have g_kkR_41 : n0 ≤ kkR_41 := Nat.le_trans z38 p41_29
            have sz_kkR_41 : h0.size ≤ kkR_41 := Nat.le_trans K38.1 p41_29
            have ne_ca_kkR_41 : ca ≠ kkR_41 := Nat.ne_of_lt (Nat.lt_of_lt_of_le f38_A_ca.lt p41_29)
            have ne_b38_kkR_41 : b38 ≠ kkR_41 := Nat.ne_of_lt (Nat.lt_of_lt_of_le d38_read.lt p41_29)
            have g_oR_41 : n0 ≤ oR_41 := Nat.le_trans z38 p41_30
            have sz_oR_41 : h0.size ≤ oR_41 := Nat.le_trans K38.1 p41_30
            have ne_ca_oR_41 : ca ≠ oR_41 := Nat.ne_of_lt (Nat.lt_of_lt_of_le f38_A_ca.lt p41_30)
            have ne_b38_oR_41 : b38 ≠ oR_41 := Nat.ne_of_lt (Nat.lt_of_lt_of_le d38_read.lt p41_30)
            have g_oU_41 : n0 ≤ oU_41 := Nat.le_trans z38 p41_31
            have sz_oU_41 : h0.size ≤ oU_41 := Nat.le_trans K38.1 p41_31
            have ne_ca_oU_41 : ca ≠ oU_41 := Nat.ne_of_lt (Nat.lt_of_lt_of_le f38_A_ca.lt p41_31)
            have ne_b38_oU_41 : b38 ≠ oU_41 := Nat.ne_of_lt (Nat.lt_of_lt_of_le d38_read.lt p41_31)
            have g_ckU_41 : n0 ≤ ckU_41 := Nat.le_trans z38 p41_32
            have sz_ckU_41 : h0.size ≤ ckU_41 := Nat.le_trans K38.1 p41_32
            have ne_ca_ckU_41 : ca ≠ ckU_41 := Nat.ne_of_lt (Nat.lt_of_lt_of_le f38_A_ca.lt p41_32)
            have ne_b38_ckU_41 : b38 ≠ ckU_41 := Nat.ne_of_lt (Nat.lt_of_lt_of_le d38_read.lt p41_32)
            have g_kkU_41 : n0 ≤ kkU_41 := Nat.le_trans z38 p41_33
            have sz_kkU_41 : h0.size ≤ kkU_41 := Nat.le_trans K38.1 p41_33
            have ne_ca_kkU_41 : ca ≠ kkU_41 := Nat.ne_of_lt (Nat.lt_of_lt_of_le f38_A_ca.lt p41_33)
            have ne_b38_kkU_41 : b38 ≠ kkU_41 := Nat.ne_of_lt (Nat.lt_of_lt_of_le d38_read.lt p41_33)
            have R42 := fun t k => R40 t (st41.trans k)
            have R43 : ∀ t, own_S p e below T41 (mkF m 195 #[iv p0, iv p1, iv p2, iv p3, iv p4, iv p5, own_l (p0.toInt64), .second, own_l eL1, .second, own_l sL2, .second, own_l eL2, .second, own_l qL, .second, iv sA, iv eA, iv sB, iv eB, iv qq, iv md, iv (own_b (¬ md = 0)), iv (own_b (¬ md < 2)), rv b38, .unset, .unset] [(.int (1 : Int32))]) t → own_S p e below s₁ f0 t := fun t k => R42 t (by
              refine XS.astore X41.here hx rfl (hb hby at_192) rfl rfl (l' := #[iv p0, iv p1, iv p2, iv p3, iv p4, iv p5, own_l (p0.toInt64), .second, own_l eL1, .second, own_l sL2, .second, own_l eL2, .second, own_l qL, .second, iv sA, iv eA, iv sB, iv eB, iv qq, iv md, iv (own_b (¬ md = 0)), iv (own_b (¬ md < 2)), rv b38, .unset, .unset]) rfl ?_
              refine XS.iconst X41.here hx rfl (hb hby at_194) ?_
              exact k)
            obtain ⟨_, _, ⟨T44, L44, k44, n44⟩, -, X44, ⟨Lc44, hQ44, l44, y44, z44⟩, st44⟩ := Jvm.LawKit.callS X41 hx (y := (⟨"java/lang/Integer", "valueOf", "(I)Ljava/lang/Integer;"⟩ : MethodName)) hown (mvT hZ (hU 49 _ rfl)) (mvT hZ (hU 50 _ rfl)) (mvT hZ (hU 51 _ rfl)) (mvT hZ (hU 52 _ rfl)) (by decide) (backOf (W := 0) (rmVal l Z a0 hw [] ca kca vsc iv_ T41.heap n0 z41 f41_S_Integer_IntegerCache_high f41_S_Integer_IntegerCache_cache f41_A_ca hat) hZ (hU 52 _ rfl) (hU 51 _ rfl) (by decide) (by decide)) (g := (mkF m 195 #[iv p0, iv p1, iv p2, iv p3, iv p4, iv p5, own_l (p0.toInt64), .second, own_l eL1, .second, own_l sL2, .second, own_l eL2, .second, own_l qL, .second, iv sA, iv eA, iv sB, iv eB, iv qq, iv md, iv (own_b (¬ md = 0)), iv (own_b (¬ md < 2)), rv b38, .unset, .unset] [(.int (1 : Int32))])) rfl (by rw [hml]; rfl) (argsL := [(.int (1 : Int32))]) (rest := []) (lenOf pd_16 rfl) rfl (Nat.le_of_eq rfl) (hb hby at_195) (fun _ _ => ⟨rfl, rfl, (by decide : 13 + 0 ≤ _), (by decide : 1046 + 0 ≤ _)⟩)
            dsimp only [Pt.U, Pt.locs, Pt.cells, Pt.slots] at X44 l44 y44 z44 st44 hQ44
            subst l44 y44 z44
            obtain ⟨rfl, N44q, p44_0⟩ := hQ44
            have N44 := Fr.app N41 N44q
            have R45 := fun t k => R43 t (st44 t k)
            have R46 : ∀ t, own_S p e below T44 (mkF m 200 #[iv p0, iv p1, iv p2, iv p3, iv p4, iv p5, own_l (p0.toInt64), .second, own_l eL1, .second, own_l sL2, .second, own_l eL2, .second, own_l qL, .second, iv sA, iv eA, iv sB, iv eB, iv qq, iv md, iv (own_b (¬ md = 0)), iv (own_b (¬ md < 2)), rv b38, rv iv_, .unset] []) t → own_S p e below s₁ f0 t := fun t k => R45 t (by
              refine XS.astore X44.here hx rfl (hb hby at_198) rfl rfl (l' := #[iv p0, iv p1, iv p2, iv p3, iv p4, iv p5, own_l (p0.toInt64), .second, own_l eL1, .second, own_l sL2, .second, own_l eL2, .second, own_l qL, .second, iv sA, iv eA, iv sB, iv eB, iv qq, iv md, iv (own_b (¬ md = 0)), iv (own_b (¬ md < 2)), rv b38, rv iv_, .unset]) rfl ?_
              exact k)
            rcases own_n3 e_md with hm | hm | hm | hm
            · skip
              have R47 : ∀ t, own_S p e below T44 (mkF m 200 #[iv p0, iv p1, iv p2, iv p3, iv p4, iv p5, own_l (p0.toInt64), .second, own_l eL1, .second, own_l sL2, .second, own_l eL2, .second, own_l qL, .second, iv sA, iv eA, iv sB, iv eB, iv qq, iv (0 : Int32), iv (own_b (¬ (0 : Int32) = 0)), iv (own_b (¬ (0 : Int32) < 2)), rv b38, rv iv_, .unset] []) t → own_S p e below s₁ f0 t := by have q := R46; rw [(hm : md = (0 : Int32))] at q; exact q
              have R48 : ∀ t, own_S p e below T44 (mkF m 200 #[iv p0, iv p1, iv p2, iv p3, iv p4, iv p5, own_l (p0.toInt64), .second, own_l eL1, .second, own_l sL2, .second, own_l eL2, .second, own_l qL, .second, iv sA, iv eA, iv sB, iv eB, iv qq, iv (0 : Int32), iv (0 : Int32), iv (own_b (¬ (0 : Int32) < 2)), rv b38, rv iv_, .unset] []) t → own_S p e below s₁ f0 t := by have q := R47; rw [((by decide) : (own_b (¬ (0 : Int32) = 0)) = (0 : Int32))] at q; exact q
              have R49 : ∀ t, own_S p e below T44 (mkF m 200 #[iv p0, iv p1, iv p2, iv p3, iv p4, iv p5, own_l (p0.toInt64), .second, own_l eL1, .second, own_l sL2, .second, own_l eL2, .second, own_l qL, .second, iv sA, iv eA, iv sB, iv eB, iv qq, iv (0 : Int32), iv (0 : Int32), iv (0 : Int32), rv b38, rv iv_, .unset] []) t → own_S p e below s₁ f0 t := by have q := R48; rw [((by decide) : (own_b (¬ (0 : Int32) < 2)) = (0 : Int32))] at q; exact q
              have R50 : ∀ t, own_S p e below T44 (mkF m 349 #[iv p0, iv p1, iv p2, iv p3, iv p4, iv p5, own_l (p0.toInt64), .second, own_l eL1, .second, own_l sL2, .second, own_l eL2, .second, own_l qL, .second, iv sA, iv eA, iv sB, iv eB, iv qq, iv (0 : Int32), iv (0 : Int32), iv (0 : Int32), rv b38, rv iv_, iv (-1 : Int32)] [(.int qq), (.ref b38), (.ref b38)]) t → own_S p e below s₁ f0 t := fun t k => R49 t (by
                refine XS.iload X44.here hx rfl (hb hby at_200) rfl  ?_
                refine XS.iconst X44.here hx rfl (hb hby at_202) ?_
                refine XS.icmpYes X44.here hx rfl (pc0 := 203) (pc' := 245) rfl (hb hby at_203) rfl (feq (by decide : ¬ ((0 : Int32) = (3 : Int32)))).2 (by decide) (by decide) ?_
                refine XS.iload X44.here hx rfl (hb hby at_245) rfl  ?_
                refine XS.ifYes X44.here hx rfl (pc0 := 247) (pc' := 268) rfl (hb hby at_247) rfl ((if0 _ _).trans (teq (by decide : (0 : Int32) = (0 : Int32))).1) (by decide) (by decide) ?_
                refine XS.iload X44.here hx rfl (hb hby at_268) rfl  ?_
                show own_S p e below T44 (mkF m 270 #[iv p0, iv p1, iv p2, iv p3, iv p4, iv p5, own_l (p0.toInt64), .second, own_l eL1, .second, own_l sL2, .second, own_l eL2, .second, own_l qL, .second, iv sA, iv eA, iv sB, iv eB, iv qq, iv (0 : Int32), iv (0 : Int32), iv (0 : Int32), rv b38, rv iv_, .unset] [(.int (0 : Int32))]) _
                refine XS.ifYes X44.here hx rfl (pc0 := 270) (pc' := 291) rfl (hb hby at_270) rfl ((if0 _ _).trans (teq (by decide : (0 : Int32) = (0 : Int32))).1) (by decide) (by decide) ?_
                refine XS.iconst X44.here hx rfl (hb hby at_291) ?_
                refine XS.istore X44.here hx rfl (hb hby at_292) rfl (l' := #[iv p0, iv p1, iv p2, iv p3, iv p4, iv p5, own_l (p0.toInt64), .second, own_l eL1, .second, own_l sL2, .second, own_l eL2, .second, own_l qL, .second, iv sA, iv eA, iv sB, iv eB, iv qq, iv (0 : Int32), iv (0 : Int32), iv (0 : Int32), rv b38, rv iv_, iv (-1 : Int32)]) rfl ?_
                refine XS.iload X44.here hx rfl (hb hby at_294) rfl  ?_
                refine XS.ifYes X44.here hx rfl (pc0 := 296) (pc' := 320) rfl (hb hby at_296) rfl ((if0 _ _).trans (teq (by decide : (0 : Int32) = (0 : Int32))).1) (by decide) (by decide) ?_
                refine XS.iload X44.here hx rfl (hb hby at_320) rfl  ?_
                show own_S p e below T44 (mkF m 322 #[iv p0, iv p1, iv p2, iv p3, iv p4, iv p5, own_l (p0.toInt64), .second, own_l eL1, .second, own_l sL2, .second, own_l eL2, .second, own_l qL, .second, iv sA, iv eA, iv sB, iv eB, iv qq, iv (0 : Int32), iv (0 : Int32), iv (0 : Int32), rv b38, rv iv_, iv (-1 : Int32)] [(.int (0 : Int32))]) _
                refine XS.ifYes X44.here hx rfl (pc0 := 322) (pc' := 343) rfl (hb hby at_322) rfl ((if0 _ _).trans (teq (by decide : (0 : Int32) = (0 : Int32))).1) (by decide) (by decide) ?_
                refine XS.aload X44.here hx rfl (hb hby at_343) rfl rfl ?_
                refine XS.aload X44.here hx rfl (hb hby at_345) rfl rfl ?_
                refine XS.iload X44.here hx rfl (hb hby at_347) rfl  ?_
                exact k)
              obtain ⟨cq51, kq51, q51a, q51b, q51c⟩ := isOf hZ p44_0 f41_E_b38
              obtain ⟨_, _, ⟨T51, L51, k51, n51⟩, -, X51, ⟨Lc51, hQ51, l51, y51, z51⟩, st51⟩ := X44.virtualBack hx (y := (⟨sN2, "find", "(I)J"⟩ : MethodName)) (z := (⟨sN2, "find", "(I)J"⟩ : MethodName)) hown (mvT hZ (hU 56 _ rfl)) (mvT hZ (hU 57 _ rfl)) (notFace_of_selects (args := #[]) (mvT hZ (hU 59 _ rfl))) (mvT hZ (hU 59 _ rfl)) (mvT hZ (hU 58 _ rfl)) (by decide) (backOf (W := 1) (rmFf0_0 l Z a0 hw [] b38 qq oR_41 ckR_41 kckR_41 kkR_41 oU_41 ckU_41 kckU_41 kkU_41 T41.heap n0 z41 p41_1 p41_2 p41_3 p41_4 p41_5 p41_8 p41_10 p41_18 p41_19 p41_20 p41_21 p41_22) hZ (hU 60 _ rfl) (hU 5 _ rfl) (by decide) (by decide)) q51a q51c (g := (mkF m 349 #[iv p0, iv p1, iv p2, iv p3, iv p4, iv p5, own_l (p0.toInt64), .second, own_l eL1, .second, own_l sL2, .second, own_l eL2, .second, own_l qL, .second, iv sA, iv eA, iv sB, iv eB, iv qq, iv (0 : Int32), iv (0 : Int32), iv (0 : Int32), rv b38, rv iv_, iv (-1 : Int32)] [(.int qq), (.ref b38), (.ref b38)])) rfl (by rw [hml]; rfl) (Steps.refl _) (argsL := [(.int qq)]) (rest := [(.ref b38)]) (lenOf pd_5 rfl) rfl (Nat.le_of_eq rfl) (hb hby at_349) (fun _ _ => ⟨rfl, p44_0, (by decide : 13 + 0 ≤ _), (by decide : 1046 + 0 ≤ _)⟩)
              dsimp only [Pt.U, Pt.locs, Pt.cells, Pt.slots] at X51 l51 y51 z51 st51 hQ51
              subst l51 y51 z51
              obtain ⟨rfl, N51q, p51_0⟩ := hQ51
              have N51 := Fr.app N44 N51q
              have R52 := fun t k => R50 t (st51.trans k)
              have R53 : ∀ t, own_S p e below T51 (mkF m 354 #[iv p0, iv p1, iv p2, iv p3, iv p4, iv p5, own_l (p0.toInt64), .second, own_l eL1, .second, own_l sL2, .second, own_l eL2, .second, own_l qL, .second, iv sA, iv eA, iv sB, iv eB, iv qq, iv (0 : Int32), iv (0 : Int32), iv (0 : Int32), rv b38, rv iv_, iv (-1 : Int32)] [(.int qq), (.long (256 : Int64)), (.ref b38)]) t → own_S p e below s₁ f0 t := fun t k => R52 t (by
                refine XS.iload X51.here hx rfl (hb hby at_352) rfl  ?_
                exact k)
              obtain ⟨cq54, kq54, q54a, q54b, q54c⟩ := isOf hZ p51_0 f41_E_b38
              obtain ⟨_, _, ⟨T54, L54, k54, n54⟩, -, X54, ⟨Lc54, hQ54, l54, y54, z54⟩, st54⟩ := X51.virtualBack hx (y := (⟨sN2, "containing", "(JI)I"⟩ : MethodName)) (z := (⟨sN2, "containing", "(JI)I"⟩ : MethodName)) hown (mvT hZ (hU 119 _ rfl)) (mvT hZ (hU 120 _ rfl)) (notFace_of_selects (args := #[]) (mvT hZ (hU 122 _ rfl))) (mvT hZ (hU 122 _ rfl)) (mvT hZ (hU 121 _ rfl)) (by decide) (backOf (W := 0) (rmCt0_0 l Z a0 hw [] b38 qq oR_41 T41.heap n0 z41 p41_1) hZ (hU 123 _ rfl) (hU 5 _ rfl) (by decide) (by decide)) q54a q54c (g := (mkF m 354 #[iv p0, iv p1, iv p2, iv p3, iv p4, iv p5, own_l (p0.toInt64), .second, own_l eL1, .second, own_l sL2, .second, own_l eL2, .second, own_l qL, .second, iv sA, iv eA, iv sB, iv eB, iv qq, iv (0 : Int32), iv (0 : Int32), iv (0 : Int32), rv b38, rv iv_, iv (-1 : Int32)] [(.int qq), (.long (256 : Int64)), (.ref b38)])) rfl (by rw [hml]; rfl) (Steps.refl _) (argsL := [(.long (256 : Int64)), (.int qq)]) (rest := []) (lenOf pd_17 rfl) rfl (Nat.le_of_eq rfl) (hb hby at_354) (fun _ _ => ⟨rfl, p51_0, (by decide : 13 + 0 ≤ _), (by decide : 1046 + 0 ≤ _)⟩)
              dsimp only [Pt.U, Pt.locs, Pt.cells, Pt.slots] at X54 l54 y54 z54 st54 hQ54
              subst l54 y54 z54
              obtain ⟨rfl, N54q, p54_0⟩ := hQ54
              have N54 := Fr.app N51 N54q
              have R55 := fun t k => R53 t (st54.trans k)
              have R56 : ∀ t, own_S p e below T54 (mkF m 367 #[iv p0, iv p1, iv p2, iv p3, iv p4, iv p5, own_l (p0.toInt64), .second, own_l eL1, .second, own_l sL2, .second, own_l eL2, .second, own_l qL, .second, iv sA, iv eA, iv sB, iv eB, iv qq, iv (0 : Int32), iv (0 : Int32), iv (0 : Int32), rv b38, rv iv_, iv (-1 : Int32)] [(.int (1 : Int32))]) t → own_S p e below s₁ f0 t := fun t k => R55 t (by
                refine XS.iload X54.here hx rfl (hb hby at_357) rfl  ?_
                refine XS.icmpNo X54.here hx rfl (hb hby at_359) rfl (teq (by decide : (-1 : Int32) = (-1 : Int32))).2 ?_
                refine XS.iconst X54.here hx rfl (hb hby at_362) ?_
                refine XS.goto X54.here hx rfl (pc0 := 363) (pc' := 367) rfl (hb hby at_363) (by decide) (by decide) ?_
                exact k)
              obtain ⟨fs, hr, hrun, hended, hW, hsame⟩ := X54.leave (v := some (.int (1 : Int32))) (fun h => by rw [Bd.returns] at h; cases h)
              refine ⟨_, _, pre0 _ (R56 _ ?_), hrun, hended, _, _, rfl, ?_, ⟨_, rfl⟩, hW, hsame.mono (by decide) (by decide)⟩
              · show own_S p e below T54 (mkF m 367 #[iv p0, iv p1, iv p2, iv p3, iv p4, iv p5, own_l (p0.toInt64), .second, own_l eL1, .second, own_l sL2, .second, own_l eL2, .second, own_l qL, .second, iv sA, iv eA, iv sB, iv eB, iv qq, iv (0 : Int32), iv (0 : Int32), iv (0 : Int32), rv b38, rv iv_, iv (-1 : Int32)] [(.int (1 : Int32))]) _
                exact retN X54 hx (t := .boolean) Bd.returns (by simp) (hb hby at_367) hr
              · show Q_rmLaw Z p0 p1 p2 p3 p4 p5 ca kca vsc iv_ h0 n0 _ T54.heap _
                rw [p54_0]
                exact ⟨rfl, N54⟩
            · skip
              have R57 : ∀ t, own_S p e below T44 (mkF m 200 #[iv p0, iv p1, iv p2, iv p3, iv p4, iv p5, own_l (p0.toInt64), .second, own_l eL1, .second, own_l sL2, .second, own_l eL2, .second, own_l qL, .second, iv sA, iv eA, iv sB, iv eB, iv qq, iv (1 : Int32), iv (own_b (¬ (1 : Int32) = 0)), iv (own_b (¬ (1 : Int32) < 2)), rv b38, rv iv_, .unset] []) t → own_S p e below s₁ f0 t := by have q := R46; rw [(hm : md = (1 : Int32))] at q; exact q
              have R58 : ∀ t, own_S p e below T44 (mkF m 200 #[iv p0, iv p1, iv p2, iv p3, iv p4, iv p5, own_l (p0.toInt64), .second, own_l eL1, .second, own_l sL2, .second, own_l eL2, .second, own_l qL, .second, iv sA, iv eA, iv sB, iv eB, iv qq, iv (1 : Int32), iv (1 : Int32), iv (own_b (¬ (1 : Int32) < 2)), rv b38, rv iv_, .unset] []) t → own_S p e below s₁ f0 t := by have q := R57; rw [((by decide) : (own_b (¬ (1 : Int32) = 0)) = (1 : Int32))] at q; exact q
              have R59 : ∀ t, own_S p e below T44 (mkF m 200 #[iv p0, iv p1, iv p2, iv p3, iv p4, iv p5, own_l (p0.toInt64), .second, own_l eL1, .second, own_l sL2, .second, own_l eL2, .second, own_l qL, .second, iv sA, iv eA, iv sB, iv eB, iv qq, iv (1 : Int32), iv (1 : Int32), iv (0 : Int32), rv b38, rv iv_, .unset] []) t → own_S p e below s₁ f0 t := by have q := R58; rw [((by decide) : (own_b (¬ (1 : Int32) < 2)) = (0 : Int32))] at q; exact q
              have R60 : ∀ t, own_S p e below T44 (mkF m 256 #[iv p0, iv p1, iv p2, iv p3, iv p4, iv p5, own_l (p0.toInt64), .second, own_l eL1, .second, own_l sL2, .second, own_l eL2, .second, own_l qL, .second, iv sA, iv eA, iv sB, iv eB, iv qq, iv (1 : Int32), iv (1 : Int32), iv (0 : Int32), rv b38, rv iv_, .unset] [(.int sA), (.ref b38), (.ref b38)]) t → own_S p e below s₁ f0 t := fun t k => R59 t (by
                refine XS.iload X44.here hx rfl (hb hby at_200) rfl  ?_
                refine XS.iconst X44.here hx rfl (hb hby at_202) ?_
                refine XS.icmpYes X44.here hx rfl (pc0 := 203) (pc' := 245) rfl (hb hby at_203) rfl (feq (by decide : ¬ ((1 : Int32) = (3 : Int32)))).2 (by decide) (by decide) ?_
                refine XS.iload X44.here hx rfl (hb hby at_245) rfl  ?_
                refine XS.ifNo X44.here hx rfl (hb hby at_247) rfl ((if0 _ _).trans (feq (by decide : ¬ ((1 : Int32) = (0 : Int32)))).1) ?_
                refine XS.aload X44.here hx rfl (hb hby at_250) rfl rfl ?_
                show own_S p e below T44 (mkF m 252 #[iv p0, iv p1, iv p2, iv p3, iv p4, iv p5, own_l (p0.toInt64), .second, own_l eL1, .second, own_l sL2, .second, own_l eL2, .second, own_l qL, .second, iv sA, iv eA, iv sB, iv eB, iv qq, iv (1 : Int32), iv (1 : Int32), iv (0 : Int32), rv b38, rv iv_, .unset] [(.ref b38)]) _
                refine XS.aload X44.here hx rfl (hb hby at_252) rfl rfl ?_
                refine XS.iload X44.here hx rfl (hb hby at_254) rfl  ?_
                exact k)
              obtain ⟨cq61, kq61, q61a, q61b, q61c⟩ := isOf hZ p44_0 f41_E_b38
              obtain ⟨_, _, ⟨T61, L61, k61, n61⟩, -, X61, ⟨Lc61, hQ61, l61, y61, z61⟩, st61⟩ := X44.virtualBack hx (y := (⟨sN2, "find", "(I)J"⟩ : MethodName)) (z := (⟨sN2, "find", "(I)J"⟩ : MethodName)) hown (mvT hZ (hU 56 _ rfl)) (mvT hZ (hU 57 _ rfl)) (notFace_of_selects (args := #[]) (mvT hZ (hU 59 _ rfl))) (mvT hZ (hU 59 _ rfl)) (mvT hZ (hU 58 _ rfl)) (by decide) (backOf (W := 1) (rmFf0_0 l Z a0 hw [] b38 sA oR_41 ckR_41 kckR_41 kkR_41 oU_41 ckU_41 kckU_41 kkU_41 T41.heap n0 z41 p41_1 p41_2 p41_3 p41_4 p41_5 p41_8 p41_10 p41_18 p41_19 p41_20 p41_21 p41_22) hZ (hU 60 _ rfl) (hU 5 _ rfl) (by decide) (by decide)) q61a q61c (g := (mkF m 256 #[iv p0, iv p1, iv p2, iv p3, iv p4, iv p5, own_l (p0.toInt64), .second, own_l eL1, .second, own_l sL2, .second, own_l eL2, .second, own_l qL, .second, iv sA, iv eA, iv sB, iv eB, iv qq, iv (1 : Int32), iv (1 : Int32), iv (0 : Int32), rv b38, rv iv_, .unset] [(.int sA), (.ref b38), (.ref b38)])) rfl (by rw [hml]; rfl) (Steps.refl _) (argsL := [(.int sA)]) (rest := [(.ref b38)]) (lenOf pd_5 rfl) rfl (Nat.le_of_eq rfl) (hb hby at_256) (fun _ _ => ⟨rfl, p44_0, (by decide : 13 + 0 ≤ _), (by decide : 1046 + 0 ≤ _)⟩)
              dsimp only [Pt.U, Pt.locs, Pt.cells, Pt.slots] at X61 l61 y61 z61 st61 hQ61
              subst l61 y61 z61
              obtain ⟨rfl, N61q, p61_0⟩ := hQ61
              have N61 := Fr.app N44 N61q
              have R62 := fun t k => R60 t (st61.trans k)
              have R63 : ∀ t, own_S p e below T61 (mkF m 265 #[iv p0, iv p1, iv p2, iv p3, iv p4, iv p5, own_l (p0.toInt64), .second, own_l eL1, .second, own_l sL2, .second, own_l eL2, .second, own_l qL, .second, iv sA, iv eA, iv sB, iv eB, iv qq, iv (1 : Int32), iv (1 : Int32), iv (0 : Int32), rv b38, rv iv_, .unset] [(.ref iv_), (.int eA), (.int sA), (.long (256 : Int64)), (.ref b38)]) t → own_S p e below s₁ f0 t := fun t k => R62 t (by
                refine XS.iload X61.here hx rfl (hb hby at_259) rfl  ?_
                refine XS.iload X61.here hx rfl (hb hby at_261) rfl  ?_
                refine XS.aload X61.here hx rfl (hb hby at_263) rfl rfl ?_
                exact k)
              obtain ⟨cq64, kq64, q64a, q64b, q64c⟩ := isOf hZ p61_0 f41_E_b38
              obtain ⟨_, _, ⟨T64, L64, k64, n64⟩, -, X64, ⟨Lc64, hQ64, l64, y64, z64⟩, st64⟩ := X61.virtualBack hx (y := (⟨sN2, "add", sN5⟩ : MethodName)) (z := (⟨sN2, "add", sN5⟩ : MethodName)) hown (mvT hZ (hU 73 _ rfl)) (mvT hZ (hU 74 _ rfl)) (notFace_of_selects (args := #[]) (mvT hZ (hU 76 _ rfl))) (mvT hZ (hU 76 _ rfl)) (mvT hZ (hU 75 _ rfl)) (by decide) (backOf (W := 0) (rmFadd0_0 l Z a0 hw [] b38 sA eA iv_ oR_41 ckR_41 kckR_41 kkR_41 fiR_41 kfiR_41 saR_41 kstR_41 enR_41 kenR_41 itR_41 kitR_41 (0 : Int32) oU_41 ckU_41 kckU_41 kkU_41 T41.heap n0 z41 p41_1 p41_2 p41_3 p41_4 p41_5 p41_6 p41_7 p41_8 p41_9 p41_10 p41_11 p41_12 p41_13 p41_14 p41_15 p41_16 p41_17 f41_E_iv_ g_fiR_41 g_ckR_41 g_saR_41 g_enR_41 g_itR_41 g_kkR_41 p41_34 p41_35 p41_36 p41_37 p41_38 p41_39 p41_40 p41_41 p41_42 p41_43 p41_23 p41_18 p41_19 p41_20 p41_21 p41_22 f41_E_b38 p41_44 p41_45 p41_46 p41_47 p41_48) hZ (hU 77 _ rfl) (hU 5 _ rfl) (by decide) (by decide)) q64a q64c (g := (mkF m 265 #[iv p0, iv p1, iv p2, iv p3, iv p4, iv p5, own_l (p0.toInt64), .second, own_l eL1, .second, own_l sL2, .second, own_l eL2, .second, own_l qL, .second, iv sA, iv eA, iv sB, iv eB, iv qq, iv (1 : Int32), iv (1 : Int32), iv (0 : Int32), rv b38, rv iv_, .unset] [(.ref iv_), (.int eA), (.int sA), (.long (256 : Int64)), (.ref b38)])) rfl (by rw [hml]; rfl) (Steps.refl _) (argsL := [(.long (256 : Int64)), (.int sA), (.int eA), (.ref iv_)]) (rest := []) (lenOf pd_13 rfl) rfl (Nat.le_of_eq rfl) (hb hby at_265) (fun _ _ => ⟨rfl, p61_0, (by decide : 13 + 0 ≤ _), (by decide : 1046 + 0 ≤ _)⟩)
              dsimp only [Pt.U, Pt.locs, Pt.cells, Pt.slots] at X64 l64 y64 z64 st64 hQ64
              subst l64 y64 z64
              obtain ⟨rfl, N64q, p64_0, p64_1, p64_2, p64_3, p64_4, p64_5, p64_6, p64_7, p64_8⟩ := hQ64
              have N64 := Fr.app N61 N64q
              have f64_S_Integer_IntegerCache_high := own_sta_keep f41_S_Integer_IntegerCache_high p64_0 (nsS p41_13.nostat (nsS p41_16.nostat (nsS p41_17.nostat (nsS p41_9.nostat (nsS p41_12.nostat ns0)))))
              have f64_S_Integer_IntegerCache_cache := own_sta_keep f41_S_Integer_IntegerCache_cache p64_0 (nsS p41_13.nostat (nsS p41_16.nostat (nsS p41_17.nostat (nsS p41_9.nostat (nsS p41_12.nostat ns0)))))
              have f64_A_ca := f41_A_ca.keep p64_0 (ninS ne_ca_saR_41 (ninS ne_ca_enR_41 (ninS ne_ca_itR_41 (ninS ne_ca_kkR_41 (ninS ne_ca_fiR_41 nin0)))))
              have f64_E_iv_ := f41_E_iv_.keep p64_0
              have f64_E_b38 := f41_E_b38.keep p64_0
              have f64_F_read_b38 := p41_1.keep p64_0 (ninS ne_b38_saR_41 (ninS ne_b38_enR_41 (ninS ne_b38_itR_41 (ninS ne_b38_kkR_41 (ninS ne_b38_fiR_41 nin0)))))
              have f64_F_unread_b38 := p41_2.keep p64_0 (ninS ne_b38_saR_41 (ninS ne_b38_enR_41 (ninS ne_b38_itR_41 (ninS ne_b38_kkR_41 (ninS ne_b38_fiR_41 nin0)))))
              have f64_E_oR_41 := p41_3.keep p64_0
              have f64_F_chunks_oR_41 := p41_4.keep p64_0 (ninS (Exa.neArv p41_3 p41_13 (hU 13 _ rfl)) (ninS (Exa.neArv p41_3 p41_16 (hU 13 _ rfl)) (ninS (Exa.neArv p41_3 p41_17 (hU 13 _ rfl)) (ninS (Exa.ne p41_3 p41_9 (by decide)) (ninS (Exa.neArv p41_3 p41_12 (hU 13 _ rfl)) nin0)))))
              have f64_F_chunkCount_oR_41 := p41_5.keep p64_0 (ninS (Exa.neArv p41_3 p41_13 (hU 13 _ rfl)) (ninS (Exa.neArv p41_3 p41_16 (hU 13 _ rfl)) (ninS (Exa.neArv p41_3 p41_17 (hU 13 _ rfl)) (ninS (Exa.ne p41_3 p41_9 (by decide)) (ninS (Exa.neArv p41_3 p41_12 (hU 13 _ rfl)) nin0)))))
              have f64_F_firsts_oR_41 := p41_6.keep p64_0 (ninS (Exa.neArv p41_3 p41_13 (hU 13 _ rfl)) (ninS (Exa.neArv p41_3 p41_16 (hU 13 _ rfl)) (ninS (Exa.neArv p41_3 p41_17 (hU 13 _ rfl)) (ninS (Exa.ne p41_3 p41_9 (by decide)) (ninS (Exa.neArv p41_3 p41_12 (hU 13 _ rfl)) nin0)))))
              have f64_F_withItems_oR_41 := p41_7.keep p64_0 (ninS (Exa.neArv p41_3 p41_13 (hU 13 _ rfl)) (ninS (Exa.neArv p41_3 p41_16 (hU 13 _ rfl)) (ninS (Exa.neArv p41_3 p41_17 (hU 13 _ rfl)) (ninS (Exa.ne p41_3 p41_9 (by decide)) (ninS (Exa.neArv p41_3 p41_12 (hU 13 _ rfl)) nin0)))))
              have f64_A_ckR_41 := p41_8.keep p64_0 (ninS p41_38 (ninS p41_39 (ninS p41_40 (ninS (Ne.symm (Exa.neArv p41_9 p41_8 (hU 28 _ rfl))) (ninS (Ne.symm p41_34) nin0)))))
              have f64_E_kkR_41 := p41_9.keep p64_0
              have f64_E_oU_41 := p41_18.keep p64_0
              have f64_F_chunks_oU_41 := p41_19.keep p64_0 (ninS (Exa.neArv p41_18 p41_13 (hU 13 _ rfl)) (ninS (Exa.neArv p41_18 p41_16 (hU 13 _ rfl)) (ninS (Exa.neArv p41_18 p41_17 (hU 13 _ rfl)) (ninS (Exa.ne p41_18 p41_9 (by decide)) (ninS (Exa.neArv p41_18 p41_12 (hU 13 _ rfl)) nin0)))))
              have f64_A_ckU_41 := p41_20.keep p64_0 (ninS p41_44 (ninS p41_45 (ninS p41_46 (ninS (Ne.symm (Exa.neArv p41_9 p41_20 (hU 28 _ rfl))) (ninS p41_47 nin0)))))
              have f64_E_kkU_41 := p41_21.keep p64_0
              have f64_F_size_kkU_41 := p41_22.keep p64_0 (ninS (Exa.neArv p41_21 p41_13 (hU 28 _ rfl)) (ninS (Exa.neArv p41_21 p41_16 (hU 28 _ rfl)) (ninS (Exa.neArv p41_21 p41_17 (hU 28 _ rfl)) (ninS p41_48 (ninS (Exa.neArv p41_21 p41_12 (hU 28 _ rfl)) nin0)))))
              have z64 : n0 ≤ T64.heap.size := Nat.le_trans z41 p64_0.1
              have K64 : Keep h0 T64.heap [] := K41.trans p64_0 (allS (Or.inr sz_saR_41) (allS (Or.inr sz_enR_41) (allS (Or.inr sz_itR_41) (allS (Or.inr sz_kkR_41) (allS (Or.inr sz_fiR_41) all0)))))
              have R65 := fun t k => R63 t (st64.trans k)
              have R66 : ∀ t, own_S p e below T64 (mkF m 294 #[iv p0, iv p1, iv p2, iv p3, iv p4, iv p5, own_l (p0.toInt64), .second, own_l eL1, .second, own_l sL2, .second, own_l eL2, .second, own_l qL, .second, iv sA, iv eA, iv sB, iv eB, iv qq, iv (1 : Int32), iv (1 : Int32), iv (0 : Int32), rv b38, rv iv_, iv (-1 : Int32)] []) t → own_S p e below s₁ f0 t := fun t k => R65 t (by
                refine XS.iload X64.here hx rfl (hb hby at_268) rfl  ?_
                refine XS.ifYes X64.here hx rfl (pc0 := 270) (pc' := 291) rfl (hb hby at_270) rfl ((if0 _ _).trans (teq (by decide : (0 : Int32) = (0 : Int32))).1) (by decide) (by decide) ?_
                refine XS.iconst X64.here hx rfl (hb hby at_291) ?_
                refine XS.istore X64.here hx rfl (hb hby at_292) rfl (l' := #[iv p0, iv p1, iv p2, iv p3, iv p4, iv p5, own_l (p0.toInt64), .second, own_l eL1, .second, own_l sL2, .second, own_l eL2, .second, own_l qL, .second, iv sA, iv eA, iv sB, iv eB, iv qq, iv (1 : Int32), iv (1 : Int32), iv (0 : Int32), rv b38, rv iv_, iv (-1 : Int32)]) rfl ?_
                exact k)
              rcases own_tri1 (fun e => hA ⟨by rw [hm]; decide, e⟩) with ht | ht
              · skip
                have R67 : ∀ t, own_S p e below T64 (mkF m 349 #[iv p0, iv p1, iv p2, iv p3, iv p4, iv p5, own_l (p0.toInt64), .second, own_l eL1, .second, own_l sL2, .second, own_l eL2, .second, own_l qL, .second, iv sA, iv eA, iv sB, iv eB, iv qq, iv (1 : Int32), iv (1 : Int32), iv (0 : Int32), rv b38, rv iv_, iv (-1 : Int32)] [(.int qq), (.ref b38), (.ref b38)]) t → own_S p e below s₁ f0 t := fun t k => R66 t (by
                  refine XS.iload X64.here hx rfl (hb hby at_294) rfl  ?_
                  refine XS.ifNo X64.here hx rfl (hb hby at_296) rfl ((if0 _ _).trans (feq (by decide : ¬ ((1 : Int32) = (0 : Int32)))).1) ?_
                  refine XS.iload X64.here hx rfl (hb hby at_299) rfl  ?_
                  refine XS.iload X64.here hx rfl (hb hby at_301) rfl  ?_
                  refine XS.icmpYes X64.here hx rfl (pc0 := 303) (pc' := 320) rfl (hb hby at_303) rfl (flt (own_asym ht)).2.1 (by decide) (by decide) ?_
                  refine XS.iload X64.here hx rfl (hb hby at_320) rfl  ?_
                  show own_S p e below T64 (mkF m 322 #[iv p0, iv p1, iv p2, iv p3, iv p4, iv p5, own_l (p0.toInt64), .second, own_l eL1, .second, own_l sL2, .second, own_l eL2, .second, own_l qL, .second, iv sA, iv eA, iv sB, iv eB, iv qq, iv (1 : Int32), iv (1 : Int32), iv (0 : Int32), rv b38, rv iv_, iv (-1 : Int32)] [(.int (0 : Int32))]) _
                  refine XS.ifYes X64.here hx rfl (pc0 := 322) (pc' := 343) rfl (hb hby at_322) rfl ((if0 _ _).trans (teq (by decide : (0 : Int32) = (0 : Int32))).1) (by decide) (by decide) ?_
                  refine XS.aload X64.here hx rfl (hb hby at_343) rfl rfl ?_
                  refine XS.aload X64.here hx rfl (hb hby at_345) rfl rfl ?_
                  refine XS.iload X64.here hx rfl (hb hby at_347) rfl  ?_
                  exact k)
                obtain ⟨cq68, kq68, q68a, q68b, q68c⟩ := isOf hZ rfl f64_E_b38
                obtain ⟨_, _, ⟨T68, L68, k68, n68⟩, -, X68, ⟨Lc68, hQ68, l68, y68, z68⟩, st68⟩ := X64.virtualBack hx (y := (⟨sN2, "find", "(I)J"⟩ : MethodName)) (z := (⟨sN2, "find", "(I)J"⟩ : MethodName)) hown (mvT hZ (hU 56 _ rfl)) (mvT hZ (hU 57 _ rfl)) (notFace_of_selects (args := #[]) (mvT hZ (hU 59 _ rfl))) (mvT hZ (hU 59 _ rfl)) (mvT hZ (hU 58 _ rfl)) (by decide) (backOf (W := 1) (rmFf1_0 l Z a0 hw [] b38 qq oR_41 ckR_41 kckR_41 kkR_41 sA saR_41 kstR_41 fiR_41 kfiR_41 oU_41 ckU_41 kckU_41 kkU_41 T64.heap n0 z64 f64_F_read_b38 f64_F_unread_b38 f64_E_oR_41 f64_F_chunks_oR_41 f64_F_chunkCount_oR_41 f64_A_ckR_41 p64_1 p64_2 p64_4 f64_F_firsts_oR_41 p64_3 f64_E_oU_41 f64_F_chunks_oU_41 f64_A_ckU_41 f64_E_kkU_41 f64_F_size_kkU_41 ht) hZ (hU 60 _ rfl) (hU 5 _ rfl) (by decide) (by decide)) q68a q68c (g := (mkF m 349 #[iv p0, iv p1, iv p2, iv p3, iv p4, iv p5, own_l (p0.toInt64), .second, own_l eL1, .second, own_l sL2, .second, own_l eL2, .second, own_l qL, .second, iv sA, iv eA, iv sB, iv eB, iv qq, iv (1 : Int32), iv (1 : Int32), iv (0 : Int32), rv b38, rv iv_, iv (-1 : Int32)] [(.int qq), (.ref b38), (.ref b38)])) rfl (by rw [hml]; rfl) (Steps.refl _) (argsL := [(.int qq)]) (rest := [(.ref b38)]) (lenOf pd_5 rfl) rfl (Nat.le_of_eq rfl) (hb hby at_349) (fun _ _ => ⟨rfl, rfl, (by decide : 13 + 0 ≤ _), (by decide : 1046 + 0 ≤ _)⟩)
                dsimp only [Pt.U, Pt.locs, Pt.cells, Pt.slots] at X68 l68 y68 z68 st68 hQ68
                subst l68 y68 z68
                obtain ⟨rfl, N68q, p68_0⟩ := hQ68
                have N68 := Fr.app N64 N68q
                have R69 := fun t k => R67 t (st68.trans k)
                have R70 : ∀ t, own_S p e below T68 (mkF m 354 #[iv p0, iv p1, iv p2, iv p3, iv p4, iv p5, own_l (p0.toInt64), .second, own_l eL1, .second, own_l sL2, .second, own_l eL2, .second, own_l qL, .second, iv sA, iv eA, iv sB, iv eB, iv qq, iv (1 : Int32), iv (1 : Int32), iv (0 : Int32), rv b38, rv iv_, iv (-1 : Int32)] [(.int qq), (.long (256 : Int64)), (.ref b38)]) t → own_S p e below s₁ f0 t := fun t k => R69 t (by
                  refine XS.iload X68.here hx rfl (hb hby at_352) rfl  ?_
                  exact k)
                obtain ⟨cq71, kq71, q71a, q71b, q71c⟩ := isOf hZ p68_0 f64_E_b38
                obtain ⟨_, _, ⟨T71, L71, k71, n71⟩, -, X71, ⟨Lc71, hQ71, l71, y71, z71⟩, st71⟩ := X68.virtualBack hx (y := (⟨sN2, "containing", "(JI)I"⟩ : MethodName)) (z := (⟨sN2, "containing", "(JI)I"⟩ : MethodName)) hown (mvT hZ (hU 119 _ rfl)) (mvT hZ (hU 120 _ rfl)) (notFace_of_selects (args := #[]) (mvT hZ (hU 122 _ rfl))) (mvT hZ (hU 122 _ rfl)) (mvT hZ (hU 121 _ rfl)) (by decide) (backOf (W := 0) (rmCt1_0 l Z a0 hw [] b38 qq oR_41 T64.heap n0 z64 f64_F_read_b38) hZ (hU 123 _ rfl) (hU 5 _ rfl) (by decide) (by decide)) q71a q71c (g := (mkF m 354 #[iv p0, iv p1, iv p2, iv p3, iv p4, iv p5, own_l (p0.toInt64), .second, own_l eL1, .second, own_l sL2, .second, own_l eL2, .second, own_l qL, .second, iv sA, iv eA, iv sB, iv eB, iv qq, iv (1 : Int32), iv (1 : Int32), iv (0 : Int32), rv b38, rv iv_, iv (-1 : Int32)] [(.int qq), (.long (256 : Int64)), (.ref b38)])) rfl (by rw [hml]; rfl) (Steps.refl _) (argsL := [(.long (256 : Int64)), (.int qq)]) (rest := []) (lenOf pd_17 rfl) rfl (Nat.le_of_eq rfl) (hb hby at_354) (fun _ _ => ⟨rfl, p68_0, (by decide : 13 + 0 ≤ _), (by decide : 1046 + 0 ≤ _)⟩)
                dsimp only [Pt.U, Pt.locs, Pt.cells, Pt.slots] at X71 l71 y71 z71 st71 hQ71
                subst l71 y71 z71
                obtain ⟨rfl, N71q, p71_0⟩ := hQ71
                have N71 := Fr.app N68 N71q
                have R72 := fun t k => R70 t (st71.trans k)
                have R73 : ∀ t, own_S p e below T71 (mkF m 367 #[iv p0, iv p1, iv p2, iv p3, iv p4, iv p5, own_l (p0.toInt64), .second, own_l eL1, .second, own_l sL2, .second, own_l eL2, .second, own_l qL, .second, iv sA, iv eA, iv sB, iv eB, iv qq, iv (1 : Int32), iv (1 : Int32), iv (0 : Int32), rv b38, rv iv_, iv (-1 : Int32)] [(.int (1 : Int32))]) t → own_S p e below s₁ f0 t := fun t k => R72 t (by
                  refine XS.iload X71.here hx rfl (hb hby at_357) rfl  ?_
                  refine XS.icmpNo X71.here hx rfl (hb hby at_359) rfl (teq (by decide : (-1 : Int32) = (-1 : Int32))).2 ?_
                  refine XS.iconst X71.here hx rfl (hb hby at_362) ?_
                  refine XS.goto X71.here hx rfl (pc0 := 363) (pc' := 367) rfl (hb hby at_363) (by decide) (by decide) ?_
                  exact k)
                obtain ⟨fs, hr, hrun, hended, hW, hsame⟩ := X71.leave (v := some (.int (1 : Int32))) (fun h => by rw [Bd.returns] at h; cases h)
                refine ⟨_, _, pre0 _ (R73 _ ?_), hrun, hended, _, _, rfl, ?_, ⟨_, rfl⟩, hW, hsame.mono (by decide) (by decide)⟩
                · show own_S p e below T71 (mkF m 367 #[iv p0, iv p1, iv p2, iv p3, iv p4, iv p5, own_l (p0.toInt64), .second, own_l eL1, .second, own_l sL2, .second, own_l eL2, .second, own_l qL, .second, iv sA, iv eA, iv sB, iv eB, iv qq, iv (1 : Int32), iv (1 : Int32), iv (0 : Int32), rv b38, rv iv_, iv (-1 : Int32)] [(.int (1 : Int32))]) _
                  exact retN X71 hx (t := .boolean) Bd.returns (by simp) (hb hby at_367) hr
                · show Q_rmLaw Z p0 p1 p2 p3 p4 p5 ca kca vsc iv_ h0 n0 _ T71.heap _
                  rw [p71_0]
                  exact ⟨rfl, N71⟩
              · skip
                have R74 : ∀ t, own_S p e below T64 (mkF m 310 #[iv p0, iv p1, iv p2, iv p3, iv p4, iv p5, own_l (p0.toInt64), .second, own_l eL1, .second, own_l sL2, .second, own_l eL2, .second, own_l qL, .second, iv sA, iv eA, iv sB, iv eB, iv qq, iv (1 : Int32), iv (1 : Int32), iv (0 : Int32), rv b38, rv iv_, iv (-1 : Int32)] [(.int eA), (.int qq)]) t → own_S p e below s₁ f0 t := fun t k => R66 t (by
                  refine XS.iload X64.here hx rfl (hb hby at_294) rfl  ?_
                  refine XS.ifNo X64.here hx rfl (hb hby at_296) rfl ((if0 _ _).trans (feq (by decide : ¬ ((1 : Int32) = (0 : Int32)))).1) ?_
                  refine XS.iload X64.here hx rfl (hb hby at_299) rfl  ?_
                  refine XS.iload X64.here hx rfl (hb hby at_301) rfl  ?_
                  refine XS.icmpNo X64.here hx rfl (hb hby at_303) rfl (tlt ht).2.1 ?_
                  refine XS.iload X64.here hx rfl (hb hby at_306) rfl  ?_
                  show own_S p e below T64 (mkF m 308 #[iv p0, iv p1, iv p2, iv p3, iv p4, iv p5, own_l (p0.toInt64), .second, own_l eL1, .second, own_l sL2, .second, own_l eL2, .second, own_l qL, .second, iv sA, iv eA, iv sB, iv eB, iv qq, iv (1 : Int32), iv (1 : Int32), iv (0 : Int32), rv b38, rv iv_, iv (-1 : Int32)] [(.int qq)]) _
                  refine XS.iload X64.here hx rfl (hb hby at_308) rfl  ?_
                  exact k)
                by_cases hb310 : qq < eA
                · skip
                  have R75 : ∀ t, own_S p e below T64 (mkF m 349 #[iv p0, iv p1, iv p2, iv p3, iv p4, iv p5, own_l (p0.toInt64), .second, own_l eL1, .second, own_l sL2, .second, own_l eL2, .second, own_l qL, .second, iv sA, iv eA, iv sB, iv eB, iv qq, iv (1 : Int32), iv (1 : Int32), iv (0 : Int32), rv b38, rv iv_, iv sA] [(.int qq), (.ref b38), (.ref b38)]) t → own_S p e below s₁ f0 t := fun t k => R74 t (by
                    refine XS.icmpNo X64.here hx rfl (hb hby at_310) rfl (tlt hb310).2.1 ?_
                    refine XS.iload X64.here hx rfl (hb hby at_313) rfl  ?_
                    refine XS.istore X64.here hx rfl (hb hby at_315) rfl (l' := #[iv p0, iv p1, iv p2, iv p3, iv p4, iv p5, own_l (p0.toInt64), .second, own_l eL1, .second, own_l sL2, .second, own_l eL2, .second, own_l qL, .second, iv sA, iv eA, iv sB, iv eB, iv qq, iv (1 : Int32), iv (1 : Int32), iv (0 : Int32), rv b38, rv iv_, iv sA]) rfl ?_
                    refine XS.goto X64.here hx rfl (pc0 := 317) (pc' := 343) rfl (hb hby at_317) (by decide) (by decide) ?_
                    refine XS.aload X64.here hx rfl (hb hby at_343) rfl rfl ?_
                    refine XS.aload X64.here hx rfl (hb hby at_345) rfl rfl ?_
                    show own_S p e below T64 (mkF m 347 #[iv p0, iv p1, iv p2, iv p3, iv p4, iv p5, own_l (p0.toInt64), .second, own_l eL1, .second, own_l sL2, .second, own_l eL2, .second, own_l qL, .second, iv sA, iv eA, iv sB, iv eB, iv qq, iv (1 : Int32), iv (1 : Int32), iv (0 : Int32), rv b38, rv iv_, iv sA] [(.ref b38), (.ref b38)]) _
                    refine XS.iload X64.here hx rfl (hb hby at_347) rfl  ?_
                    exact k)
                  obtain ⟨cq76, kq76, q76a, q76b, q76c⟩ := isOf hZ rfl f64_E_b38
                  obtain ⟨_, _, ⟨T76, L76, k76, n76⟩, -, X76, ⟨Lc76, hQ76, l76, y76, z76⟩, st76⟩ := X64.virtualBack hx (y := (⟨sN2, "find", "(I)J"⟩ : MethodName)) (z := (⟨sN2, "find", "(I)J"⟩ : MethodName)) hown (mvT hZ (hU 56 _ rfl)) (mvT hZ (hU 57 _ rfl)) (notFace_of_selects (args := #[]) (mvT hZ (hU 59 _ rfl))) (mvT hZ (hU 59 _ rfl)) (mvT hZ (hU 58 _ rfl)) (by decide) (backOf (W := 1) (rmFf1_1 l Z a0 hw [] b38 qq oR_41 ckR_41 kckR_41 kkR_41 sA saR_41 kstR_41 fiR_41 kfiR_41 oU_41 ckU_41 kckU_41 kkU_41 T64.heap n0 z64 f64_F_read_b38 f64_F_unread_b38 f64_E_oR_41 f64_F_chunks_oR_41 f64_F_chunkCount_oR_41 f64_A_ckR_41 p64_1 p64_2 p64_4 f64_F_firsts_oR_41 p64_3 f64_E_oU_41 f64_F_chunks_oU_41 f64_A_ckU_41 f64_E_kkU_41 f64_F_size_kkU_41 ht) hZ (hU 60 _ rfl) (hU 5 _ rfl) (by decide) (by decide)) q76a q76c (g := (mkF m 349 #[iv p0, iv p1, iv p2, iv p3, iv p4, iv p5, own_l (p0.toInt64), .second, own_l eL1, .second, own_l sL2, .second, own_l eL2, .second, own_l qL, .second, iv sA, iv eA, iv sB, iv eB, iv qq, iv (1 : Int32), iv (1 : Int32), iv (0 : Int32), rv b38, rv iv_, iv sA] [(.int qq), (.ref b38), (.ref b38)])) rfl (by rw [hml]; rfl) (Steps.refl _) (argsL := [(.int qq)]) (rest := [(.ref b38)]) (lenOf pd_5 rfl) rfl (Nat.le_of_eq rfl) (hb hby at_349) (fun _ _ => ⟨rfl, rfl, (by decide : 13 + 0 ≤ _), (by decide : 1046 + 0 ≤ _)⟩)
                  dsimp only [Pt.U, Pt.locs, Pt.cells, Pt.slots] at X76 l76 y76 z76 st76 hQ76
                  subst l76 y76 z76
                  obtain ⟨rfl, N76q, p76_0⟩ := hQ76
                  have N76 := Fr.app N64 N76q
                  have R77 := fun t k => R75 t (st76.trans k)
                  have R78 : ∀ t, own_S p e below T76 (mkF m 354 #[iv p0, iv p1, iv p2, iv p3, iv p4, iv p5, own_l (p0.toInt64), .second, own_l eL1, .second, own_l sL2, .second, own_l eL2, .second, own_l qL, .second, iv sA, iv eA, iv sB, iv eB, iv qq, iv (1 : Int32), iv (1 : Int32), iv (0 : Int32), rv b38, rv iv_, iv sA] [(.int qq), (.long (257 : Int64)), (.ref b38)]) t → own_S p e below s₁ f0 t := fun t k => R77 t (by
                    refine XS.iload X76.here hx rfl (hb hby at_352) rfl  ?_
                    exact k)
                  obtain ⟨cq79, kq79, q79a, q79b, q79c⟩ := isOf hZ p76_0 f64_E_b38
                  obtain ⟨_, _, ⟨T79, L79, k79, n79⟩, -, X79, ⟨Lc79, hQ79, l79, y79, z79⟩, st79⟩ := X76.virtualBack hx (y := (⟨sN2, "containing", "(JI)I"⟩ : MethodName)) (z := (⟨sN2, "containing", "(JI)I"⟩ : MethodName)) hown (mvT hZ (hU 119 _ rfl)) (mvT hZ (hU 120 _ rfl)) (notFace_of_selects (args := #[]) (mvT hZ (hU 122 _ rfl))) (mvT hZ (hU 122 _ rfl)) (mvT hZ (hU 121 _ rfl)) (by decide) (backOf (W := 0) (rmCt1_1 l Z a0 hw [] b38 qq oR_41 ckR_41 kckR_41 kkR_41 saR_41 kstR_41 enR_41 kenR_41 sA eA T64.heap n0 z64 f64_F_read_b38 f64_F_chunks_oR_41 f64_A_ckR_41 p64_2 p64_5 p64_4 p64_7) hZ (hU 123 _ rfl) (hU 5 _ rfl) (by decide) (by decide)) q79a q79c (g := (mkF m 354 #[iv p0, iv p1, iv p2, iv p3, iv p4, iv p5, own_l (p0.toInt64), .second, own_l eL1, .second, own_l sL2, .second, own_l eL2, .second, own_l qL, .second, iv sA, iv eA, iv sB, iv eB, iv qq, iv (1 : Int32), iv (1 : Int32), iv (0 : Int32), rv b38, rv iv_, iv sA] [(.int qq), (.long (257 : Int64)), (.ref b38)])) rfl (by rw [hml]; rfl) (Steps.refl _) (argsL := [(.long (257 : Int64)), (.int qq)]) (rest := []) (lenOf pd_17 rfl) rfl (Nat.le_of_eq rfl) (hb hby at_354) (fun _ _ => ⟨rfl, p76_0, (by decide : 13 + 0 ≤ _), (by decide : 1046 + 0 ≤ _)⟩)
                  dsimp only [Pt.U, Pt.locs, Pt.cells, Pt.slots] at X79 l79 y79 z79 st79 hQ79
                  subst l79 y79 z79
                  obtain ⟨rfl, N79q, p79_0⟩ := hQ79
                  have N79 := Fr.app N76 N79q
                  have R80 := fun t k => R78 t (st79.trans k)
                  have R81 : ∀ t, own_S p e below T79 (mkF m 367 #[iv p0, iv p1, iv p2, iv p3, iv p4, iv p5, own_l (p0.toInt64), .second, own_l eL1, .second, own_l sL2, .second, own_l eL2, .second, own_l qL, .second, iv sA, iv eA, iv sB, iv eB, iv qq, iv (1 : Int32), iv (1 : Int32), iv (0 : Int32), rv b38, rv iv_, iv sA] [(.int (1 : Int32))]) t → own_S p e below s₁ f0 t := fun t k => R80 t (by
                    refine XS.iload X79.here hx rfl (hb hby at_357) rfl  ?_
                    refine XS.icmpNo X79.here hx rfl (hb hby at_359) rfl (teq (by simp [own_ct, hb310] : (own_ct qq eA sA) = sA)).2 ?_
                    refine XS.iconst X79.here hx rfl (hb hby at_362) ?_
                    refine XS.goto X79.here hx rfl (pc0 := 363) (pc' := 367) rfl (hb hby at_363) (by decide) (by decide) ?_
                    exact k)
                  obtain ⟨fs, hr, hrun, hended, hW, hsame⟩ := X79.leave (v := some (.int (1 : Int32))) (fun h => by rw [Bd.returns] at h; cases h)
                  refine ⟨_, _, pre0 _ (R81 _ ?_), hrun, hended, _, _, rfl, ?_, ⟨_, rfl⟩, hW, hsame.mono (by decide) (by decide)⟩
                  · show own_S p e below T79 (mkF m 367 #[iv p0, iv p1, iv p2, iv p3, iv p4, iv p5, own_l (p0.toInt64), .second, own_l eL1, .second, own_l sL2, .second, own_l eL2, .second, own_l qL, .second, iv sA, iv eA, iv sB, iv eB, iv qq, iv (1 : Int32), iv (1 : Int32), iv (0 : Int32), rv b38, rv iv_, iv sA] [(.int (1 : Int32))]) _
                    exact retN X79 hx (t := .boolean) Bd.returns (by simp) (hb hby at_367) hr
                  · show Q_rmLaw Z p0 p1 p2 p3 p4 p5 ca kca vsc iv_ h0 n0 _ T79.heap _
                    rw [p79_0]
                    exact ⟨rfl, N79⟩
                · skip
                  have R82 : ∀ t, own_S p e below T64 (mkF m 349 #[iv p0, iv p1, iv p2, iv p3, iv p4, iv p5, own_l (p0.toInt64), .second, own_l eL1, .second, own_l sL2, .second, own_l eL2, .second, own_l qL, .second, iv sA, iv eA, iv sB, iv eB, iv qq, iv (1 : Int32), iv (1 : Int32), iv (0 : Int32), rv b38, rv iv_, iv (-1 : Int32)] [(.int qq), (.ref b38), (.ref b38)]) t → own_S p e below s₁ f0 t := fun t k => R74 t (by
                    refine XS.icmpYes X64.here hx rfl (pc0 := 310) (pc' := 320) rfl (hb hby at_310) rfl (flt hb310).2.1 (by decide) (by decide) ?_
                    refine XS.iload X64.here hx rfl (hb hby at_320) rfl  ?_
                    refine XS.ifYes X64.here hx rfl (pc0 := 322) (pc' := 343) rfl (hb hby at_322) rfl ((if0 _ _).trans (teq (by decide : (0 : Int32) = (0 : Int32))).1) (by decide) (by decide) ?_
                    refine XS.aload X64.here hx rfl (hb hby at_343) rfl rfl ?_
                    refine XS.aload X64.here hx rfl (hb hby at_345) rfl rfl ?_
                    refine XS.iload X64.here hx rfl (hb hby at_347) rfl  ?_
                    exact k)
                  obtain ⟨cq83, kq83, q83a, q83b, q83c⟩ := isOf hZ rfl f64_E_b38
                  obtain ⟨_, _, ⟨T83, L83, k83, n83⟩, -, X83, ⟨Lc83, hQ83, l83, y83, z83⟩, st83⟩ := X64.virtualBack hx (y := (⟨sN2, "find", "(I)J"⟩ : MethodName)) (z := (⟨sN2, "find", "(I)J"⟩ : MethodName)) hown (mvT hZ (hU 56 _ rfl)) (mvT hZ (hU 57 _ rfl)) (notFace_of_selects (args := #[]) (mvT hZ (hU 59 _ rfl))) (mvT hZ (hU 59 _ rfl)) (mvT hZ (hU 58 _ rfl)) (by decide) (backOf (W := 1) (rmFf1_1 l Z a0 hw [] b38 qq oR_41 ckR_41 kckR_41 kkR_41 sA saR_41 kstR_41 fiR_41 kfiR_41 oU_41 ckU_41 kckU_41 kkU_41 T64.heap n0 z64 f64_F_read_b38 f64_F_unread_b38 f64_E_oR_41 f64_F_chunks_oR_41 f64_F_chunkCount_oR_41 f64_A_ckR_41 p64_1 p64_2 p64_4 f64_F_firsts_oR_41 p64_3 f64_E_oU_41 f64_F_chunks_oU_41 f64_A_ckU_41 f64_E_kkU_41 f64_F_size_kkU_41 ht) hZ (hU 60 _ rfl) (hU 5 _ rfl) (by decide) (by decide)) q83a q83c (g := (mkF m 349 #[iv p0, iv p1, iv p2, iv p3, iv p4, iv p5, own_l (p0.toInt64), .second, own_l eL1, .second, own_l sL2, .second, own_l eL2, .second, own_l qL, .second, iv sA, iv eA, iv sB, iv eB, iv qq, iv (1 : Int32), iv (1 : Int32), iv (0 : Int32), rv b38, rv iv_, iv (-1 : Int32)] [(.int qq), (.ref b38), (.ref b38)])) rfl (by rw [hml]; rfl) (Steps.refl _) (argsL := [(.int qq)]) (rest := [(.ref b38)]) (lenOf pd_5 rfl) rfl (Nat.le_of_eq rfl) (hb hby at_349) (fun _ _ => ⟨rfl, rfl, (by decide : 13 + 0 ≤ _), (by decide : 1046 + 0 ≤ _)⟩)
                  dsimp only [Pt.U, Pt.locs, Pt.cells, Pt.slots] at X83 l83 y83 z83 st83 hQ83
                  subst l83 y83 z83
                  obtain ⟨rfl, N83q, p83_0⟩ := hQ83
                  have N83 := Fr.app N64 N83q
                  have R84 := fun t k => R82 t (st83.trans k)
                  have R85 : ∀ t, own_S p e below T83 (mkF m 354 #[iv p0, iv p1, iv p2, iv p3, iv p4, iv p5, own_l (p0.toInt64), .second, own_l eL1, .second, own_l sL2, .second, own_l eL2, .second, own_l qL, .second, iv sA, iv eA, iv sB, iv eB, iv qq, iv (1 : Int32), iv (1 : Int32), iv (0 : Int32), rv b38, rv iv_, iv (-1 : Int32)] [(.int qq), (.long (257 : Int64)), (.ref b38)]) t → own_S p e below s₁ f0 t := fun t k => R84 t (by
                    refine XS.iload X83.here hx rfl (hb hby at_352) rfl  ?_
                    exact k)
                  obtain ⟨cq86, kq86, q86a, q86b, q86c⟩ := isOf hZ p83_0 f64_E_b38
                  obtain ⟨_, _, ⟨T86, L86, k86, n86⟩, -, X86, ⟨Lc86, hQ86, l86, y86, z86⟩, st86⟩ := X83.virtualBack hx (y := (⟨sN2, "containing", "(JI)I"⟩ : MethodName)) (z := (⟨sN2, "containing", "(JI)I"⟩ : MethodName)) hown (mvT hZ (hU 119 _ rfl)) (mvT hZ (hU 120 _ rfl)) (notFace_of_selects (args := #[]) (mvT hZ (hU 122 _ rfl))) (mvT hZ (hU 122 _ rfl)) (mvT hZ (hU 121 _ rfl)) (by decide) (backOf (W := 0) (rmCt1_1 l Z a0 hw [] b38 qq oR_41 ckR_41 kckR_41 kkR_41 saR_41 kstR_41 enR_41 kenR_41 sA eA T64.heap n0 z64 f64_F_read_b38 f64_F_chunks_oR_41 f64_A_ckR_41 p64_2 p64_5 p64_4 p64_7) hZ (hU 123 _ rfl) (hU 5 _ rfl) (by decide) (by decide)) q86a q86c (g := (mkF m 354 #[iv p0, iv p1, iv p2, iv p3, iv p4, iv p5, own_l (p0.toInt64), .second, own_l eL1, .second, own_l sL2, .second, own_l eL2, .second, own_l qL, .second, iv sA, iv eA, iv sB, iv eB, iv qq, iv (1 : Int32), iv (1 : Int32), iv (0 : Int32), rv b38, rv iv_, iv (-1 : Int32)] [(.int qq), (.long (257 : Int64)), (.ref b38)])) rfl (by rw [hml]; rfl) (Steps.refl _) (argsL := [(.long (257 : Int64)), (.int qq)]) (rest := []) (lenOf pd_17 rfl) rfl (Nat.le_of_eq rfl) (hb hby at_354) (fun _ _ => ⟨rfl, p83_0, (by decide : 13 + 0 ≤ _), (by decide : 1046 + 0 ≤ _)⟩)
                  dsimp only [Pt.U, Pt.locs, Pt.cells, Pt.slots] at X86 l86 y86 z86 st86 hQ86
                  subst l86 y86 z86
                  obtain ⟨rfl, N86q, p86_0⟩ := hQ86
                  have N86 := Fr.app N83 N86q
                  have R87 := fun t k => R85 t (st86.trans k)
                  have R88 : ∀ t, own_S p e below T86 (mkF m 367 #[iv p0, iv p1, iv p2, iv p3, iv p4, iv p5, own_l (p0.toInt64), .second, own_l eL1, .second, own_l sL2, .second, own_l eL2, .second, own_l qL, .second, iv sA, iv eA, iv sB, iv eB, iv qq, iv (1 : Int32), iv (1 : Int32), iv (0 : Int32), rv b38, rv iv_, iv (-1 : Int32)] [(.int (1 : Int32))]) t → own_S p e below s₁ f0 t := fun t k => R87 t (by
                    refine XS.iload X86.here hx rfl (hb hby at_357) rfl  ?_
                    refine XS.icmpNo X86.here hx rfl (hb hby at_359) rfl (teq (by simp [own_ct, hb310] : (own_ct qq eA sA) = (-1 : Int32))).2 ?_
                    refine XS.iconst X86.here hx rfl (hb hby at_362) ?_
                    refine XS.goto X86.here hx rfl (pc0 := 363) (pc' := 367) rfl (hb hby at_363) (by decide) (by decide) ?_
                    exact k)
                  obtain ⟨fs, hr, hrun, hended, hW, hsame⟩ := X86.leave (v := some (.int (1 : Int32))) (fun h => by rw [Bd.returns] at h; cases h)
                  refine ⟨_, _, pre0 _ (R88 _ ?_), hrun, hended, _, _, rfl, ?_, ⟨_, rfl⟩, hW, hsame.mono (by decide) (by decide)⟩
                  · show own_S p e below T86 (mkF m 367 #[iv p0, iv p1, iv p2, iv p3, iv p4, iv p5, own_l (p0.toInt64), .second, own_l eL1, .second, own_l sL2, .second, own_l eL2, .second, own_l qL, .second, iv sA, iv eA, iv sB, iv eB, iv qq, iv (1 : Int32), iv (1 : Int32), iv (0 : Int32), rv b38, rv iv_, iv (-1 : Int32)] [(.int (1 : Int32))]) _
                    exact retN X86 hx (t := .boolean) Bd.returns (by simp) (hb hby at_367) hr
                  · show Q_rmLaw Z p0 p1 p2 p3 p4 p5 ca kca vsc iv_ h0 n0 _ T86.heap _
                    rw [p86_0]
                    exact ⟨rfl, N86⟩
            · skip
              have R89 : ∀ t, own_S p e below T44 (mkF m 200 #[iv p0, iv p1, iv p2, iv p3, iv p4, iv p5, own_l (p0.toInt64), .second, own_l eL1, .second, own_l sL2, .second, own_l eL2, .second, own_l qL, .second, iv sA, iv eA, iv sB, iv eB, iv qq, iv (2 : Int32), iv (own_b (¬ (2 : Int32) = 0)), iv (own_b (¬ (2 : Int32) < 2)), rv b38, rv iv_, .unset] []) t → own_S p e below s₁ f0 t := by have q := R46; rw [(hm : md = (2 : Int32))] at q; exact q
              have R90 : ∀ t, own_S p e below T44 (mkF m 200 #[iv p0, iv p1, iv p2, iv p3, iv p4, iv p5, own_l (p0.toInt64), .second, own_l eL1, .second, own_l sL2, .second, own_l eL2, .second, own_l qL, .second, iv sA, iv eA, iv sB, iv eB, iv qq, iv (2 : Int32), iv (1 : Int32), iv (own_b (¬ (2 : Int32) < 2)), rv b38, rv iv_, .unset] []) t → own_S p e below s₁ f0 t := by have q := R89; rw [((by decide) : (own_b (¬ (2 : Int32) = 0)) = (1 : Int32))] at q; exact q
              have R91 : ∀ t, own_S p e below T44 (mkF m 200 #[iv p0, iv p1, iv p2, iv p3, iv p4, iv p5, own_l (p0.toInt64), .second, own_l eL1, .second, own_l sL2, .second, own_l eL2, .second, own_l qL, .second, iv sA, iv eA, iv sB, iv eB, iv qq, iv (2 : Int32), iv (1 : Int32), iv (1 : Int32), rv b38, rv iv_, .unset] []) t → own_S p e below s₁ f0 t := by have q := R90; rw [((by decide) : (own_b (¬ (2 : Int32) < 2)) = (1 : Int32))] at q; exact q
              have R92 : ∀ t, own_S p e below T44 (mkF m 256 #[iv p0, iv p1, iv p2, iv p3, iv p4, iv p5, own_l (p0.toInt64), .second, own_l eL1, .second, own_l sL2, .second, own_l eL2, .second, own_l qL, .second, iv sA, iv eA, iv sB, iv eB, iv qq, iv (2 : Int32), iv (1 : Int32), iv (1 : Int32), rv b38, rv iv_, .unset] [(.int sA), (.ref b38), (.ref b38)]) t → own_S p e below s₁ f0 t := fun t k => R91 t (by
                refine XS.iload X44.here hx rfl (hb hby at_200) rfl  ?_
                refine XS.iconst X44.here hx rfl (hb hby at_202) ?_
                refine XS.icmpYes X44.here hx rfl (pc0 := 203) (pc' := 245) rfl (hb hby at_203) rfl (feq (by decide : ¬ ((2 : Int32) = (3 : Int32)))).2 (by decide) (by decide) ?_
                refine XS.iload X44.here hx rfl (hb hby at_245) rfl  ?_
                refine XS.ifNo X44.here hx rfl (hb hby at_247) rfl ((if0 _ _).trans (feq (by decide : ¬ ((1 : Int32) = (0 : Int32)))).1) ?_
                refine XS.aload X44.here hx rfl (hb hby at_250) rfl rfl ?_
                show own_S p e below T44 (mkF m 252 #[iv p0, iv p1, iv p2, iv p3, iv p4, iv p5, own_l (p0.toInt64), .second, own_l eL1, .second, own_l sL2, .second, own_l eL2, .second, own_l qL, .second, iv sA, iv eA, iv sB, iv eB, iv qq, iv (2 : Int32), iv (1 : Int32), iv (1 : Int32), rv b38, rv iv_, .unset] [(.ref b38)]) _
                refine XS.aload X44.here hx rfl (hb hby at_252) rfl rfl ?_
                refine XS.iload X44.here hx rfl (hb hby at_254) rfl  ?_
                exact k)
              obtain ⟨cq93, kq93, q93a, q93b, q93c⟩ := isOf hZ p44_0 f41_E_b38
              obtain ⟨_, _, ⟨T93, L93, k93, n93⟩, -, X93, ⟨Lc93, hQ93, l93, y93, z93⟩, st93⟩ := X44.virtualBack hx (y := (⟨sN2, "find", "(I)J"⟩ : MethodName)) (z := (⟨sN2, "find", "(I)J"⟩ : MethodName)) hown (mvT hZ (hU 56 _ rfl)) (mvT hZ (hU 57 _ rfl)) (notFace_of_selects (args := #[]) (mvT hZ (hU 59 _ rfl))) (mvT hZ (hU 59 _ rfl)) (mvT hZ (hU 58 _ rfl)) (by decide) (backOf (W := 1) (rmFf0_0 l Z a0 hw [] b38 sA oR_41 ckR_41 kckR_41 kkR_41 oU_41 ckU_41 kckU_41 kkU_41 T41.heap n0 z41 p41_1 p41_2 p41_3 p41_4 p41_5 p41_8 p41_10 p41_18 p41_19 p41_20 p41_21 p41_22) hZ (hU 60 _ rfl) (hU 5 _ rfl) (by decide) (by decide)) q93a q93c (g := (mkF m 256 #[iv p0, iv p1, iv p2, iv p3, iv p4, iv p5, own_l (p0.toInt64), .second, own_l eL1, .second, own_l sL2, .second, own_l eL2, .second, own_l qL, .second, iv sA, iv eA, iv sB, iv eB, iv qq, iv (2 : Int32), iv (1 : Int32), iv (1 : Int32), rv b38, rv iv_, .unset] [(.int sA), (.ref b38), (.ref b38)])) rfl (by rw [hml]; rfl) (Steps.refl _) (argsL := [(.int sA)]) (rest := [(.ref b38)]) (lenOf pd_5 rfl) rfl (Nat.le_of_eq rfl) (hb hby at_256) (fun _ _ => ⟨rfl, p44_0, (by decide : 13 + 0 ≤ _), (by decide : 1046 + 0 ≤ _)⟩)
              dsimp only [Pt.U, Pt.locs, Pt.cells, Pt.slots] at X93 l93 y93 z93 st93 hQ93
              subst l93 y93 z93
              obtain ⟨rfl, N93q, p93_0⟩ := hQ93
              have N93 := Fr.app N44 N93q
              have R94 := fun t k => R92 t (st93.trans k)
              have R95 : ∀ t, own_S p e below T93 (mkF m 265 #[iv p0, iv p1, iv p2, iv p3, iv p4, iv p5, own_l (p0.toInt64), .second, own_l eL1, .second, own_l sL2, .second, own_l eL2, .second, own_l qL, .second, iv sA, iv eA, iv sB, iv eB, iv qq, iv (2 : Int32), iv (1 : Int32), iv (1 : Int32), rv b38, rv iv_, .unset] [(.ref iv_), (.int eA), (.int sA), (.long (256 : Int64)), (.ref b38)]) t → own_S p e below s₁ f0 t := fun t k => R94 t (by
                refine XS.iload X93.here hx rfl (hb hby at_259) rfl  ?_
                refine XS.iload X93.here hx rfl (hb hby at_261) rfl  ?_
                refine XS.aload X93.here hx rfl (hb hby at_263) rfl rfl ?_
                exact k)
              obtain ⟨cq96, kq96, q96a, q96b, q96c⟩ := isOf hZ p93_0 f41_E_b38
              obtain ⟨_, _, ⟨T96, L96, k96, n96⟩, -, X96, ⟨Lc96, hQ96, l96, y96, z96⟩, st96⟩ := X93.virtualBack hx (y := (⟨sN2, "add", sN5⟩ : MethodName)) (z := (⟨sN2, "add", sN5⟩ : MethodName)) hown (mvT hZ (hU 73 _ rfl)) (mvT hZ (hU 74 _ rfl)) (notFace_of_selects (args := #[]) (mvT hZ (hU 76 _ rfl))) (mvT hZ (hU 76 _ rfl)) (mvT hZ (hU 75 _ rfl)) (by decide) (backOf (W := 0) (rmFadd0_0 l Z a0 hw [] b38 sA eA iv_ oR_41 ckR_41 kckR_41 kkR_41 fiR_41 kfiR_41 saR_41 kstR_41 enR_41 kenR_41 itR_41 kitR_41 (0 : Int32) oU_41 ckU_41 kckU_41 kkU_41 T41.heap n0 z41 p41_1 p41_2 p41_3 p41_4 p41_5 p41_6 p41_7 p41_8 p41_9 p41_10 p41_11 p41_12 p41_13 p41_14 p41_15 p41_16 p41_17 f41_E_iv_ g_fiR_41 g_ckR_41 g_saR_41 g_enR_41 g_itR_41 g_kkR_41 p41_34 p41_35 p41_36 p41_37 p41_38 p41_39 p41_40 p41_41 p41_42 p41_43 p41_23 p41_18 p41_19 p41_20 p41_21 p41_22 f41_E_b38 p41_44 p41_45 p41_46 p41_47 p41_48) hZ (hU 77 _ rfl) (hU 5 _ rfl) (by decide) (by decide)) q96a q96c (g := (mkF m 265 #[iv p0, iv p1, iv p2, iv p3, iv p4, iv p5, own_l (p0.toInt64), .second, own_l eL1, .second, own_l sL2, .second, own_l eL2, .second, own_l qL, .second, iv sA, iv eA, iv sB, iv eB, iv qq, iv (2 : Int32), iv (1 : Int32), iv (1 : Int32), rv b38, rv iv_, .unset] [(.ref iv_), (.int eA), (.int sA), (.long (256 : Int64)), (.ref b38)])) rfl (by rw [hml]; rfl) (Steps.refl _) (argsL := [(.long (256 : Int64)), (.int sA), (.int eA), (.ref iv_)]) (rest := []) (lenOf pd_13 rfl) rfl (Nat.le_of_eq rfl) (hb hby at_265) (fun _ _ => ⟨rfl, p93_0, (by decide : 13 + 0 ≤ _), (by decide : 1046 + 0 ≤ _)⟩)
              dsimp only [Pt.U, Pt.locs, Pt.cells, Pt.slots] at X96 l96 y96 z96 st96 hQ96
              subst l96 y96 z96
              obtain ⟨rfl, N96q, p96_0, p96_1, p96_2, p96_3, p96_4, p96_5, p96_6, p96_7, p96_8⟩ := hQ96
              have N96 := Fr.app N93 N96q
              have f96_S_Integer_IntegerCache_high := own_sta_keep f41_S_Integer_IntegerCache_high p96_0 (nsS p41_13.nostat (nsS p41_16.nostat (nsS p41_17.nostat (nsS p41_9.nostat (nsS p41_12.nostat ns0)))))
              have f96_S_Integer_IntegerCache_cache := own_sta_keep f41_S_Integer_IntegerCache_cache p96_0 (nsS p41_13.nostat (nsS p41_16.nostat (nsS p41_17.nostat (nsS p41_9.nostat (nsS p41_12.nostat ns0)))))
              have f96_A_ca := f41_A_ca.keep p96_0 (ninS ne_ca_saR_41 (ninS ne_ca_enR_41 (ninS ne_ca_itR_41 (ninS ne_ca_kkR_41 (ninS ne_ca_fiR_41 nin0)))))
              have f96_E_iv_ := f41_E_iv_.keep p96_0
              have f96_E_b38 := f41_E_b38.keep p96_0
              have f96_F_read_b38 := p41_1.keep p96_0 (ninS ne_b38_saR_41 (ninS ne_b38_enR_41 (ninS ne_b38_itR_41 (ninS ne_b38_kkR_41 (ninS ne_b38_fiR_41 nin0)))))
              have f96_F_unread_b38 := p41_2.keep p96_0 (ninS ne_b38_saR_41 (ninS ne_b38_enR_41 (ninS ne_b38_itR_41 (ninS ne_b38_kkR_41 (ninS ne_b38_fiR_41 nin0)))))
              have f96_E_oR_41 := p41_3.keep p96_0
              have f96_F_chunks_oR_41 := p41_4.keep p96_0 (ninS (Exa.neArv p41_3 p41_13 (hU 13 _ rfl)) (ninS (Exa.neArv p41_3 p41_16 (hU 13 _ rfl)) (ninS (Exa.neArv p41_3 p41_17 (hU 13 _ rfl)) (ninS (Exa.ne p41_3 p41_9 (by decide)) (ninS (Exa.neArv p41_3 p41_12 (hU 13 _ rfl)) nin0)))))
              have f96_F_chunkCount_oR_41 := p41_5.keep p96_0 (ninS (Exa.neArv p41_3 p41_13 (hU 13 _ rfl)) (ninS (Exa.neArv p41_3 p41_16 (hU 13 _ rfl)) (ninS (Exa.neArv p41_3 p41_17 (hU 13 _ rfl)) (ninS (Exa.ne p41_3 p41_9 (by decide)) (ninS (Exa.neArv p41_3 p41_12 (hU 13 _ rfl)) nin0)))))
              have f96_F_firsts_oR_41 := p41_6.keep p96_0 (ninS (Exa.neArv p41_3 p41_13 (hU 13 _ rfl)) (ninS (Exa.neArv p41_3 p41_16 (hU 13 _ rfl)) (ninS (Exa.neArv p41_3 p41_17 (hU 13 _ rfl)) (ninS (Exa.ne p41_3 p41_9 (by decide)) (ninS (Exa.neArv p41_3 p41_12 (hU 13 _ rfl)) nin0)))))
              have f96_F_withItems_oR_41 := p41_7.keep p96_0 (ninS (Exa.neArv p41_3 p41_13 (hU 13 _ rfl)) (ninS (Exa.neArv p41_3 p41_16 (hU 13 _ rfl)) (ninS (Exa.neArv p41_3 p41_17 (hU 13 _ rfl)) (ninS (Exa.ne p41_3 p41_9 (by decide)) (ninS (Exa.neArv p41_3 p41_12 (hU 13 _ rfl)) nin0)))))
              have f96_A_ckR_41 := p41_8.keep p96_0 (ninS p41_38 (ninS p41_39 (ninS p41_40 (ninS (Ne.symm (Exa.neArv p41_9 p41_8 (hU 28 _ rfl))) (ninS (Ne.symm p41_34) nin0)))))
              have f96_E_kkR_41 := p41_9.keep p96_0
              have f96_E_oU_41 := p41_18.keep p96_0
              have f96_F_chunks_oU_41 := p41_19.keep p96_0 (ninS (Exa.neArv p41_18 p41_13 (hU 13 _ rfl)) (ninS (Exa.neArv p41_18 p41_16 (hU 13 _ rfl)) (ninS (Exa.neArv p41_18 p41_17 (hU 13 _ rfl)) (ninS (Exa.ne p41_18 p41_9 (by decide)) (ninS (Exa.neArv p41_18 p41_12 (hU 13 _ rfl)) nin0)))))
              have f96_A_ckU_41 := p41_20.keep p96_0 (ninS p41_44 (ninS p41_45 (ninS p41_46 (ninS (Ne.symm (Exa.neArv p41_9 p41_20 (hU 28 _ rfl))) (ninS p41_47 nin0)))))
              have f96_E_kkU_41 := p41_21.keep p96_0
              have f96_F_size_kkU_41 := p41_22.keep p96_0 (ninS (Exa.neArv p41_21 p41_13 (hU 28 _ rfl)) (ninS (Exa.neArv p41_21 p41_16 (hU 28 _ rfl)) (ninS (Exa.neArv p41_21 p41_17 (hU 28 _ rfl)) (ninS p41_48 (ninS (Exa.neArv p41_21 p41_12 (hU 28 _ rfl)) nin0)))))
              have z96 : n0 ≤ T96.heap.size := Nat.le_trans z41 p96_0.1
              have K96 : Keep h0 T96.heap [] := K41.trans p96_0 (allS (Or.inr sz_saR_41) (allS (Or.inr sz_enR_41) (allS (Or.inr sz_itR_41) (allS (Or.inr sz_kkR_41) (allS (Or.inr sz_fiR_41) all0)))))
              have R97 := fun t k => R95 t (st96.trans k)
              have R98 : ∀ t, own_S p e below T96 (mkF m 279 #[iv p0, iv p1, iv p2, iv p3, iv p4, iv p5, own_l (p0.toInt64), .second, own_l eL1, .second, own_l sL2, .second, own_l eL2, .second, own_l qL, .second, iv sA, iv eA, iv sB, iv eB, iv qq, iv (2 : Int32), iv (1 : Int32), iv (1 : Int32), rv b38, rv iv_, .unset] [(.int sB), (.ref b38), (.ref b38)]) t → own_S p e below s₁ f0 t := fun t k => R97 t (by
                refine XS.iload X96.here hx rfl (hb hby at_268) rfl  ?_
                refine XS.ifNo X96.here hx rfl (hb hby at_270) rfl ((if0 _ _).trans (feq (by decide : ¬ ((1 : Int32) = (0 : Int32)))).1) ?_
                refine XS.aload X96.here hx rfl (hb hby at_273) rfl rfl ?_
                refine XS.aload X96.here hx rfl (hb hby at_275) rfl rfl ?_
                refine XS.iload X96.here hx rfl (hb hby at_277) rfl  ?_
                exact k)
              obtain ⟨cq99, kq99, q99a, q99b, q99c⟩ := isOf hZ rfl f96_E_b38
              obtain ⟨_, _, ⟨T99, L99, k99, n99⟩, -, X99, ⟨Lc99, hQ99, l99, y99, z99⟩, st99⟩ := X96.virtualBack hx (y := (⟨sN2, "find", "(I)J"⟩ : MethodName)) (z := (⟨sN2, "find", "(I)J"⟩ : MethodName)) hown (mvT hZ (hU 56 _ rfl)) (mvT hZ (hU 57 _ rfl)) (notFace_of_selects (args := #[]) (mvT hZ (hU 59 _ rfl))) (mvT hZ (hU 59 _ rfl)) (mvT hZ (hU 58 _ rfl)) (by decide) (backOf (W := 1) (rmFf1_1 l Z a0 hw [] b38 sB oR_41 ckR_41 kckR_41 kkR_41 sA saR_41 kstR_41 fiR_41 kfiR_41 oU_41 ckU_41 kckU_41 kkU_41 T96.heap n0 z96 f96_F_read_b38 f96_F_unread_b38 f96_E_oR_41 f96_F_chunks_oR_41 f96_F_chunkCount_oR_41 f96_A_ckR_41 p96_1 p96_2 p96_4 f96_F_firsts_oR_41 p96_3 f96_E_oU_41 f96_F_chunks_oU_41 f96_A_ckU_41 f96_E_kkU_41 f96_F_size_kkU_41 hAB) hZ (hU 60 _ rfl) (hU 5 _ rfl) (by decide) (by decide)) q99a q99c (g := (mkF m 279 #[iv p0, iv p1, iv p2, iv p3, iv p4, iv p5, own_l (p0.toInt64), .second, own_l eL1, .second, own_l sL2, .second, own_l eL2, .second, own_l qL, .second, iv sA, iv eA, iv sB, iv eB, iv qq, iv (2 : Int32), iv (1 : Int32), iv (1 : Int32), rv b38, rv iv_, .unset] [(.int sB), (.ref b38), (.ref b38)])) rfl (by rw [hml]; rfl) (Steps.refl _) (argsL := [(.int sB)]) (rest := [(.ref b38)]) (lenOf pd_5 rfl) rfl (Nat.le_of_eq rfl) (hb hby at_279) (fun _ _ => ⟨rfl, rfl, (by decide : 13 + 0 ≤ _), (by decide : 1046 + 0 ≤ _)⟩)
              dsimp only [Pt.U, Pt.locs, Pt.cells, Pt.slots] at X99 l99 y99 z99 st99 hQ99
              subst l99 y99 z99
              obtain ⟨rfl, N99q, p99_0⟩ := hQ99
              have N99 := Fr.app N96 N99q
              have R100 := fun t k => R98 t (st99.trans k)
              have R101 : ∀ t, own_S p e below T99 (mkF m 288 #[iv p0, iv p1, iv p2, iv p3, iv p4, iv p5, own_l (p0.toInt64), .second, own_l eL1, .second, own_l sL2, .second, own_l eL2, .second, own_l qL, .second, iv sA, iv eA, iv sB, iv eB, iv qq, iv (2 : Int32), iv (1 : Int32), iv (1 : Int32), rv b38, rv iv_, .unset] [(.ref iv_), (.int eB), (.int sB), (.long (257 : Int64)), (.ref b38)]) t → own_S p e below s₁ f0 t := fun t k => R100 t (by
                refine XS.iload X99.here hx rfl (hb hby at_282) rfl  ?_
                refine XS.iload X99.here hx rfl (hb hby at_284) rfl  ?_
                refine XS.aload X99.here hx rfl (hb hby at_286) rfl rfl ?_
                exact k)
              obtain ⟨cq102, kq102, q102a, q102b, q102c⟩ := isOf hZ p99_0 f96_E_b38
              obtain ⟨_, _, ⟨T102, L102, k102, n102⟩, -, X102, ⟨Lc102, hQ102, l102, y102, z102⟩, st102⟩ := X99.virtualBack hx (y := (⟨sN2, "add", sN5⟩ : MethodName)) (z := (⟨sN2, "add", sN5⟩ : MethodName)) hown (mvT hZ (hU 73 _ rfl)) (mvT hZ (hU 74 _ rfl)) (notFace_of_selects (args := #[]) (mvT hZ (hU 76 _ rfl))) (mvT hZ (hU 76 _ rfl)) (mvT hZ (hU 75 _ rfl)) (by decide) (backOf (W := 0) (rmFadd1_1 l Z a0 hw [] b38 sB eB iv_ oR_41 ckR_41 kckR_41 kkR_41 fiR_41 kfiR_41 saR_41 kstR_41 enR_41 kenR_41 itR_41 kitR_41 sA eA iv_ oU_41 ckU_41 kckU_41 kkU_41 T96.heap n0 z96 f96_F_read_b38 f96_F_unread_b38 f96_E_oR_41 f96_F_chunks_oR_41 f96_F_chunkCount_oR_41 f96_F_firsts_oR_41 f96_F_withItems_oR_41 f96_A_ckR_41 f96_E_kkR_41 p96_1 p96_2 p96_3 p96_4 p96_5 p96_6 p96_7 p96_8 f96_E_iv_ f96_E_iv_ g_fiR_41 g_ckR_41 g_saR_41 g_enR_41 g_itR_41 g_kkR_41 p41_34 p41_35 p41_36 p41_37 p41_38 p41_39 p41_40 p41_41 p41_42 p41_43 p41_23 f96_E_oU_41 f96_F_chunks_oU_41 f96_A_ckU_41 f96_E_kkU_41 f96_F_size_kkU_41 f96_E_b38 p41_44 p41_45 p41_46 p41_47 p41_48 hAB) hZ (hU 77 _ rfl) (hU 5 _ rfl) (by decide) (by decide)) q102a q102c (g := (mkF m 288 #[iv p0, iv p1, iv p2, iv p3, iv p4, iv p5, own_l (p0.toInt64), .second, own_l eL1, .second, own_l sL2, .second, own_l eL2, .second, own_l qL, .second, iv sA, iv eA, iv sB, iv eB, iv qq, iv (2 : Int32), iv (1 : Int32), iv (1 : Int32), rv b38, rv iv_, .unset] [(.ref iv_), (.int eB), (.int sB), (.long (257 : Int64)), (.ref b38)])) rfl (by rw [hml]; rfl) (Steps.refl _) (argsL := [(.long (257 : Int64)), (.int sB), (.int eB), (.ref iv_)]) (rest := []) (lenOf pd_13 rfl) rfl (Nat.le_of_eq rfl) (hb hby at_288) (fun _ _ => ⟨rfl, p99_0, (by decide : 13 + 0 ≤ _), (by decide : 1046 + 0 ≤ _)⟩)
              dsimp only [Pt.U, Pt.locs, Pt.cells, Pt.slots] at X102 l102 y102 z102 st102 hQ102
              subst l102 y102 z102
              obtain ⟨rfl, N102q, p102_0, p102_1, p102_2, p102_3, p102_4, p102_5, p102_6, p102_7, p102_8⟩ := hQ102
              have N102 := Fr.app N99 N102q
              have f102_S_Integer_IntegerCache_high := own_sta_keep f96_S_Integer_IntegerCache_high p102_0 (nsS p96_4.nostat (nsS p96_7.nostat (nsS p96_8.nostat (nsS f96_E_kkR_41.nostat (nsS p96_3.nostat ns0)))))
              have f102_S_Integer_IntegerCache_cache := own_sta_keep f96_S_Integer_IntegerCache_cache p102_0 (nsS p96_4.nostat (nsS p96_7.nostat (nsS p96_8.nostat (nsS f96_E_kkR_41.nostat (nsS p96_3.nostat ns0)))))
              have f102_A_ca := f96_A_ca.keep p102_0 (ninS ne_ca_saR_41 (ninS ne_ca_enR_41 (ninS ne_ca_itR_41 (ninS ne_ca_kkR_41 (ninS ne_ca_fiR_41 nin0)))))
              have f102_E_iv_ := f96_E_iv_.keep p102_0
              have f102_E_b38 := f96_E_b38.keep p102_0
              have f102_F_read_b38 := f96_F_read_b38.keep p102_0 (ninS ne_b38_saR_41 (ninS ne_b38_enR_41 (ninS ne_b38_itR_41 (ninS ne_b38_kkR_41 (ninS ne_b38_fiR_41 nin0)))))
              have f102_F_unread_b38 := f96_F_unread_b38.keep p102_0 (ninS ne_b38_saR_41 (ninS ne_b38_enR_41 (ninS ne_b38_itR_41 (ninS ne_b38_kkR_41 (ninS ne_b38_fiR_41 nin0)))))
              have f102_E_oR_41 := f96_E_oR_41.keep p102_0
              have f102_F_chunks_oR_41 := f96_F_chunks_oR_41.keep p102_0 (ninS (Exa.neArv f96_E_oR_41 p96_4 (hU 13 _ rfl)) (ninS (Exa.neArv f96_E_oR_41 p96_7 (hU 13 _ rfl)) (ninS (Exa.neArv f96_E_oR_41 p96_8 (hU 13 _ rfl)) (ninS (Exa.ne f96_E_oR_41 f96_E_kkR_41 (by decide)) (ninS (Exa.neArv f96_E_oR_41 p96_3 (hU 13 _ rfl)) nin0)))))
              have f102_F_chunkCount_oR_41 := f96_F_chunkCount_oR_41.keep p102_0 (ninS (Exa.neArv f96_E_oR_41 p96_4 (hU 13 _ rfl)) (ninS (Exa.neArv f96_E_oR_41 p96_7 (hU 13 _ rfl)) (ninS (Exa.neArv f96_E_oR_41 p96_8 (hU 13 _ rfl)) (ninS (Exa.ne f96_E_oR_41 f96_E_kkR_41 (by decide)) (ninS (Exa.neArv f96_E_oR_41 p96_3 (hU 13 _ rfl)) nin0)))))
              have f102_F_firsts_oR_41 := f96_F_firsts_oR_41.keep p102_0 (ninS (Exa.neArv f96_E_oR_41 p96_4 (hU 13 _ rfl)) (ninS (Exa.neArv f96_E_oR_41 p96_7 (hU 13 _ rfl)) (ninS (Exa.neArv f96_E_oR_41 p96_8 (hU 13 _ rfl)) (ninS (Exa.ne f96_E_oR_41 f96_E_kkR_41 (by decide)) (ninS (Exa.neArv f96_E_oR_41 p96_3 (hU 13 _ rfl)) nin0)))))
              have f102_F_withItems_oR_41 := f96_F_withItems_oR_41.keep p102_0 (ninS (Exa.neArv f96_E_oR_41 p96_4 (hU 13 _ rfl)) (ninS (Exa.neArv f96_E_oR_41 p96_7 (hU 13 _ rfl)) (ninS (Exa.neArv f96_E_oR_41 p96_8 (hU 13 _ rfl)) (ninS (Exa.ne f96_E_oR_41 f96_E_kkR_41 (by decide)) (ninS (Exa.neArv f96_E_oR_41 p96_3 (hU 13 _ rfl)) nin0)))))
              have f102_A_ckR_41 := f96_A_ckR_41.keep p102_0 (ninS p41_38 (ninS p41_39 (ninS p41_40 (ninS (Ne.symm (Exa.neArv f96_E_kkR_41 f96_A_ckR_41 (hU 28 _ rfl))) (ninS (Ne.symm p41_34) nin0)))))
              have f102_E_kkR_41 := f96_E_kkR_41.keep p102_0
              have f102_E_oU_41 := f96_E_oU_41.keep p102_0
              have f102_F_chunks_oU_41 := f96_F_chunks_oU_41.keep p102_0 (ninS (Exa.neArv f96_E_oU_41 p96_4 (hU 13 _ rfl)) (ninS (Exa.neArv f96_E_oU_41 p96_7 (hU 13 _ rfl)) (ninS (Exa.neArv f96_E_oU_41 p96_8 (hU 13 _ rfl)) (ninS (Exa.ne f96_E_oU_41 f96_E_kkR_41 (by decide)) (ninS (Exa.neArv f96_E_oU_41 p96_3 (hU 13 _ rfl)) nin0)))))
              have f102_A_ckU_41 := f96_A_ckU_41.keep p102_0 (ninS p41_44 (ninS p41_45 (ninS p41_46 (ninS (Ne.symm (Exa.neArv f96_E_kkR_41 f96_A_ckU_41 (hU 28 _ rfl))) (ninS p41_47 nin0)))))
              have f102_E_kkU_41 := f96_E_kkU_41.keep p102_0
              have f102_F_size_kkU_41 := f96_F_size_kkU_41.keep p102_0 (ninS (Exa.neArv f96_E_kkU_41 p96_4 (hU 28 _ rfl)) (ninS (Exa.neArv f96_E_kkU_41 p96_7 (hU 28 _ rfl)) (ninS (Exa.neArv f96_E_kkU_41 p96_8 (hU 28 _ rfl)) (ninS p41_48 (ninS (Exa.neArv f96_E_kkU_41 p96_3 (hU 28 _ rfl)) nin0)))))
              have z102 : n0 ≤ T102.heap.size := Nat.le_trans z96 p102_0.1
              have K102 : Keep h0 T102.heap [] := K96.trans p102_0 (allS (Or.inr sz_saR_41) (allS (Or.inr sz_enR_41) (allS (Or.inr sz_itR_41) (allS (Or.inr sz_kkR_41) (allS (Or.inr sz_fiR_41) all0)))))
              have R103 := fun t k => R101 t (st102.trans k)
              have R104 : ∀ t, own_S p e below T102 (mkF m 294 #[iv p0, iv p1, iv p2, iv p3, iv p4, iv p5, own_l (p0.toInt64), .second, own_l eL1, .second, own_l sL2, .second, own_l eL2, .second, own_l qL, .second, iv sA, iv eA, iv sB, iv eB, iv qq, iv (2 : Int32), iv (1 : Int32), iv (1 : Int32), rv b38, rv iv_, iv (-1 : Int32)] []) t → own_S p e below s₁ f0 t := fun t k => R103 t (by
                refine XS.iconst X102.here hx rfl (hb hby at_291) ?_
                refine XS.istore X102.here hx rfl (hb hby at_292) rfl (l' := #[iv p0, iv p1, iv p2, iv p3, iv p4, iv p5, own_l (p0.toInt64), .second, own_l eL1, .second, own_l sL2, .second, own_l eL2, .second, own_l qL, .second, iv sA, iv eA, iv sB, iv eB, iv qq, iv (2 : Int32), iv (1 : Int32), iv (1 : Int32), rv b38, rv iv_, iv (-1 : Int32)]) rfl ?_
                exact k)
              rcases own_tri2 (fun e => hA ⟨by rw [hm]; decide, e⟩) (fun e => hB ⟨by rw [hm]; decide, e⟩) hAB with ⟨ht1, ht2⟩ | ⟨ht1, ht2⟩ | ⟨ht1, ht2⟩
              · skip
                have R105 : ∀ t, own_S p e below T102 (mkF m 349 #[iv p0, iv p1, iv p2, iv p3, iv p4, iv p5, own_l (p0.toInt64), .second, own_l eL1, .second, own_l sL2, .second, own_l eL2, .second, own_l qL, .second, iv sA, iv eA, iv sB, iv eB, iv qq, iv (2 : Int32), iv (1 : Int32), iv (1 : Int32), rv b38, rv iv_, iv (-1 : Int32)] [(.int qq), (.ref b38), (.ref b38)]) t → own_S p e below s₁ f0 t := fun t k => R104 t (by
                  refine XS.iload X102.here hx rfl (hb hby at_294) rfl  ?_
                  refine XS.ifNo X102.here hx rfl (hb hby at_296) rfl ((if0 _ _).trans (feq (by decide : ¬ ((1 : Int32) = (0 : Int32)))).1) ?_
                  refine XS.iload X102.here hx rfl (hb hby at_299) rfl  ?_
                  refine XS.iload X102.here hx rfl (hb hby at_301) rfl  ?_
                  refine XS.icmpYes X102.here hx rfl (pc0 := 303) (pc' := 320) rfl (hb hby at_303) rfl (flt (own_asym ht1)).2.1 (by decide) (by decide) ?_
                  refine XS.iload X102.here hx rfl (hb hby at_320) rfl  ?_
                  show own_S p e below T102 (mkF m 322 #[iv p0, iv p1, iv p2, iv p3, iv p4, iv p5, own_l (p0.toInt64), .second, own_l eL1, .second, own_l sL2, .second, own_l eL2, .second, own_l qL, .second, iv sA, iv eA, iv sB, iv eB, iv qq, iv (2 : Int32), iv (1 : Int32), iv (1 : Int32), rv b38, rv iv_, iv (-1 : Int32)] [(.int (1 : Int32))]) _
                  refine XS.ifNo X102.here hx rfl (hb hby at_322) rfl ((if0 _ _).trans (feq (by decide : ¬ ((1 : Int32) = (0 : Int32)))).1) ?_
                  refine XS.iload X102.here hx rfl (hb hby at_325) rfl  ?_
                  refine XS.iload X102.here hx rfl (hb hby at_327) rfl  ?_
                  refine XS.icmpYes X102.here hx rfl (pc0 := 329) (pc' := 343) rfl (hb hby at_329) rfl (flt (own_asym ht2)).2.1 (by decide) (by decide) ?_
                  refine XS.aload X102.here hx rfl (hb hby at_343) rfl rfl ?_
                  refine XS.aload X102.here hx rfl (hb hby at_345) rfl rfl ?_
                  show own_S p e below T102 (mkF m 347 #[iv p0, iv p1, iv p2, iv p3, iv p4, iv p5, own_l (p0.toInt64), .second, own_l eL1, .second, own_l sL2, .second, own_l eL2, .second, own_l qL, .second, iv sA, iv eA, iv sB, iv eB, iv qq, iv (2 : Int32), iv (1 : Int32), iv (1 : Int32), rv b38, rv iv_, iv (-1 : Int32)] [(.ref b38), (.ref b38)]) _
                  refine XS.iload X102.here hx rfl (hb hby at_347) rfl  ?_
                  exact k)
                obtain ⟨cq106, kq106, q106a, q106b, q106c⟩ := isOf hZ rfl f102_E_b38
                obtain ⟨_, _, ⟨T106, L106, k106, n106⟩, -, X106, ⟨Lc106, hQ106, l106, y106, z106⟩, st106⟩ := X102.virtualBack hx (y := (⟨sN2, "find", "(I)J"⟩ : MethodName)) (z := (⟨sN2, "find", "(I)J"⟩ : MethodName)) hown (mvT hZ (hU 56 _ rfl)) (mvT hZ (hU 57 _ rfl)) (notFace_of_selects (args := #[]) (mvT hZ (hU 59 _ rfl))) (mvT hZ (hU 59 _ rfl)) (mvT hZ (hU 58 _ rfl)) (by decide) (backOf (W := 1) (rmFf2_0 l Z a0 hw [] b38 qq oR_41 ckR_41 kckR_41 kkR_41 sA sB saR_41 kstR_41 fiR_41 kfiR_41 oU_41 ckU_41 kckU_41 kkU_41 T102.heap n0 z102 f102_F_read_b38 f102_F_unread_b38 f102_E_oR_41 f102_F_chunks_oR_41 f102_F_chunkCount_oR_41 f102_A_ckR_41 p102_1 p102_2 p102_4 f102_F_firsts_oR_41 p102_3 f102_E_oU_41 f102_F_chunks_oU_41 f102_A_ckU_41 f102_E_kkU_41 f102_F_size_kkU_41 ht1 ht2) hZ (hU 60 _ rfl) (hU 5 _ rfl) (by decide) (by decide)) q106a q106c (g := (mkF m 349 #[iv p0, iv p1, iv p2, iv p3, iv p4, iv p5, own_l (p0.toInt64), .second, own_l eL1, .second, own_l sL2, .second, own_l eL2, .second, own_l qL, .second, iv sA, iv eA, iv sB, iv eB, iv qq, iv (2 : Int32), iv (1 : Int32), iv (1 : Int32), rv b38, rv iv_, iv (-1 : Int32)] [(.int qq), (.ref b38), (.ref b38)])) rfl (by rw [hml]; rfl) (Steps.refl _) (argsL := [(.int qq)]) (rest := [(.ref b38)]) (lenOf pd_5 rfl) rfl (Nat.le_of_eq rfl) (hb hby at_349) (fun _ _ => ⟨rfl, rfl, (by decide : 13 + 0 ≤ _), (by decide : 1046 + 0 ≤ _)⟩)
                dsimp only [Pt.U, Pt.locs, Pt.cells, Pt.slots] at X106 l106 y106 z106 st106 hQ106
                subst l106 y106 z106
                obtain ⟨rfl, N106q, p106_0⟩ := hQ106
                have N106 := Fr.app N102 N106q
                have R107 := fun t k => R105 t (st106.trans k)
                have R108 : ∀ t, own_S p e below T106 (mkF m 354 #[iv p0, iv p1, iv p2, iv p3, iv p4, iv p5, own_l (p0.toInt64), .second, own_l eL1, .second, own_l sL2, .second, own_l eL2, .second, own_l qL, .second, iv sA, iv eA, iv sB, iv eB, iv qq, iv (2 : Int32), iv (1 : Int32), iv (1 : Int32), rv b38, rv iv_, iv (-1 : Int32)] [(.int qq), (.long (256 : Int64)), (.ref b38)]) t → own_S p e below s₁ f0 t := fun t k => R107 t (by
                  refine XS.iload X106.here hx rfl (hb hby at_352) rfl  ?_
                  exact k)
                obtain ⟨cq109, kq109, q109a, q109b, q109c⟩ := isOf hZ p106_0 f102_E_b38
                obtain ⟨_, _, ⟨T109, L109, k109, n109⟩, -, X109, ⟨Lc109, hQ109, l109, y109, z109⟩, st109⟩ := X106.virtualBack hx (y := (⟨sN2, "containing", "(JI)I"⟩ : MethodName)) (z := (⟨sN2, "containing", "(JI)I"⟩ : MethodName)) hown (mvT hZ (hU 119 _ rfl)) (mvT hZ (hU 120 _ rfl)) (notFace_of_selects (args := #[]) (mvT hZ (hU 122 _ rfl))) (mvT hZ (hU 122 _ rfl)) (mvT hZ (hU 121 _ rfl)) (by decide) (backOf (W := 0) (rmCt2_0 l Z a0 hw [] b38 qq oR_41 T102.heap n0 z102 f102_F_read_b38) hZ (hU 123 _ rfl) (hU 5 _ rfl) (by decide) (by decide)) q109a q109c (g := (mkF m 354 #[iv p0, iv p1, iv p2, iv p3, iv p4, iv p5, own_l (p0.toInt64), .second, own_l eL1, .second, own_l sL2, .second, own_l eL2, .second, own_l qL, .second, iv sA, iv eA, iv sB, iv eB, iv qq, iv (2 : Int32), iv (1 : Int32), iv (1 : Int32), rv b38, rv iv_, iv (-1 : Int32)] [(.int qq), (.long (256 : Int64)), (.ref b38)])) rfl (by rw [hml]; rfl) (Steps.refl _) (argsL := [(.long (256 : Int64)), (.int qq)]) (rest := []) (lenOf pd_17 rfl) rfl (Nat.le_of_eq rfl) (hb hby at_354) (fun _ _ => ⟨rfl, p106_0, (by decide : 13 + 0 ≤ _), (by decide : 1046 + 0 ≤ _)⟩)
                dsimp only [Pt.U, Pt.locs, Pt.cells, Pt.slots] at X109 l109 y109 z109 st109 hQ109
                subst l109 y109 z109
                obtain ⟨rfl, N109q, p109_0⟩ := hQ109
                have N109 := Fr.app N106 N109q
                have R110 := fun t k => R108 t (st109.trans k)
                have R111 : ∀ t, own_S p e below T109 (mkF m 367 #[iv p0, iv p1, iv p2, iv p3, iv p4, iv p5, own_l (p0.toInt64), .second, own_l eL1, .second, own_l sL2, .second, own_l eL2, .second, own_l qL, .second, iv sA, iv eA, iv sB, iv eB, iv qq, iv (2 : Int32), iv (1 : Int32), iv (1 : Int32), rv b38, rv iv_, iv (-1 : Int32)] [(.int (1 : Int32))]) t → own_S p e below s₁ f0 t := fun t k => R110 t (by
                  refine XS.iload X109.here hx rfl (hb hby at_357) rfl  ?_
                  refine XS.icmpNo X109.here hx rfl (hb hby at_359) rfl (teq (by decide : (-1 : Int32) = (-1 : Int32))).2 ?_
                  refine XS.iconst X109.here hx rfl (hb hby at_362) ?_
                  refine XS.goto X109.here hx rfl (pc0 := 363) (pc' := 367) rfl (hb hby at_363) (by decide) (by decide) ?_
                  exact k)
                obtain ⟨fs, hr, hrun, hended, hW, hsame⟩ := X109.leave (v := some (.int (1 : Int32))) (fun h => by rw [Bd.returns] at h; cases h)
                refine ⟨_, _, pre0 _ (R111 _ ?_), hrun, hended, _, _, rfl, ?_, ⟨_, rfl⟩, hW, hsame.mono (by decide) (by decide)⟩
                · show own_S p e below T109 (mkF m 367 #[iv p0, iv p1, iv p2, iv p3, iv p4, iv p5, own_l (p0.toInt64), .second, own_l eL1, .second, own_l sL2, .second, own_l eL2, .second, own_l qL, .second, iv sA, iv eA, iv sB, iv eB, iv qq, iv (2 : Int32), iv (1 : Int32), iv (1 : Int32), rv b38, rv iv_, iv (-1 : Int32)] [(.int (1 : Int32))]) _
                  exact retN X109 hx (t := .boolean) Bd.returns (by simp) (hb hby at_367) hr
                · show Q_rmLaw Z p0 p1 p2 p3 p4 p5 ca kca vsc iv_ h0 n0 _ T109.heap _
                  rw [p109_0]
                  exact ⟨rfl, N109⟩
              · skip
                have R112 : ∀ t, own_S p e below T102 (mkF m 310 #[iv p0, iv p1, iv p2, iv p3, iv p4, iv p5, own_l (p0.toInt64), .second, own_l eL1, .second, own_l sL2, .second, own_l eL2, .second, own_l qL, .second, iv sA, iv eA, iv sB, iv eB, iv qq, iv (2 : Int32), iv (1 : Int32), iv (1 : Int32), rv b38, rv iv_, iv (-1 : Int32)] [(.int eA), (.int qq)]) t → own_S p e below s₁ f0 t := fun t k => R104 t (by
                  refine XS.iload X102.here hx rfl (hb hby at_294) rfl  ?_
                  refine XS.ifNo X102.here hx rfl (hb hby at_296) rfl ((if0 _ _).trans (feq (by decide : ¬ ((1 : Int32) = (0 : Int32)))).1) ?_
                  refine XS.iload X102.here hx rfl (hb hby at_299) rfl  ?_
                  refine XS.iload X102.here hx rfl (hb hby at_301) rfl  ?_
                  refine XS.icmpNo X102.here hx rfl (hb hby at_303) rfl (tlt ht1).2.1 ?_
                  refine XS.iload X102.here hx rfl (hb hby at_306) rfl  ?_
                  show own_S p e below T102 (mkF m 308 #[iv p0, iv p1, iv p2, iv p3, iv p4, iv p5, own_l (p0.toInt64), .second, own_l eL1, .second, own_l sL2, .second, own_l eL2, .second, own_l qL, .second, iv sA, iv eA, iv sB, iv eB, iv qq, iv (2 : Int32), iv (1 : Int32), iv (1 : Int32), rv b38, rv iv_, iv (-1 : Int32)] [(.int qq)]) _
                  refine XS.iload X102.here hx rfl (hb hby at_308) rfl  ?_
                  exact k)
                by_cases hb310 : qq < eA
                · skip
                  have R113 : ∀ t, own_S p e below T102 (mkF m 349 #[iv p0, iv p1, iv p2, iv p3, iv p4, iv p5, own_l (p0.toInt64), .second, own_l eL1, .second, own_l sL2, .second, own_l eL2, .second, own_l qL, .second, iv sA, iv eA, iv sB, iv eB, iv qq, iv (2 : Int32), iv (1 : Int32), iv (1 : Int32), rv b38, rv iv_, iv sA] [(.int qq), (.ref b38), (.ref b38)]) t → own_S p e below s₁ f0 t := fun t k => R112 t (by
                    refine XS.icmpNo X102.here hx rfl (hb hby at_310) rfl (tlt hb310).2.1 ?_
                    refine XS.iload X102.here hx rfl (hb hby at_313) rfl  ?_
                    refine XS.istore X102.here hx rfl (hb hby at_315) rfl (l' := #[iv p0, iv p1, iv p2, iv p3, iv p4, iv p5, own_l (p0.toInt64), .second, own_l eL1, .second, own_l sL2, .second, own_l eL2, .second, own_l qL, .second, iv sA, iv eA, iv sB, iv eB, iv qq, iv (2 : Int32), iv (1 : Int32), iv (1 : Int32), rv b38, rv iv_, iv sA]) rfl ?_
                    refine XS.goto X102.here hx rfl (pc0 := 317) (pc' := 343) rfl (hb hby at_317) (by decide) (by decide) ?_
                    refine XS.aload X102.here hx rfl (hb hby at_343) rfl rfl ?_
                    refine XS.aload X102.here hx rfl (hb hby at_345) rfl rfl ?_
                    show own_S p e below T102 (mkF m 347 #[iv p0, iv p1, iv p2, iv p3, iv p4, iv p5, own_l (p0.toInt64), .second, own_l eL1, .second, own_l sL2, .second, own_l eL2, .second, own_l qL, .second, iv sA, iv eA, iv sB, iv eB, iv qq, iv (2 : Int32), iv (1 : Int32), iv (1 : Int32), rv b38, rv iv_, iv sA] [(.ref b38), (.ref b38)]) _
                    refine XS.iload X102.here hx rfl (hb hby at_347) rfl  ?_
                    exact k)
                  obtain ⟨cq114, kq114, q114a, q114b, q114c⟩ := isOf hZ rfl f102_E_b38
                  obtain ⟨_, _, ⟨T114, L114, k114, n114⟩, -, X114, ⟨Lc114, hQ114, l114, y114, z114⟩, st114⟩ := X102.virtualBack hx (y := (⟨sN2, "find", "(I)J"⟩ : MethodName)) (z := (⟨sN2, "find", "(I)J"⟩ : MethodName)) hown (mvT hZ (hU 56 _ rfl)) (mvT hZ (hU 57 _ rfl)) (notFace_of_selects (args := #[]) (mvT hZ (hU 59 _ rfl))) (mvT hZ (hU 59 _ rfl)) (mvT hZ (hU 58 _ rfl)) (by decide) (backOf (W := 1) (rmFf2_1 l Z a0 hw [] b38 qq oR_41 ckR_41 kckR_41 kkR_41 sA sB saR_41 kstR_41 fiR_41 kfiR_41 oU_41 ckU_41 kckU_41 kkU_41 T102.heap n0 z102 f102_F_read_b38 f102_F_unread_b38 f102_E_oR_41 f102_F_chunks_oR_41 f102_F_chunkCount_oR_41 f102_A_ckR_41 p102_1 p102_2 p102_4 f102_F_firsts_oR_41 p102_3 f102_E_oU_41 f102_F_chunks_oU_41 f102_A_ckU_41 f102_E_kkU_41 f102_F_size_kkU_41 ht1 ht2) hZ (hU 60 _ rfl) (hU 5 _ rfl) (by decide) (by decide)) q114a q114c (g := (mkF m 349 #[iv p0, iv p1, iv p2, iv p3, iv p4, iv p5, own_l (p0.toInt64), .second, own_l eL1, .second, own_l sL2, .second, own_l eL2, .second, own_l qL, .second, iv sA, iv eA, iv sB, iv eB, iv qq, iv (2 : Int32), iv (1 : Int32), iv (1 : Int32), rv b38, rv iv_, iv sA] [(.int qq), (.ref b38), (.ref b38)])) rfl (by rw [hml]; rfl) (Steps.refl _) (argsL := [(.int qq)]) (rest := [(.ref b38)]) (lenOf pd_5 rfl) rfl (Nat.le_of_eq rfl) (hb hby at_349) (fun _ _ => ⟨rfl, rfl, (by decide : 13 + 0 ≤ _), (by decide : 1046 + 0 ≤ _)⟩)
                  dsimp only [Pt.U, Pt.locs, Pt.cells, Pt.slots] at X114 l114 y114 z114 st114 hQ114
                  subst l114 y114 z114
                  obtain ⟨rfl, N114q, p114_0⟩ := hQ114
                  have N114 := Fr.app N102 N114q
                  have R115 := fun t k => R113 t (st114.trans k)
                  have R116 : ∀ t, own_S p e below T114 (mkF m 354 #[iv p0, iv p1, iv p2, iv p3, iv p4, iv p5, own_l (p0.toInt64), .second, own_l eL1, .second, own_l sL2, .second, own_l eL2, .second, own_l qL, .second, iv sA, iv eA, iv sB, iv eB, iv qq, iv (2 : Int32), iv (1 : Int32), iv (1 : Int32), rv b38, rv iv_, iv sA] [(.int qq), (.long (257 : Int64)), (.ref b38)]) t → own_S p e below s₁ f0 t := fun t k => R115 t (by
                    refine XS.iload X114.here hx rfl (hb hby at_352) rfl  ?_
                    exact k)
                  obtain ⟨cq117, kq117, q117a, q117b, q117c⟩ := isOf hZ p114_0 f102_E_b38
                  obtain ⟨_, _, ⟨T117, L117, k117, n117⟩, -, X117, ⟨Lc117, hQ117, l117, y117, z117⟩, st117⟩ := X114.virtualBack hx (y := (⟨sN2, "containing", "(JI)I"⟩ : MethodName)) (z := (⟨sN2, "containing", "(JI)I"⟩ : MethodName)) hown (mvT hZ (hU 119 _ rfl)) (mvT hZ (hU 120 _ rfl)) (notFace_of_selects (args := #[]) (mvT hZ (hU 122 _ rfl))) (mvT hZ (hU 122 _ rfl)) (mvT hZ (hU 121 _ rfl)) (by decide) (backOf (W := 0) (rmCt2_1 l Z a0 hw [] b38 qq oR_41 ckR_41 kckR_41 kkR_41 saR_41 kstR_41 enR_41 kenR_41 sA sB eA eB T102.heap n0 z102 f102_F_read_b38 f102_F_chunks_oR_41 f102_A_ckR_41 p102_2 p102_5 p102_4 p102_7) hZ (hU 123 _ rfl) (hU 5 _ rfl) (by decide) (by decide)) q117a q117c (g := (mkF m 354 #[iv p0, iv p1, iv p2, iv p3, iv p4, iv p5, own_l (p0.toInt64), .second, own_l eL1, .second, own_l sL2, .second, own_l eL2, .second, own_l qL, .second, iv sA, iv eA, iv sB, iv eB, iv qq, iv (2 : Int32), iv (1 : Int32), iv (1 : Int32), rv b38, rv iv_, iv sA] [(.int qq), (.long (257 : Int64)), (.ref b38)])) rfl (by rw [hml]; rfl) (Steps.refl _) (argsL := [(.long (257 : Int64)), (.int qq)]) (rest := []) (lenOf pd_17 rfl) rfl (Nat.le_of_eq rfl) (hb hby at_354) (fun _ _ => ⟨rfl, p114_0, (by decide : 13 + 0 ≤ _), (by decide : 1046 + 0 ≤ _)⟩)
                  dsimp only [Pt.U, Pt.locs, Pt.cells, Pt.slots] at X117 l117 y117 z117 st117 hQ117
                  subst l117 y117 z117
                  obtain ⟨rfl, N117q, p117_0⟩ := hQ117
                  have N117 := Fr.app N114 N117q
                  have R118 := fun t k => R116 t (st117.trans k)
                  have R119 : ∀ t, own_S p e below T117 (mkF m 367 #[iv p0, iv p1, iv p2, iv p3, iv p4, iv p5, own_l (p0.toInt64), .second, own_l eL1, .second, own_l sL2, .second, own_l eL2, .second, own_l qL, .second, iv sA, iv eA, iv sB, iv eB, iv qq, iv (2 : Int32), iv (1 : Int32), iv (1 : Int32), rv b38, rv iv_, iv sA] [(.int (1 : Int32))]) t → own_S p e below s₁ f0 t := fun t k => R118 t (by
                    refine XS.iload X117.here hx rfl (hb hby at_357) rfl  ?_
                    refine XS.icmpNo X117.here hx rfl (hb hby at_359) rfl (teq (by simp [own_ct, hb310] : (own_ct qq eA sA) = sA)).2 ?_
                    refine XS.iconst X117.here hx rfl (hb hby at_362) ?_
                    refine XS.goto X117.here hx rfl (pc0 := 363) (pc' := 367) rfl (hb hby at_363) (by decide) (by decide) ?_
                    exact k)
                  obtain ⟨fs, hr, hrun, hended, hW, hsame⟩ := X117.leave (v := some (.int (1 : Int32))) (fun h => by rw [Bd.returns] at h; cases h)
                  refine ⟨_, _, pre0 _ (R119 _ ?_), hrun, hended, _, _, rfl, ?_, ⟨_, rfl⟩, hW, hsame.mono (by decide) (by decide)⟩
                  · show own_S p e below T117 (mkF m 367 #[iv p0, iv p1, iv p2, iv p3, iv p4, iv p5, own_l (p0.toInt64), .second, own_l eL1, .second, own_l sL2, .second, own_l eL2, .second, own_l qL, .second, iv sA, iv eA, iv sB, iv eB, iv qq, iv (2 : Int32), iv (1 : Int32), iv (1 : Int32), rv b38, rv iv_, iv sA] [(.int (1 : Int32))]) _
                    exact retN X117 hx (t := .boolean) Bd.returns (by simp) (hb hby at_367) hr
                  · show Q_rmLaw Z p0 p1 p2 p3 p4 p5 ca kca vsc iv_ h0 n0 _ T117.heap _
                    rw [p117_0]
                    exact ⟨rfl, N117⟩
                · skip
                  have R120 : ∀ t, own_S p e below T102 (mkF m 349 #[iv p0, iv p1, iv p2, iv p3, iv p4, iv p5, own_l (p0.toInt64), .second, own_l eL1, .second, own_l sL2, .second, own_l eL2, .second, own_l qL, .second, iv sA, iv eA, iv sB, iv eB, iv qq, iv (2 : Int32), iv (1 : Int32), iv (1 : Int32), rv b38, rv iv_, iv (-1 : Int32)] [(.int qq), (.ref b38), (.ref b38)]) t → own_S p e below s₁ f0 t := fun t k => R112 t (by
                    refine XS.icmpYes X102.here hx rfl (pc0 := 310) (pc' := 320) rfl (hb hby at_310) rfl (flt hb310).2.1 (by decide) (by decide) ?_
                    refine XS.iload X102.here hx rfl (hb hby at_320) rfl  ?_
                    refine XS.ifNo X102.here hx rfl (hb hby at_322) rfl ((if0 _ _).trans (feq (by decide : ¬ ((1 : Int32) = (0 : Int32)))).1) ?_
                    refine XS.iload X102.here hx rfl (hb hby at_325) rfl  ?_
                    refine XS.iload X102.here hx rfl (hb hby at_327) rfl  ?_
                    refine XS.icmpYes X102.here hx rfl (pc0 := 329) (pc' := 343) rfl (hb hby at_329) rfl (flt (own_asym ht2)).2.1 (by decide) (by decide) ?_
                    show own_S p e below T102 (mkF m 343 #[iv p0, iv p1, iv p2, iv p3, iv p4, iv p5, own_l (p0.toInt64), .second, own_l eL1, .second, own_l sL2, .second, own_l eL2, .second, own_l qL, .second, iv sA, iv eA, iv sB, iv eB, iv qq, iv (2 : Int32), iv (1 : Int32), iv (1 : Int32), rv b38, rv iv_, iv (-1 : Int32)] []) _
                    refine XS.aload X102.here hx rfl (hb hby at_343) rfl rfl ?_
                    refine XS.aload X102.here hx rfl (hb hby at_345) rfl rfl ?_
                    refine XS.iload X102.here hx rfl (hb hby at_347) rfl  ?_
                    exact k)
                  obtain ⟨cq121, kq121, q121a, q121b, q121c⟩ := isOf hZ rfl f102_E_b38
                  obtain ⟨_, _, ⟨T121, L121, k121, n121⟩, -, X121, ⟨Lc121, hQ121, l121, y121, z121⟩, st121⟩ := X102.virtualBack hx (y := (⟨sN2, "find", "(I)J"⟩ : MethodName)) (z := (⟨sN2, "find", "(I)J"⟩ : MethodName)) hown (mvT hZ (hU 56 _ rfl)) (mvT hZ (hU 57 _ rfl)) (notFace_of_selects (args := #[]) (mvT hZ (hU 59 _ rfl))) (mvT hZ (hU 59 _ rfl)) (mvT hZ (hU 58 _ rfl)) (by decide) (backOf (W := 1) (rmFf2_1 l Z a0 hw [] b38 qq oR_41 ckR_41 kckR_41 kkR_41 sA sB saR_41 kstR_41 fiR_41 kfiR_41 oU_41 ckU_41 kckU_41 kkU_41 T102.heap n0 z102 f102_F_read_b38 f102_F_unread_b38 f102_E_oR_41 f102_F_chunks_oR_41 f102_F_chunkCount_oR_41 f102_A_ckR_41 p102_1 p102_2 p102_4 f102_F_firsts_oR_41 p102_3 f102_E_oU_41 f102_F_chunks_oU_41 f102_A_ckU_41 f102_E_kkU_41 f102_F_size_kkU_41 ht1 ht2) hZ (hU 60 _ rfl) (hU 5 _ rfl) (by decide) (by decide)) q121a q121c (g := (mkF m 349 #[iv p0, iv p1, iv p2, iv p3, iv p4, iv p5, own_l (p0.toInt64), .second, own_l eL1, .second, own_l sL2, .second, own_l eL2, .second, own_l qL, .second, iv sA, iv eA, iv sB, iv eB, iv qq, iv (2 : Int32), iv (1 : Int32), iv (1 : Int32), rv b38, rv iv_, iv (-1 : Int32)] [(.int qq), (.ref b38), (.ref b38)])) rfl (by rw [hml]; rfl) (Steps.refl _) (argsL := [(.int qq)]) (rest := [(.ref b38)]) (lenOf pd_5 rfl) rfl (Nat.le_of_eq rfl) (hb hby at_349) (fun _ _ => ⟨rfl, rfl, (by decide : 13 + 0 ≤ _), (by decide : 1046 + 0 ≤ _)⟩)
                  dsimp only [Pt.U, Pt.locs, Pt.cells, Pt.slots] at X121 l121 y121 z121 st121 hQ121
                  subst l121 y121 z121
                  obtain ⟨rfl, N121q, p121_0⟩ := hQ121
                  have N121 := Fr.app N102 N121q
                  have R122 := fun t k => R120 t (st121.trans k)
                  have R123 : ∀ t, own_S p e below T121 (mkF m 354 #[iv p0, iv p1, iv p2, iv p3, iv p4, iv p5, own_l (p0.toInt64), .second, own_l eL1, .second, own_l sL2, .second, own_l eL2, .second, own_l qL, .second, iv sA, iv eA, iv sB, iv eB, iv qq, iv (2 : Int32), iv (1 : Int32), iv (1 : Int32), rv b38, rv iv_, iv (-1 : Int32)] [(.int qq), (.long (257 : Int64)), (.ref b38)]) t → own_S p e below s₁ f0 t := fun t k => R122 t (by
                    refine XS.iload X121.here hx rfl (hb hby at_352) rfl  ?_
                    exact k)
                  obtain ⟨cq124, kq124, q124a, q124b, q124c⟩ := isOf hZ p121_0 f102_E_b38
                  obtain ⟨_, _, ⟨T124, L124, k124, n124⟩, -, X124, ⟨Lc124, hQ124, l124, y124, z124⟩, st124⟩ := X121.virtualBack hx (y := (⟨sN2, "containing", "(JI)I"⟩ : MethodName)) (z := (⟨sN2, "containing", "(JI)I"⟩ : MethodName)) hown (mvT hZ (hU 119 _ rfl)) (mvT hZ (hU 120 _ rfl)) (notFace_of_selects (args := #[]) (mvT hZ (hU 122 _ rfl))) (mvT hZ (hU 122 _ rfl)) (mvT hZ (hU 121 _ rfl)) (by decide) (backOf (W := 0) (rmCt2_1 l Z a0 hw [] b38 qq oR_41 ckR_41 kckR_41 kkR_41 saR_41 kstR_41 enR_41 kenR_41 sA sB eA eB T102.heap n0 z102 f102_F_read_b38 f102_F_chunks_oR_41 f102_A_ckR_41 p102_2 p102_5 p102_4 p102_7) hZ (hU 123 _ rfl) (hU 5 _ rfl) (by decide) (by decide)) q124a q124c (g := (mkF m 354 #[iv p0, iv p1, iv p2, iv p3, iv p4, iv p5, own_l (p0.toInt64), .second, own_l eL1, .second, own_l sL2, .second, own_l eL2, .second, own_l qL, .second, iv sA, iv eA, iv sB, iv eB, iv qq, iv (2 : Int32), iv (1 : Int32), iv (1 : Int32), rv b38, rv iv_, iv (-1 : Int32)] [(.int qq), (.long (257 : Int64)), (.ref b38)])) rfl (by rw [hml]; rfl) (Steps.refl _) (argsL := [(.long (257 : Int64)), (.int qq)]) (rest := []) (lenOf pd_17 rfl) rfl (Nat.le_of_eq rfl) (hb hby at_354) (fun _ _ => ⟨rfl, p121_0, (by decide : 13 + 0 ≤ _), (by decide : 1046 + 0 ≤ _)⟩)
                  dsimp only [Pt.U, Pt.locs, Pt.cells, Pt.slots] at X124 l124 y124 z124 st124 hQ124
                  subst l124 y124 z124
                  obtain ⟨rfl, N124q, p124_0⟩ := hQ124
                  have N124 := Fr.app N121 N124q
                  have R125 := fun t k => R123 t (st124.trans k)
                  have R126 : ∀ t, own_S p e below T124 (mkF m 367 #[iv p0, iv p1, iv p2, iv p3, iv p4, iv p5, own_l (p0.toInt64), .second, own_l eL1, .second, own_l sL2, .second, own_l eL2, .second, own_l qL, .second, iv sA, iv eA, iv sB, iv eB, iv qq, iv (2 : Int32), iv (1 : Int32), iv (1 : Int32), rv b38, rv iv_, iv (-1 : Int32)] [(.int (1 : Int32))]) t → own_S p e below s₁ f0 t := fun t k => R125 t (by
                    refine XS.iload X124.here hx rfl (hb hby at_357) rfl  ?_
                    refine XS.icmpNo X124.here hx rfl (hb hby at_359) rfl (teq (by simp [own_ct, hb310] : (own_ct qq eA sA) = (-1 : Int32))).2 ?_
                    refine XS.iconst X124.here hx rfl (hb hby at_362) ?_
                    refine XS.goto X124.here hx rfl (pc0 := 363) (pc' := 367) rfl (hb hby at_363) (by decide) (by decide) ?_
                    exact k)
                  obtain ⟨fs, hr, hrun, hended, hW, hsame⟩ := X124.leave (v := some (.int (1 : Int32))) (fun h => by rw [Bd.returns] at h; cases h)
                  refine ⟨_, _, pre0 _ (R126 _ ?_), hrun, hended, _, _, rfl, ?_, ⟨_, rfl⟩, hW, hsame.mono (by decide) (by decide)⟩
                  · show own_S p e below T124 (mkF m 367 #[iv p0, iv p1, iv p2, iv p3, iv p4, iv p5, own_l (p0.toInt64), .second, own_l eL1, .second, own_l sL2, .second, own_l eL2, .second, own_l qL, .second, iv sA, iv eA, iv sB, iv eB, iv qq, iv (2 : Int32), iv (1 : Int32), iv (1 : Int32), rv b38, rv iv_, iv (-1 : Int32)] [(.int (1 : Int32))]) _
                    exact retN X124 hx (t := .boolean) Bd.returns (by simp) (hb hby at_367) hr
                  · show Q_rmLaw Z p0 p1 p2 p3 p4 p5 ca kca vsc iv_ h0 n0 _ T124.heap _
                    rw [p124_0]
                    exact ⟨rfl, N124⟩
              · skip
                have R127 : ∀ t, own_S p e below T102 (mkF m 336 #[iv p0, iv p1, iv p2, iv p3, iv p4, iv p5, own_l (p0.toInt64), .second, own_l eL1, .second, own_l sL2, .second, own_l eL2, .second, own_l qL, .second, iv sA, iv eA, iv sB, iv eB, iv qq, iv (2 : Int32), iv (1 : Int32), iv (1 : Int32), rv b38, rv iv_, iv (-1 : Int32)] [(.int eB), (.int qq)]) t → own_S p e below s₁ f0 t := fun t k => R104 t (by
                  refine XS.iload X102.here hx rfl (hb hby at_294) rfl  ?_
                  refine XS.ifNo X102.here hx rfl (hb hby at_296) rfl ((if0 _ _).trans (feq (by decide : ¬ ((1 : Int32) = (0 : Int32)))).1) ?_
                  refine XS.iload X102.here hx rfl (hb hby at_299) rfl  ?_
                  refine XS.iload X102.here hx rfl (hb hby at_301) rfl  ?_
                  refine XS.icmpNo X102.here hx rfl (hb hby at_303) rfl (tlt ht1).2.1 ?_
                  refine XS.iload X102.here hx rfl (hb hby at_306) rfl  ?_
                  show own_S p e below T102 (mkF m 308 #[iv p0, iv p1, iv p2, iv p3, iv p4, iv p5, own_l (p0.toInt64), .second, own_l eL1, .second, own_l sL2, .second, own_l eL2, .second, own_l qL, .second, iv sA, iv eA, iv sB, iv eB, iv qq, iv (2 : Int32), iv (1 : Int32), iv (1 : Int32), rv b38, rv iv_, iv (-1 : Int32)] [(.int qq)]) _
                  refine XS.iload X102.here hx rfl (hb hby at_308) rfl  ?_
                  refine XS.icmpYes X102.here hx rfl (pc0 := 310) (pc' := 320) rfl (hb hby at_310) rfl (flt (own_past ho ht2)).2.1 (by decide) (by decide) ?_
                  refine XS.iload X102.here hx rfl (hb hby at_320) rfl  ?_
                  refine XS.ifNo X102.here hx rfl (hb hby at_322) rfl ((if0 _ _).trans (feq (by decide : ¬ ((1 : Int32) = (0 : Int32)))).1) ?_
                  refine XS.iload X102.here hx rfl (hb hby at_325) rfl  ?_
                  refine XS.iload X102.here hx rfl (hb hby at_327) rfl  ?_
                  show own_S p e below T102 (mkF m 329 #[iv p0, iv p1, iv p2, iv p3, iv p4, iv p5, own_l (p0.toInt64), .second, own_l eL1, .second, own_l sL2, .second, own_l eL2, .second, own_l qL, .second, iv sA, iv eA, iv sB, iv eB, iv qq, iv (2 : Int32), iv (1 : Int32), iv (1 : Int32), rv b38, rv iv_, iv (-1 : Int32)] [(.int qq), (.int sB)]) _
                  refine XS.icmpNo X102.here hx rfl (hb hby at_329) rfl (tlt ht2).2.1 ?_
                  refine XS.iload X102.here hx rfl (hb hby at_332) rfl  ?_
                  refine XS.iload X102.here hx rfl (hb hby at_334) rfl  ?_
                  exact k)
                by_cases hb336 : qq < eB
                · skip
                  have R128 : ∀ t, own_S p e below T102 (mkF m 349 #[iv p0, iv p1, iv p2, iv p3, iv p4, iv p5, own_l (p0.toInt64), .second, own_l eL1, .second, own_l sL2, .second, own_l eL2, .second, own_l qL, .second, iv sA, iv eA, iv sB, iv eB, iv qq, iv (2 : Int32), iv (1 : Int32), iv (1 : Int32), rv b38, rv iv_, iv sB] [(.int qq), (.ref b38), (.ref b38)]) t → own_S p e below s₁ f0 t := fun t k => R127 t (by
                    refine XS.icmpNo X102.here hx rfl (hb hby at_336) rfl (tlt hb336).2.1 ?_
                    refine XS.iload X102.here hx rfl (hb hby at_339) rfl  ?_
                    refine XS.istore X102.here hx rfl (hb hby at_341) rfl (l' := #[iv p0, iv p1, iv p2, iv p3, iv p4, iv p5, own_l (p0.toInt64), .second, own_l eL1, .second, own_l sL2, .second, own_l eL2, .second, own_l qL, .second, iv sA, iv eA, iv sB, iv eB, iv qq, iv (2 : Int32), iv (1 : Int32), iv (1 : Int32), rv b38, rv iv_, iv sB]) rfl ?_
                    refine XS.aload X102.here hx rfl (hb hby at_343) rfl rfl ?_
                    refine XS.aload X102.here hx rfl (hb hby at_345) rfl rfl ?_
                    refine XS.iload X102.here hx rfl (hb hby at_347) rfl  ?_
                    exact k)
                  obtain ⟨cq129, kq129, q129a, q129b, q129c⟩ := isOf hZ rfl f102_E_b38
                  obtain ⟨_, _, ⟨T129, L129, k129, n129⟩, -, X129, ⟨Lc129, hQ129, l129, y129, z129⟩, st129⟩ := X102.virtualBack hx (y := (⟨sN2, "find", "(I)J"⟩ : MethodName)) (z := (⟨sN2, "find", "(I)J"⟩ : MethodName)) hown (mvT hZ (hU 56 _ rfl)) (mvT hZ (hU 57 _ rfl)) (notFace_of_selects (args := #[]) (mvT hZ (hU 59 _ rfl))) (mvT hZ (hU 59 _ rfl)) (mvT hZ (hU 58 _ rfl)) (by decide) (backOf (W := 1) (rmFf2_2 l Z a0 hw [] b38 qq oR_41 ckR_41 kckR_41 kkR_41 sA sB saR_41 kstR_41 fiR_41 kfiR_41 oU_41 ckU_41 kckU_41 kkU_41 T102.heap n0 z102 f102_F_read_b38 f102_F_unread_b38 f102_E_oR_41 f102_F_chunks_oR_41 f102_F_chunkCount_oR_41 f102_A_ckR_41 p102_1 p102_2 p102_4 f102_F_firsts_oR_41 p102_3 f102_E_oU_41 f102_F_chunks_oU_41 f102_A_ckU_41 f102_E_kkU_41 f102_F_size_kkU_41 ht1 ht2) hZ (hU 60 _ rfl) (hU 5 _ rfl) (by decide) (by decide)) q129a q129c (g := (mkF m 349 #[iv p0, iv p1, iv p2, iv p3, iv p4, iv p5, own_l (p0.toInt64), .second, own_l eL1, .second, own_l sL2, .second, own_l eL2, .second, own_l qL, .second, iv sA, iv eA, iv sB, iv eB, iv qq, iv (2 : Int32), iv (1 : Int32), iv (1 : Int32), rv b38, rv iv_, iv sB] [(.int qq), (.ref b38), (.ref b38)])) rfl (by rw [hml]; rfl) (Steps.refl _) (argsL := [(.int qq)]) (rest := [(.ref b38)]) (lenOf pd_5 rfl) rfl (Nat.le_of_eq rfl) (hb hby at_349) (fun _ _ => ⟨rfl, rfl, (by decide : 13 + 0 ≤ _), (by decide : 1046 + 0 ≤ _)⟩)
                  dsimp only [Pt.U, Pt.locs, Pt.cells, Pt.slots] at X129 l129 y129 z129 st129 hQ129
                  subst l129 y129 z129
                  obtain ⟨rfl, N129q, p129_0⟩ := hQ129
                  have N129 := Fr.app N102 N129q
                  have R130 := fun t k => R128 t (st129.trans k)
                  have R131 : ∀ t, own_S p e below T129 (mkF m 354 #[iv p0, iv p1, iv p2, iv p3, iv p4, iv p5, own_l (p0.toInt64), .second, own_l eL1, .second, own_l sL2, .second, own_l eL2, .second, own_l qL, .second, iv sA, iv eA, iv sB, iv eB, iv qq, iv (2 : Int32), iv (1 : Int32), iv (1 : Int32), rv b38, rv iv_, iv sB] [(.int qq), (.long (258 : Int64)), (.ref b38)]) t → own_S p e below s₁ f0 t := fun t k => R130 t (by
                    refine XS.iload X129.here hx rfl (hb hby at_352) rfl  ?_
                    exact k)
                  obtain ⟨cq132, kq132, q132a, q132b, q132c⟩ := isOf hZ p129_0 f102_E_b38
                  obtain ⟨_, _, ⟨T132, L132, k132, n132⟩, -, X132, ⟨Lc132, hQ132, l132, y132, z132⟩, st132⟩ := X129.virtualBack hx (y := (⟨sN2, "containing", "(JI)I"⟩ : MethodName)) (z := (⟨sN2, "containing", "(JI)I"⟩ : MethodName)) hown (mvT hZ (hU 119 _ rfl)) (mvT hZ (hU 120 _ rfl)) (notFace_of_selects (args := #[]) (mvT hZ (hU 122 _ rfl))) (mvT hZ (hU 122 _ rfl)) (mvT hZ (hU 121 _ rfl)) (by decide) (backOf (W := 0) (rmCt2_2 l Z a0 hw [] b38 qq oR_41 ckR_41 kckR_41 kkR_41 saR_41 kstR_41 enR_41 kenR_41 sA sB eA eB T102.heap n0 z102 f102_F_read_b38 f102_F_chunks_oR_41 f102_A_ckR_41 p102_2 p102_5 p102_4 p102_7) hZ (hU 123 _ rfl) (hU 5 _ rfl) (by decide) (by decide)) q132a q132c (g := (mkF m 354 #[iv p0, iv p1, iv p2, iv p3, iv p4, iv p5, own_l (p0.toInt64), .second, own_l eL1, .second, own_l sL2, .second, own_l eL2, .second, own_l qL, .second, iv sA, iv eA, iv sB, iv eB, iv qq, iv (2 : Int32), iv (1 : Int32), iv (1 : Int32), rv b38, rv iv_, iv sB] [(.int qq), (.long (258 : Int64)), (.ref b38)])) rfl (by rw [hml]; rfl) (Steps.refl _) (argsL := [(.long (258 : Int64)), (.int qq)]) (rest := []) (lenOf pd_17 rfl) rfl (Nat.le_of_eq rfl) (hb hby at_354) (fun _ _ => ⟨rfl, p129_0, (by decide : 13 + 0 ≤ _), (by decide : 1046 + 0 ≤ _)⟩)
                  dsimp only [Pt.U, Pt.locs, Pt.cells, Pt.slots] at X132 l132 y132 z132 st132 hQ132
                  subst l132 y132 z132
                  obtain ⟨rfl, N132q, p132_0⟩ := hQ132
                  have N132 := Fr.app N129 N132q
                  have R133 := fun t k => R131 t (st132.trans k)
                  have R134 : ∀ t, own_S p e below T132 (mkF m 367 #[iv p0, iv p1, iv p2, iv p3, iv p4, iv p5, own_l (p0.toInt64), .second, own_l eL1, .second, own_l sL2, .second, own_l eL2, .second, own_l qL, .second, iv sA, iv eA, iv sB, iv eB, iv qq, iv (2 : Int32), iv (1 : Int32), iv (1 : Int32), rv b38, rv iv_, iv sB] [(.int (1 : Int32))]) t → own_S p e below s₁ f0 t := fun t k => R133 t (by
                    refine XS.iload X132.here hx rfl (hb hby at_357) rfl  ?_
                    refine XS.icmpNo X132.here hx rfl (hb hby at_359) rfl (teq (by simp [own_ct, hb336] : (own_ct qq eB sB) = sB)).2 ?_
                    refine XS.iconst X132.here hx rfl (hb hby at_362) ?_
                    refine XS.goto X132.here hx rfl (pc0 := 363) (pc' := 367) rfl (hb hby at_363) (by decide) (by decide) ?_
                    exact k)
                  obtain ⟨fs, hr, hrun, hended, hW, hsame⟩ := X132.leave (v := some (.int (1 : Int32))) (fun h => by rw [Bd.returns] at h; cases h)
                  refine ⟨_, _, pre0 _ (R134 _ ?_), hrun, hended, _, _, rfl, ?_, ⟨_, rfl⟩, hW, hsame.mono (by decide) (by decide)⟩
                  · show own_S p e below T132 (mkF m 367 #[iv p0, iv p1, iv p2, iv p3, iv p4, iv p5, own_l (p0.toInt64), .second, own_l eL1, .second, own_l sL2, .second, own_l eL2, .second, own_l qL, .second, iv sA, iv eA, iv sB, iv eB, iv qq, iv (2 : Int32), iv (1 : Int32), iv (1 : Int32), rv b38, rv iv_, iv sB] [(.int (1 : Int32))]) _
                    exact retN X132 hx (t := .boolean) Bd.returns (by simp) (hb hby at_367) hr
                  · show Q_rmLaw Z p0 p1 p2 p3 p4 p5 ca kca vsc iv_ h0 n0 _ T132.heap _
                    rw [p132_0]
                    exact ⟨rfl, N132⟩
                · skip
                  have R135 : ∀ t, own_S p e below T102 (mkF m 349 #[iv p0, iv p1, iv p2, iv p3, iv p4, iv p5, own_l (p0.toInt64), .second, own_l eL1, .second, own_l sL2, .second, own_l eL2, .second, own_l qL, .second, iv sA, iv eA, iv sB, iv eB, iv qq, iv (2 : Int32), iv (1 : Int32), iv (1 : Int32), rv b38, rv iv_, iv (-1 : Int32)] [(.int qq), (.ref b38), (.ref b38)]) t → own_S p e below s₁ f0 t := fun t k => R127 t (by
                    refine XS.icmpYes X102.here hx rfl (pc0 := 336) (pc' := 343) rfl (hb hby at_336) rfl (flt hb336).2.1 (by decide) (by decide) ?_
                    refine XS.aload X102.here hx rfl (hb hby at_343) rfl rfl ?_
                    refine XS.aload X102.here hx rfl (hb hby at_345) rfl rfl ?_
                    refine XS.iload X102.here hx rfl (hb hby at_347) rfl  ?_
                    exact k)
                  obtain ⟨cq136, kq136, q136a, q136b, q136c⟩ := isOf hZ rfl f102_E_b38
                  obtain ⟨_, _, ⟨T136, L136, k136, n136⟩, -, X136, ⟨Lc136, hQ136, l136, y136, z136⟩, st136⟩ := X102.virtualBack hx (y := (⟨sN2, "find", "(I)J"⟩ : MethodName)) (z := (⟨sN2, "find", "(I)J"⟩ : MethodName)) hown (mvT hZ (hU 56 _ rfl)) (mvT hZ (hU 57 _ rfl)) (notFace_of_selects (args := #[]) (mvT hZ (hU 59 _ rfl))) (mvT hZ (hU 59 _ rfl)) (mvT hZ (hU 58 _ rfl)) (by decide) (backOf (W := 1) (rmFf2_2 l Z a0 hw [] b38 qq oR_41 ckR_41 kckR_41 kkR_41 sA sB saR_41 kstR_41 fiR_41 kfiR_41 oU_41 ckU_41 kckU_41 kkU_41 T102.heap n0 z102 f102_F_read_b38 f102_F_unread_b38 f102_E_oR_41 f102_F_chunks_oR_41 f102_F_chunkCount_oR_41 f102_A_ckR_41 p102_1 p102_2 p102_4 f102_F_firsts_oR_41 p102_3 f102_E_oU_41 f102_F_chunks_oU_41 f102_A_ckU_41 f102_E_kkU_41 f102_F_size_kkU_41 ht1 ht2) hZ (hU 60 _ rfl) (hU 5 _ rfl) (by decide) (by decide)) q136a q136c (g := (mkF m 349 #[iv p0, iv p1, iv p2, iv p3, iv p4, iv p5, own_l (p0.toInt64), .second, own_l eL1, .second, own_l sL2, .second, own_l eL2, .second, own_l qL, .second, iv sA, iv eA, iv sB, iv eB, iv qq, iv (2 : Int32), iv (1 : Int32), iv (1 : Int32), rv b38, rv iv_, iv (-1 : Int32)] [(.int qq), (.ref b38), (.ref b38)])) rfl (by rw [hml]; rfl) (Steps.refl _) (argsL := [(.int qq)]) (rest := [(.ref b38)]) (lenOf pd_5 rfl) rfl (Nat.le_of_eq rfl) (hb hby at_349) (fun _ _ => ⟨rfl, rfl, (by decide : 13 + 0 ≤ _), (by decide : 1046 + 0 ≤ _)⟩)
                  dsimp only [Pt.U, Pt.locs, Pt.cells, Pt.slots] at X136 l136 y136 z136 st136 hQ136
                  subst l136 y136 z136
                  obtain ⟨rfl, N136q, p136_0⟩ := hQ136
                  have N136 := Fr.app N102 N136q
                  have R137 := fun t k => R135 t (st136.trans k)
                  have R138 : ∀ t, own_S p e below T136 (mkF m 354 #[iv p0, iv p1, iv p2, iv p3, iv p4, iv p5, own_l (p0.toInt64), .second, own_l eL1, .second, own_l sL2, .second, own_l eL2, .second, own_l qL, .second, iv sA, iv eA, iv sB, iv eB, iv qq, iv (2 : Int32), iv (1 : Int32), iv (1 : Int32), rv b38, rv iv_, iv (-1 : Int32)] [(.int qq), (.long (258 : Int64)), (.ref b38)]) t → own_S p e below s₁ f0 t := fun t k => R137 t (by
                    refine XS.iload X136.here hx rfl (hb hby at_352) rfl  ?_
                    exact k)
                  obtain ⟨cq139, kq139, q139a, q139b, q139c⟩ := isOf hZ p136_0 f102_E_b38
                  obtain ⟨_, _, ⟨T139, L139, k139, n139⟩, -, X139, ⟨Lc139, hQ139, l139, y139, z139⟩, st139⟩ := X136.virtualBack hx (y := (⟨sN2, "containing", "(JI)I"⟩ : MethodName)) (z := (⟨sN2, "containing", "(JI)I"⟩ : MethodName)) hown (mvT hZ (hU 119 _ rfl)) (mvT hZ (hU 120 _ rfl)) (notFace_of_selects (args := #[]) (mvT hZ (hU 122 _ rfl))) (mvT hZ (hU 122 _ rfl)) (mvT hZ (hU 121 _ rfl)) (by decide) (backOf (W := 0) (rmCt2_2 l Z a0 hw [] b38 qq oR_41 ckR_41 kckR_41 kkR_41 saR_41 kstR_41 enR_41 kenR_41 sA sB eA eB T102.heap n0 z102 f102_F_read_b38 f102_F_chunks_oR_41 f102_A_ckR_41 p102_2 p102_5 p102_4 p102_7) hZ (hU 123 _ rfl) (hU 5 _ rfl) (by decide) (by decide)) q139a q139c (g := (mkF m 354 #[iv p0, iv p1, iv p2, iv p3, iv p4, iv p5, own_l (p0.toInt64), .second, own_l eL1, .second, own_l sL2, .second, own_l eL2, .second, own_l qL, .second, iv sA, iv eA, iv sB, iv eB, iv qq, iv (2 : Int32), iv (1 : Int32), iv (1 : Int32), rv b38, rv iv_, iv (-1 : Int32)] [(.int qq), (.long (258 : Int64)), (.ref b38)])) rfl (by rw [hml]; rfl) (Steps.refl _) (argsL := [(.long (258 : Int64)), (.int qq)]) (rest := []) (lenOf pd_17 rfl) rfl (Nat.le_of_eq rfl) (hb hby at_354) (fun _ _ => ⟨rfl, p136_0, (by decide : 13 + 0 ≤ _), (by decide : 1046 + 0 ≤ _)⟩)
                  dsimp only [Pt.U, Pt.locs, Pt.cells, Pt.slots] at X139 l139 y139 z139 st139 hQ139
                  subst l139 y139 z139
                  obtain ⟨rfl, N139q, p139_0⟩ := hQ139
                  have N139 := Fr.app N136 N139q
                  have R140 := fun t k => R138 t (st139.trans k)
                  have R141 : ∀ t, own_S p e below T139 (mkF m 367 #[iv p0, iv p1, iv p2, iv p3, iv p4, iv p5, own_l (p0.toInt64), .second, own_l eL1, .second, own_l sL2, .second, own_l eL2, .second, own_l qL, .second, iv sA, iv eA, iv sB, iv eB, iv qq, iv (2 : Int32), iv (1 : Int32), iv (1 : Int32), rv b38, rv iv_, iv (-1 : Int32)] [(.int (1 : Int32))]) t → own_S p e below s₁ f0 t := fun t k => R140 t (by
                    refine XS.iload X139.here hx rfl (hb hby at_357) rfl  ?_
                    refine XS.icmpNo X139.here hx rfl (hb hby at_359) rfl (teq (by simp [own_ct, hb336] : (own_ct qq eB sB) = (-1 : Int32))).2 ?_
                    refine XS.iconst X139.here hx rfl (hb hby at_362) ?_
                    refine XS.goto X139.here hx rfl (pc0 := 363) (pc' := 367) rfl (hb hby at_363) (by decide) (by decide) ?_
                    exact k)
                  obtain ⟨fs, hr, hrun, hended, hW, hsame⟩ := X139.leave (v := some (.int (1 : Int32))) (fun h => by rw [Bd.returns] at h; cases h)
                  refine ⟨_, _, pre0 _ (R141 _ ?_), hrun, hended, _, _, rfl, ?_, ⟨_, rfl⟩, hW, hsame.mono (by decide) (by decide)⟩
                  · show own_S p e below T139 (mkF m 367 #[iv p0, iv p1, iv p2, iv p3, iv p4, iv p5, own_l (p0.toInt64), .second, own_l eL1, .second, own_l sL2, .second, own_l eL2, .second, own_l qL, .second, iv sA, iv eA, iv sB, iv eB, iv qq, iv (2 : Int32), iv (1 : Int32), iv (1 : Int32), rv b38, rv iv_, iv (-1 : Int32)] [(.int (1 : Int32))]) _
                    exact retN X139 hx (t := .boolean) Bd.returns (by simp) (hb hby at_367) hr
                  · show Q_rmLaw Z p0 p1 p2 p3 p4 p5 ca kca vsc iv_ h0 n0 _ T139.heap _
                    rw [p139_0]
                    exact ⟨rfl, N139⟩
            · skip
              have R142 : ∀ t, own_S p e below T44 (mkF m 200 #[iv p0, iv p1, iv p2, iv p3, iv p4, iv p5, own_l (p0.toInt64), .second, own_l eL1, .second, own_l sL2, .second, own_l eL2, .second, own_l qL, .second, iv sA, iv eA, iv sB, iv eB, iv qq, iv (3 : Int32), iv (own_b (¬ (3 : Int32) = 0)), iv (own_b (¬ (3 : Int32) < 2)), rv b38, rv iv_, .unset] []) t → own_S p e below s₁ f0 t := by have q := R46; rw [(hm : md = (3 : Int32))] at q; exact q
              have R143 : ∀ t, own_S p e below T44 (mkF m 200 #[iv p0, iv p1, iv p2, iv p3, iv p4, iv p5, own_l (p0.toInt64), .second, own_l eL1, .second, own_l sL2, .second, own_l eL2, .second, own_l qL, .second, iv sA, iv eA, iv sB, iv eB, iv qq, iv (3 : Int32), iv (1 : Int32), iv (own_b (¬ (3 : Int32) < 2)), rv b38, rv iv_, .unset] []) t → own_S p e below s₁ f0 t := by have q := R142; rw [((by decide) : (own_b (¬ (3 : Int32) = 0)) = (1 : Int32))] at q; exact q
              have R144 : ∀ t, own_S p e below T44 (mkF m 200 #[iv p0, iv p1, iv p2, iv p3, iv p4, iv p5, own_l (p0.toInt64), .second, own_l eL1, .second, own_l sL2, .second, own_l eL2, .second, own_l qL, .second, iv sA, iv eA, iv sB, iv eB, iv qq, iv (3 : Int32), iv (1 : Int32), iv (1 : Int32), rv b38, rv iv_, .unset] []) t → own_S p e below s₁ f0 t := by have q := R143; rw [((by decide) : (own_b (¬ (3 : Int32) < 2)) = (1 : Int32))] at q; exact q
              have R145 : ∀ t, own_S p e below T44 (mkF m 212 #[iv p0, iv p1, iv p2, iv p3, iv p4, iv p5, own_l (p0.toInt64), .second, own_l eL1, .second, own_l sL2, .second, own_l eL2, .second, own_l qL, .second, iv sA, iv eA, iv sB, iv eB, iv qq, iv (3 : Int32), iv (1 : Int32), iv (1 : Int32), rv b38, rv iv_, .unset] [(.int sB), (.ref b38), (.ref b38)]) t → own_S p e below s₁ f0 t := fun t k => R144 t (by
                refine XS.iload X44.here hx rfl (hb hby at_200) rfl  ?_
                refine XS.iconst X44.here hx rfl (hb hby at_202) ?_
                refine XS.icmpNo X44.here hx rfl (hb hby at_203) rfl (teq (by decide : (3 : Int32) = (3 : Int32))).2 ?_
                refine XS.aload X44.here hx rfl (hb hby at_206) rfl rfl ?_
                refine XS.aload X44.here hx rfl (hb hby at_208) rfl rfl ?_
                refine XS.iload X44.here hx rfl (hb hby at_210) rfl  ?_
                exact k)
              obtain ⟨cq146, kq146, q146a, q146b, q146c⟩ := isOf hZ p44_0 f41_E_b38
              obtain ⟨_, _, ⟨T146, L146, k146, n146⟩, -, X146, ⟨Lc146, hQ146, l146, y146, z146⟩, st146⟩ := X44.virtualBack hx (y := (⟨sN2, "find", "(I)J"⟩ : MethodName)) (z := (⟨sN2, "find", "(I)J"⟩ : MethodName)) hown (mvT hZ (hU 56 _ rfl)) (mvT hZ (hU 57 _ rfl)) (notFace_of_selects (args := #[]) (mvT hZ (hU 59 _ rfl))) (mvT hZ (hU 59 _ rfl)) (mvT hZ (hU 58 _ rfl)) (by decide) (backOf (W := 1) (rmFf0_0 l Z a0 hw [] b38 sB oR_41 ckR_41 kckR_41 kkR_41 oU_41 ckU_41 kckU_41 kkU_41 T41.heap n0 z41 p41_1 p41_2 p41_3 p41_4 p41_5 p41_8 p41_10 p41_18 p41_19 p41_20 p41_21 p41_22) hZ (hU 60 _ rfl) (hU 5 _ rfl) (by decide) (by decide)) q146a q146c (g := (mkF m 212 #[iv p0, iv p1, iv p2, iv p3, iv p4, iv p5, own_l (p0.toInt64), .second, own_l eL1, .second, own_l sL2, .second, own_l eL2, .second, own_l qL, .second, iv sA, iv eA, iv sB, iv eB, iv qq, iv (3 : Int32), iv (1 : Int32), iv (1 : Int32), rv b38, rv iv_, .unset] [(.int sB), (.ref b38), (.ref b38)])) rfl (by rw [hml]; rfl) (Steps.refl _) (argsL := [(.int sB)]) (rest := [(.ref b38)]) (lenOf pd_5 rfl) rfl (Nat.le_of_eq rfl) (hb hby at_212) (fun _ _ => ⟨rfl, p44_0, (by decide : 13 + 0 ≤ _), (by decide : 1046 + 0 ≤ _)⟩)
              dsimp only [Pt.U, Pt.locs, Pt.cells, Pt.slots] at X146 l146 y146 z146 st146 hQ146
              subst l146 y146 z146
              obtain ⟨rfl, N146q, p146_0⟩ := hQ146
              have N146 := Fr.app N44 N146q
              have R147 := fun t k => R145 t (st146.trans k)
              have R148 : ∀ t, own_S p e below T146 (mkF m 221 #[iv p0, iv p1, iv p2, iv p3, iv p4, iv p5, own_l (p0.toInt64), .second, own_l eL1, .second, own_l sL2, .second, own_l eL2, .second, own_l qL, .second, iv sA, iv eA, iv sB, iv eB, iv qq, iv (3 : Int32), iv (1 : Int32), iv (1 : Int32), rv b38, rv iv_, .unset] [(.ref iv_), (.int eB), (.int sB), (.long (256 : Int64)), (.ref b38)]) t → own_S p e below s₁ f0 t := fun t k => R147 t (by
                refine XS.iload X146.here hx rfl (hb hby at_215) rfl  ?_
                refine XS.iload X146.here hx rfl (hb hby at_217) rfl  ?_
                refine XS.aload X146.here hx rfl (hb hby at_219) rfl rfl ?_
                exact k)
              obtain ⟨cq149, kq149, q149a, q149b, q149c⟩ := isOf hZ p146_0 f41_E_b38
              obtain ⟨_, _, ⟨T149, L149, k149, n149⟩, -, X149, ⟨Lc149, hQ149, l149, y149, z149⟩, st149⟩ := X146.virtualBack hx (y := (⟨sN2, "add", sN5⟩ : MethodName)) (z := (⟨sN2, "add", sN5⟩ : MethodName)) hown (mvT hZ (hU 73 _ rfl)) (mvT hZ (hU 74 _ rfl)) (notFace_of_selects (args := #[]) (mvT hZ (hU 76 _ rfl))) (mvT hZ (hU 76 _ rfl)) (mvT hZ (hU 75 _ rfl)) (by decide) (backOf (W := 0) (rmFadd0_0 l Z a0 hw [] b38 sB eB iv_ oR_41 ckR_41 kckR_41 kkR_41 fiR_41 kfiR_41 saR_41 kstR_41 enR_41 kenR_41 itR_41 kitR_41 (0 : Int32) oU_41 ckU_41 kckU_41 kkU_41 T41.heap n0 z41 p41_1 p41_2 p41_3 p41_4 p41_5 p41_6 p41_7 p41_8 p41_9 p41_10 p41_11 p41_12 p41_13 p41_14 p41_15 p41_16 p41_17 f41_E_iv_ g_fiR_41 g_ckR_41 g_saR_41 g_enR_41 g_itR_41 g_kkR_41 p41_34 p41_35 p41_36 p41_37 p41_38 p41_39 p41_40 p41_41 p41_42 p41_43 p41_23 p41_18 p41_19 p41_20 p41_21 p41_22 f41_E_b38 p41_44 p41_45 p41_46 p41_47 p41_48) hZ (hU 77 _ rfl) (hU 5 _ rfl) (by decide) (by decide)) q149a q149c (g := (mkF m 221 #[iv p0, iv p1, iv p2, iv p3, iv p4, iv p5, own_l (p0.toInt64), .second, own_l eL1, .second, own_l sL2, .second, own_l eL2, .second, own_l qL, .second, iv sA, iv eA, iv sB, iv eB, iv qq, iv (3 : Int32), iv (1 : Int32), iv (1 : Int32), rv b38, rv iv_, .unset] [(.ref iv_), (.int eB), (.int sB), (.long (256 : Int64)), (.ref b38)])) rfl (by rw [hml]; rfl) (Steps.refl _) (argsL := [(.long (256 : Int64)), (.int sB), (.int eB), (.ref iv_)]) (rest := []) (lenOf pd_13 rfl) rfl (Nat.le_of_eq rfl) (hb hby at_221) (fun _ _ => ⟨rfl, p146_0, (by decide : 13 + 0 ≤ _), (by decide : 1046 + 0 ≤ _)⟩)
              dsimp only [Pt.U, Pt.locs, Pt.cells, Pt.slots] at X149 l149 y149 z149 st149 hQ149
              subst l149 y149 z149
              obtain ⟨rfl, N149q, p149_0, p149_1, p149_2, p149_3, p149_4, p149_5, p149_6, p149_7, p149_8⟩ := hQ149
              have N149 := Fr.app N146 N149q
              have f149_S_Integer_IntegerCache_high := own_sta_keep f41_S_Integer_IntegerCache_high p149_0 (nsS p41_13.nostat (nsS p41_16.nostat (nsS p41_17.nostat (nsS p41_9.nostat (nsS p41_12.nostat ns0)))))
              have f149_S_Integer_IntegerCache_cache := own_sta_keep f41_S_Integer_IntegerCache_cache p149_0 (nsS p41_13.nostat (nsS p41_16.nostat (nsS p41_17.nostat (nsS p41_9.nostat (nsS p41_12.nostat ns0)))))
              have f149_A_ca := f41_A_ca.keep p149_0 (ninS ne_ca_saR_41 (ninS ne_ca_enR_41 (ninS ne_ca_itR_41 (ninS ne_ca_kkR_41 (ninS ne_ca_fiR_41 nin0)))))
              have f149_E_iv_ := f41_E_iv_.keep p149_0
              have f149_E_b38 := f41_E_b38.keep p149_0
              have f149_F_read_b38 := p41_1.keep p149_0 (ninS ne_b38_saR_41 (ninS ne_b38_enR_41 (ninS ne_b38_itR_41 (ninS ne_b38_kkR_41 (ninS ne_b38_fiR_41 nin0)))))
              have f149_F_unread_b38 := p41_2.keep p149_0 (ninS ne_b38_saR_41 (ninS ne_b38_enR_41 (ninS ne_b38_itR_41 (ninS ne_b38_kkR_41 (ninS ne_b38_fiR_41 nin0)))))
              have f149_E_oR_41 := p41_3.keep p149_0
              have f149_F_chunks_oR_41 := p41_4.keep p149_0 (ninS (Exa.neArv p41_3 p41_13 (hU 13 _ rfl)) (ninS (Exa.neArv p41_3 p41_16 (hU 13 _ rfl)) (ninS (Exa.neArv p41_3 p41_17 (hU 13 _ rfl)) (ninS (Exa.ne p41_3 p41_9 (by decide)) (ninS (Exa.neArv p41_3 p41_12 (hU 13 _ rfl)) nin0)))))
              have f149_F_chunkCount_oR_41 := p41_5.keep p149_0 (ninS (Exa.neArv p41_3 p41_13 (hU 13 _ rfl)) (ninS (Exa.neArv p41_3 p41_16 (hU 13 _ rfl)) (ninS (Exa.neArv p41_3 p41_17 (hU 13 _ rfl)) (ninS (Exa.ne p41_3 p41_9 (by decide)) (ninS (Exa.neArv p41_3 p41_12 (hU 13 _ rfl)) nin0)))))
              have f149_F_firsts_oR_41 := p41_6.keep p149_0 (ninS (Exa.neArv p41_3 p41_13 (hU 13 _ rfl)) (ninS (Exa.neArv p41_3 p41_16 (hU 13 _ rfl)) (ninS (Exa.neArv p41_3 p41_17 (hU 13 _ rfl)) (ninS (Exa.ne p41_3 p41_9 (by decide)) (ninS (Exa.neArv p41_3 p41_12 (hU 13 _ rfl)) nin0)))))
              have f149_F_withItems_oR_41 := p41_7.keep p149_0 (ninS (Exa.neArv p41_3 p41_13 (hU 13 _ rfl)) (ninS (Exa.neArv p41_3 p41_16 (hU 13 _ rfl)) (ninS (Exa.neArv p41_3 p41_17 (hU 13 _ rfl)) (ninS (Exa.ne p41_3 p41_9 (by decide)) (ninS (Exa.neArv p41_3 p41_12 (hU 13 _ rfl)) nin0)))))
              have f149_A_ckR_41 := p41_8.keep p149_0 (ninS p41_38 (ninS p41_39 (ninS p41_40 (ninS (Ne.symm (Exa.neArv p41_9 p41_8 (hU 28 _ rfl))) (ninS (Ne.symm p41_34) nin0)))))
              have f149_E_kkR_41 := p41_9.keep p149_0
              have f149_E_oU_41 := p41_18.keep p149_0
              have f149_F_chunks_oU_41 := p41_19.keep p149_0 (ninS (Exa.neArv p41_18 p41_13 (hU 13 _ rfl)) (ninS (Exa.neArv p41_18 p41_16 (hU 13 _ rfl)) (ninS (Exa.neArv p41_18 p41_17 (hU 13 _ rfl)) (ninS (Exa.ne p41_18 p41_9 (by decide)) (ninS (Exa.neArv p41_18 p41_12 (hU 13 _ rfl)) nin0)))))
              have f149_A_ckU_41 := p41_20.keep p149_0 (ninS p41_44 (ninS p41_45 (ninS p41_46 (ninS (Ne.symm (Exa.neArv p41_9 p41_20 (hU 28 _ rfl))) (ninS p41_47 nin0)))))
              have f149_E_kkU_41 := p41_21.keep p149_0
              have f149_F_size_kkU_41 := p41_22.keep p149_0 (ninS (Exa.neArv p41_21 p41_13 (hU 28 _ rfl)) (ninS (Exa.neArv p41_21 p41_16 (hU 28 _ rfl)) (ninS (Exa.neArv p41_21 p41_17 (hU 28 _ rfl)) (ninS p41_48 (ninS (Exa.neArv p41_21 p41_12 (hU 28 _ rfl)) nin0)))))
              have z149 : n0 ≤ T149.heap.size := Nat.le_trans z41 p149_0.1
              have K149 : Keep h0 T149.heap [] := K41.trans p149_0 (allS (Or.inr sz_saR_41) (allS (Or.inr sz_enR_41) (allS (Or.inr sz_itR_41) (allS (Or.inr sz_kkR_41) (allS (Or.inr sz_fiR_41) all0)))))
              have R150 := fun t k => R148 t (st149.trans k)
              have R151 : ∀ t, own_S p e below T149 (mkF m 230 #[iv p0, iv p1, iv p2, iv p3, iv p4, iv p5, own_l (p0.toInt64), .second, own_l eL1, .second, own_l sL2, .second, own_l eL2, .second, own_l qL, .second, iv sA, iv eA, iv sB, iv eB, iv qq, iv (3 : Int32), iv (1 : Int32), iv (1 : Int32), rv b38, rv iv_, .unset] [(.int sA), (.ref b38), (.ref b38)]) t → own_S p e below s₁ f0 t := fun t k => R150 t (by
                refine XS.aload X149.here hx rfl (hb hby at_224) rfl rfl ?_
                refine XS.aload X149.here hx rfl (hb hby at_226) rfl rfl ?_
                refine XS.iload X149.here hx rfl (hb hby at_228) rfl  ?_
                exact k)
              obtain ⟨cq152, kq152, q152a, q152b, q152c⟩ := isOf hZ rfl f149_E_b38
              obtain ⟨_, _, ⟨T152, L152, k152, n152⟩, -, X152, ⟨Lc152, hQ152, l152, y152, z152⟩, st152⟩ := X149.virtualBack hx (y := (⟨sN2, "find", "(I)J"⟩ : MethodName)) (z := (⟨sN2, "find", "(I)J"⟩ : MethodName)) hown (mvT hZ (hU 56 _ rfl)) (mvT hZ (hU 57 _ rfl)) (notFace_of_selects (args := #[]) (mvT hZ (hU 59 _ rfl))) (mvT hZ (hU 59 _ rfl)) (mvT hZ (hU 58 _ rfl)) (by decide) (backOf (W := 1) (rmFf1_0 l Z a0 hw [] b38 sA oR_41 ckR_41 kckR_41 kkR_41 sB saR_41 kstR_41 fiR_41 kfiR_41 oU_41 ckU_41 kckU_41 kkU_41 T149.heap n0 z149 f149_F_read_b38 f149_F_unread_b38 f149_E_oR_41 f149_F_chunks_oR_41 f149_F_chunkCount_oR_41 f149_A_ckR_41 p149_1 p149_2 p149_4 f149_F_firsts_oR_41 p149_3 f149_E_oU_41 f149_F_chunks_oU_41 f149_A_ckU_41 f149_E_kkU_41 f149_F_size_kkU_41 hAB) hZ (hU 60 _ rfl) (hU 5 _ rfl) (by decide) (by decide)) q152a q152c (g := (mkF m 230 #[iv p0, iv p1, iv p2, iv p3, iv p4, iv p5, own_l (p0.toInt64), .second, own_l eL1, .second, own_l sL2, .second, own_l eL2, .second, own_l qL, .second, iv sA, iv eA, iv sB, iv eB, iv qq, iv (3 : Int32), iv (1 : Int32), iv (1 : Int32), rv b38, rv iv_, .unset] [(.int sA), (.ref b38), (.ref b38)])) rfl (by rw [hml]; rfl) (Steps.refl _) (argsL := [(.int sA)]) (rest := [(.ref b38)]) (lenOf pd_5 rfl) rfl (Nat.le_of_eq rfl) (hb hby at_230) (fun _ _ => ⟨rfl, rfl, (by decide : 13 + 0 ≤ _), (by decide : 1046 + 0 ≤ _)⟩)
              dsimp only [Pt.U, Pt.locs, Pt.cells, Pt.slots] at X152 l152 y152 z152 st152 hQ152
              subst l152 y152 z152
              obtain ⟨rfl, N152q, p152_0⟩ := hQ152
              have N152 := Fr.app N149 N152q
              have R153 := fun t k => R151 t (st152.trans k)
              have R154 : ∀ t, own_S p e below T152 (mkF m 239 #[iv p0, iv p1, iv p2, iv p3, iv p4, iv p5, own_l (p0.toInt64), .second, own_l eL1, .second, own_l sL2, .second, own_l eL2, .second, own_l qL, .second, iv sA, iv eA, iv sB, iv eB, iv qq, iv (3 : Int32), iv (1 : Int32), iv (1 : Int32), rv b38, rv iv_, .unset] [(.ref iv_), (.int eA), (.int sA), (.long (256 : Int64)), (.ref b38)]) t → own_S p e below s₁ f0 t := fun t k => R153 t (by
                refine XS.iload X152.here hx rfl (hb hby at_233) rfl  ?_
                refine XS.iload X152.here hx rfl (hb hby at_235) rfl  ?_
                refine XS.aload X152.here hx rfl (hb hby at_237) rfl rfl ?_
                exact k)
              obtain ⟨cq155, kq155, q155a, q155b, q155c⟩ := isOf hZ p152_0 f149_E_b38
              obtain ⟨_, _, ⟨T155, L155, k155, n155⟩, -, X155, ⟨Lc155, hQ155, l155, y155, z155⟩, st155⟩ := X152.virtualBack hx (y := (⟨sN2, "add", sN5⟩ : MethodName)) (z := (⟨sN2, "add", sN5⟩ : MethodName)) hown (mvT hZ (hU 73 _ rfl)) (mvT hZ (hU 74 _ rfl)) (notFace_of_selects (args := #[]) (mvT hZ (hU 76 _ rfl))) (mvT hZ (hU 76 _ rfl)) (mvT hZ (hU 75 _ rfl)) (by decide) (backOf (W := 0) (rmFadd1_0 l Z a0 hw [] b38 sA eA iv_ oR_41 ckR_41 kckR_41 kkR_41 fiR_41 kfiR_41 saR_41 kstR_41 enR_41 kenR_41 itR_41 kitR_41 sB eB iv_ oU_41 ckU_41 kckU_41 kkU_41 T149.heap n0 z149 f149_F_read_b38 f149_F_unread_b38 f149_E_oR_41 f149_F_chunks_oR_41 f149_F_chunkCount_oR_41 f149_F_firsts_oR_41 f149_F_withItems_oR_41 f149_A_ckR_41 f149_E_kkR_41 p149_1 p149_2 p149_3 p149_4 p149_5 p149_6 p149_7 p149_8 f149_E_iv_ f149_E_iv_ g_fiR_41 g_ckR_41 g_saR_41 g_enR_41 g_itR_41 g_kkR_41 p41_34 p41_35 p41_36 p41_37 p41_38 p41_39 p41_40 p41_41 p41_42 p41_43 p41_23 f149_E_oU_41 f149_F_chunks_oU_41 f149_A_ckU_41 f149_E_kkU_41 f149_F_size_kkU_41 f149_E_b38 p41_44 p41_45 p41_46 p41_47 p41_48 hAB) hZ (hU 77 _ rfl) (hU 5 _ rfl) (by decide) (by decide)) q155a q155c (g := (mkF m 239 #[iv p0, iv p1, iv p2, iv p3, iv p4, iv p5, own_l (p0.toInt64), .second, own_l eL1, .second, own_l sL2, .second, own_l eL2, .second, own_l qL, .second, iv sA, iv eA, iv sB, iv eB, iv qq, iv (3 : Int32), iv (1 : Int32), iv (1 : Int32), rv b38, rv iv_, .unset] [(.ref iv_), (.int eA), (.int sA), (.long (256 : Int64)), (.ref b38)])) rfl (by rw [hml]; rfl) (Steps.refl _) (argsL := [(.long (256 : Int64)), (.int sA), (.int eA), (.ref iv_)]) (rest := []) (lenOf pd_13 rfl) rfl (Nat.le_of_eq rfl) (hb hby at_239) (fun _ _ => ⟨rfl, p152_0, (by decide : 13 + 0 ≤ _), (by decide : 1046 + 0 ≤ _)⟩)
              dsimp only [Pt.U, Pt.locs, Pt.cells, Pt.slots] at X155 l155 y155 z155 st155 hQ155
              subst l155 y155 z155
              obtain ⟨rfl, N155q, p155_0, p155_1, p155_2, p155_3, p155_4, p155_5, p155_6, p155_7, p155_8⟩ := hQ155
              have N155 := Fr.app N152 N155q
              have f155_S_Integer_IntegerCache_high := own_sta_keep f149_S_Integer_IntegerCache_high p155_0 (nsS p149_4.nostat (nsS p149_7.nostat (nsS p149_8.nostat (nsS f149_E_kkR_41.nostat (nsS p149_3.nostat ns0)))))
              have f155_S_Integer_IntegerCache_cache := own_sta_keep f149_S_Integer_IntegerCache_cache p155_0 (nsS p149_4.nostat (nsS p149_7.nostat (nsS p149_8.nostat (nsS f149_E_kkR_41.nostat (nsS p149_3.nostat ns0)))))
              have f155_A_ca := f149_A_ca.keep p155_0 (ninS ne_ca_saR_41 (ninS ne_ca_enR_41 (ninS ne_ca_itR_41 (ninS ne_ca_kkR_41 (ninS ne_ca_fiR_41 nin0)))))
              have f155_E_iv_ := f149_E_iv_.keep p155_0
              have f155_E_b38 := f149_E_b38.keep p155_0
              have f155_F_read_b38 := f149_F_read_b38.keep p155_0 (ninS ne_b38_saR_41 (ninS ne_b38_enR_41 (ninS ne_b38_itR_41 (ninS ne_b38_kkR_41 (ninS ne_b38_fiR_41 nin0)))))
              have f155_F_unread_b38 := f149_F_unread_b38.keep p155_0 (ninS ne_b38_saR_41 (ninS ne_b38_enR_41 (ninS ne_b38_itR_41 (ninS ne_b38_kkR_41 (ninS ne_b38_fiR_41 nin0)))))
              have f155_E_oR_41 := f149_E_oR_41.keep p155_0
              have f155_F_chunks_oR_41 := f149_F_chunks_oR_41.keep p155_0 (ninS (Exa.neArv f149_E_oR_41 p149_4 (hU 13 _ rfl)) (ninS (Exa.neArv f149_E_oR_41 p149_7 (hU 13 _ rfl)) (ninS (Exa.neArv f149_E_oR_41 p149_8 (hU 13 _ rfl)) (ninS (Exa.ne f149_E_oR_41 f149_E_kkR_41 (by decide)) (ninS (Exa.neArv f149_E_oR_41 p149_3 (hU 13 _ rfl)) nin0)))))
              have f155_F_chunkCount_oR_41 := f149_F_chunkCount_oR_41.keep p155_0 (ninS (Exa.neArv f149_E_oR_41 p149_4 (hU 13 _ rfl)) (ninS (Exa.neArv f149_E_oR_41 p149_7 (hU 13 _ rfl)) (ninS (Exa.neArv f149_E_oR_41 p149_8 (hU 13 _ rfl)) (ninS (Exa.ne f149_E_oR_41 f149_E_kkR_41 (by decide)) (ninS (Exa.neArv f149_E_oR_41 p149_3 (hU 13 _ rfl)) nin0)))))
              have f155_F_firsts_oR_41 := f149_F_firsts_oR_41.keep p155_0 (ninS (Exa.neArv f149_E_oR_41 p149_4 (hU 13 _ rfl)) (ninS (Exa.neArv f149_E_oR_41 p149_7 (hU 13 _ rfl)) (ninS (Exa.neArv f149_E_oR_41 p149_8 (hU 13 _ rfl)) (ninS (Exa.ne f149_E_oR_41 f149_E_kkR_41 (by decide)) (ninS (Exa.neArv f149_E_oR_41 p149_3 (hU 13 _ rfl)) nin0)))))
              have f155_F_withItems_oR_41 := f149_F_withItems_oR_41.keep p155_0 (ninS (Exa.neArv f149_E_oR_41 p149_4 (hU 13 _ rfl)) (ninS (Exa.neArv f149_E_oR_41 p149_7 (hU 13 _ rfl)) (ninS (Exa.neArv f149_E_oR_41 p149_8 (hU 13 _ rfl)) (ninS (Exa.ne f149_E_oR_41 f149_E_kkR_41 (by decide)) (ninS (Exa.neArv f149_E_oR_41 p149_3 (hU 13 _ rfl)) nin0)))))
              have f155_A_ckR_41 := f149_A_ckR_41.keep p155_0 (ninS p41_38 (ninS p41_39 (ninS p41_40 (ninS (Ne.symm (Exa.neArv f149_E_kkR_41 f149_A_ckR_41 (hU 28 _ rfl))) (ninS (Ne.symm p41_34) nin0)))))
              have f155_E_kkR_41 := f149_E_kkR_41.keep p155_0
              have f155_E_oU_41 := f149_E_oU_41.keep p155_0
              have f155_F_chunks_oU_41 := f149_F_chunks_oU_41.keep p155_0 (ninS (Exa.neArv f149_E_oU_41 p149_4 (hU 13 _ rfl)) (ninS (Exa.neArv f149_E_oU_41 p149_7 (hU 13 _ rfl)) (ninS (Exa.neArv f149_E_oU_41 p149_8 (hU 13 _ rfl)) (ninS (Exa.ne f149_E_oU_41 f149_E_kkR_41 (by decide)) (ninS (Exa.neArv f149_E_oU_41 p149_3 (hU 13 _ rfl)) nin0)))))
              have f155_A_ckU_41 := f149_A_ckU_41.keep p155_0 (ninS p41_44 (ninS p41_45 (ninS p41_46 (ninS (Ne.symm (Exa.neArv f149_E_kkR_41 f149_A_ckU_41 (hU 28 _ rfl))) (ninS p41_47 nin0)))))
              have f155_E_kkU_41 := f149_E_kkU_41.keep p155_0
              have f155_F_size_kkU_41 := f149_F_size_kkU_41.keep p155_0 (ninS (Exa.neArv f149_E_kkU_41 p149_4 (hU 28 _ rfl)) (ninS (Exa.neArv f149_E_kkU_41 p149_7 (hU 28 _ rfl)) (ninS (Exa.neArv f149_E_kkU_41 p149_8 (hU 28 _ rfl)) (ninS p41_48 (ninS (Exa.neArv f149_E_kkU_41 p149_3 (hU 28 _ rfl)) nin0)))))
              have z155 : n0 ≤ T155.heap.size := Nat.le_trans z149 p155_0.1
              have K155 : Keep h0 T155.heap [] := K149.trans p155_0 (allS (Or.inr sz_saR_41) (allS (Or.inr sz_enR_41) (allS (Or.inr sz_itR_41) (allS (Or.inr sz_kkR_41) (allS (Or.inr sz_fiR_41) all0)))))
              have R156 := fun t k => R154 t (st155.trans k)
              have R157 : ∀ t, own_S p e below T155 (mkF m 294 #[iv p0, iv p1, iv p2, iv p3, iv p4, iv p5, own_l (p0.toInt64), .second, own_l eL1, .second, own_l sL2, .second, own_l eL2, .second, own_l qL, .second, iv sA, iv eA, iv sB, iv eB, iv qq, iv (3 : Int32), iv (1 : Int32), iv (1 : Int32), rv b38, rv iv_, iv (-1 : Int32)] []) t → own_S p e below s₁ f0 t := fun t k => R156 t (by
                refine XS.goto X155.here hx rfl (pc0 := 242) (pc' := 291) rfl (hb hby at_242) (by decide) (by decide) ?_
                refine XS.iconst X155.here hx rfl (hb hby at_291) ?_
                refine XS.istore X155.here hx rfl (hb hby at_292) rfl (l' := #[iv p0, iv p1, iv p2, iv p3, iv p4, iv p5, own_l (p0.toInt64), .second, own_l eL1, .second, own_l sL2, .second, own_l eL2, .second, own_l qL, .second, iv sA, iv eA, iv sB, iv eB, iv qq, iv (3 : Int32), iv (1 : Int32), iv (1 : Int32), rv b38, rv iv_, iv (-1 : Int32)]) rfl ?_
                exact k)
              rcases own_tri2 (fun e => hA ⟨by rw [hm]; decide, e⟩) (fun e => hB ⟨by rw [hm]; decide, e⟩) hAB with ⟨ht1, ht2⟩ | ⟨ht1, ht2⟩ | ⟨ht1, ht2⟩
              · skip
                have R158 : ∀ t, own_S p e below T155 (mkF m 349 #[iv p0, iv p1, iv p2, iv p3, iv p4, iv p5, own_l (p0.toInt64), .second, own_l eL1, .second, own_l sL2, .second, own_l eL2, .second, own_l qL, .second, iv sA, iv eA, iv sB, iv eB, iv qq, iv (3 : Int32), iv (1 : Int32), iv (1 : Int32), rv b38, rv iv_, iv (-1 : Int32)] [(.int qq), (.ref b38), (.ref b38)]) t → own_S p e below s₁ f0 t := fun t k => R157 t (by
                  refine XS.iload X155.here hx rfl (hb hby at_294) rfl  ?_
                  refine XS.ifNo X155.here hx rfl (hb hby at_296) rfl ((if0 _ _).trans (feq (by decide : ¬ ((1 : Int32) = (0 : Int32)))).1) ?_
                  refine XS.iload X155.here hx rfl (hb hby at_299) rfl  ?_
                  refine XS.iload X155.here hx rfl (hb hby at_301) rfl  ?_
                  refine XS.icmpYes X155.here hx rfl (pc0 := 303) (pc' := 320) rfl (hb hby at_303) rfl (flt (own_asym ht1)).2.1 (by decide) (by decide) ?_
                  refine XS.iload X155.here hx rfl (hb hby at_320) rfl  ?_
                  show own_S p e below T155 (mkF m 322 #[iv p0, iv p1, iv p2, iv p3, iv p4, iv p5, own_l (p0.toInt64), .second, own_l eL1, .second, own_l sL2, .second, own_l eL2, .second, own_l qL, .second, iv sA, iv eA, iv sB, iv eB, iv qq, iv (3 : Int32), iv (1 : Int32), iv (1 : Int32), rv b38, rv iv_, iv (-1 : Int32)] [(.int (1 : Int32))]) _
                  refine XS.ifNo X155.here hx rfl (hb hby at_322) rfl ((if0 _ _).trans (feq (by decide : ¬ ((1 : Int32) = (0 : Int32)))).1) ?_
                  refine XS.iload X155.here hx rfl (hb hby at_325) rfl  ?_
                  refine XS.iload X155.here hx rfl (hb hby at_327) rfl  ?_
                  refine XS.icmpYes X155.here hx rfl (pc0 := 329) (pc' := 343) rfl (hb hby at_329) rfl (flt (own_asym ht2)).2.1 (by decide) (by decide) ?_
                  refine XS.aload X155.here hx rfl (hb hby at_343) rfl rfl ?_
                  refine XS.aload X155.here hx rfl (hb hby at_345) rfl rfl ?_
                  show own_S p e below T155 (mkF m 347 #[iv p0, iv p1, iv p2, iv p3, iv p4, iv p5, own_l (p0.toInt64), .second, own_l eL1, .second, own_l sL2, .second, own_l eL2, .second, own_l qL, .second, iv sA, iv eA, iv sB, iv eB, iv qq, iv (3 : Int32), iv (1 : Int32), iv (1 : Int32), rv b38, rv iv_, iv (-1 : Int32)] [(.ref b38), (.ref b38)]) _
                  refine XS.iload X155.here hx rfl (hb hby at_347) rfl  ?_
                  exact k)
                obtain ⟨cq159, kq159, q159a, q159b, q159c⟩ := isOf hZ rfl f155_E_b38
                obtain ⟨_, _, ⟨T159, L159, k159, n159⟩, -, X159, ⟨Lc159, hQ159, l159, y159, z159⟩, st159⟩ := X155.virtualBack hx (y := (⟨sN2, "find", "(I)J"⟩ : MethodName)) (z := (⟨sN2, "find", "(I)J"⟩ : MethodName)) hown (mvT hZ (hU 56 _ rfl)) (mvT hZ (hU 57 _ rfl)) (notFace_of_selects (args := #[]) (mvT hZ (hU 59 _ rfl))) (mvT hZ (hU 59 _ rfl)) (mvT hZ (hU 58 _ rfl)) (by decide) (backOf (W := 1) (rmFf2_0 l Z a0 hw [] b38 qq oR_41 ckR_41 kckR_41 kkR_41 sA sB saR_41 kstR_41 fiR_41 kfiR_41 oU_41 ckU_41 kckU_41 kkU_41 T155.heap n0 z155 f155_F_read_b38 f155_F_unread_b38 f155_E_oR_41 f155_F_chunks_oR_41 f155_F_chunkCount_oR_41 f155_A_ckR_41 p155_1 p155_2 p155_4 f155_F_firsts_oR_41 p155_3 f155_E_oU_41 f155_F_chunks_oU_41 f155_A_ckU_41 f155_E_kkU_41 f155_F_size_kkU_41 ht1 ht2) hZ (hU 60 _ rfl) (hU 5 _ rfl) (by decide) (by decide)) q159a q159c (g := (mkF m 349 #[iv p0, iv p1, iv p2, iv p3, iv p4, iv p5, own_l (p0.toInt64), .second, own_l eL1, .second, own_l sL2, .second, own_l eL2, .second, own_l qL, .second, iv sA, iv eA, iv sB, iv eB, iv qq, iv (3 : Int32), iv (1 : Int32), iv (1 : Int32), rv b38, rv iv_, iv (-1 : Int32)] [(.int qq), (.ref b38), (.ref b38)])) rfl (by rw [hml]; rfl) (Steps.refl _) (argsL := [(.int qq)]) (rest := [(.ref b38)]) (lenOf pd_5 rfl) rfl (Nat.le_of_eq rfl) (hb hby at_349) (fun _ _ => ⟨rfl, rfl, (by decide : 13 + 0 ≤ _), (by decide : 1046 + 0 ≤ _)⟩)
                dsimp only [Pt.U, Pt.locs, Pt.cells, Pt.slots] at X159 l159 y159 z159 st159 hQ159
                subst l159 y159 z159
                obtain ⟨rfl, N159q, p159_0⟩ := hQ159
                have N159 := Fr.app N155 N159q
                have R160 := fun t k => R158 t (st159.trans k)
                have R161 : ∀ t, own_S p e below T159 (mkF m 354 #[iv p0, iv p1, iv p2, iv p3, iv p4, iv p5, own_l (p0.toInt64), .second, own_l eL1, .second, own_l sL2, .second, own_l eL2, .second, own_l qL, .second, iv sA, iv eA, iv sB, iv eB, iv qq, iv (3 : Int32), iv (1 : Int32), iv (1 : Int32), rv b38, rv iv_, iv (-1 : Int32)] [(.int qq), (.long (256 : Int64)), (.ref b38)]) t → own_S p e below s₁ f0 t := fun t k => R160 t (by
                  refine XS.iload X159.here hx rfl (hb hby at_352) rfl  ?_
                  exact k)
                obtain ⟨cq162, kq162, q162a, q162b, q162c⟩ := isOf hZ p159_0 f155_E_b38
                obtain ⟨_, _, ⟨T162, L162, k162, n162⟩, -, X162, ⟨Lc162, hQ162, l162, y162, z162⟩, st162⟩ := X159.virtualBack hx (y := (⟨sN2, "containing", "(JI)I"⟩ : MethodName)) (z := (⟨sN2, "containing", "(JI)I"⟩ : MethodName)) hown (mvT hZ (hU 119 _ rfl)) (mvT hZ (hU 120 _ rfl)) (notFace_of_selects (args := #[]) (mvT hZ (hU 122 _ rfl))) (mvT hZ (hU 122 _ rfl)) (mvT hZ (hU 121 _ rfl)) (by decide) (backOf (W := 0) (rmCt2_0 l Z a0 hw [] b38 qq oR_41 T155.heap n0 z155 f155_F_read_b38) hZ (hU 123 _ rfl) (hU 5 _ rfl) (by decide) (by decide)) q162a q162c (g := (mkF m 354 #[iv p0, iv p1, iv p2, iv p3, iv p4, iv p5, own_l (p0.toInt64), .second, own_l eL1, .second, own_l sL2, .second, own_l eL2, .second, own_l qL, .second, iv sA, iv eA, iv sB, iv eB, iv qq, iv (3 : Int32), iv (1 : Int32), iv (1 : Int32), rv b38, rv iv_, iv (-1 : Int32)] [(.int qq), (.long (256 : Int64)), (.ref b38)])) rfl (by rw [hml]; rfl) (Steps.refl _) (argsL := [(.long (256 : Int64)), (.int qq)]) (rest := []) (lenOf pd_17 rfl) rfl (Nat.le_of_eq rfl) (hb hby at_354) (fun _ _ => ⟨rfl, p159_0, (by decide : 13 + 0 ≤ _), (by decide : 1046 + 0 ≤ _)⟩)
                dsimp only [Pt.U, Pt.locs, Pt.cells, Pt.slots] at X162 l162 y162 z162 st162 hQ162
                subst l162 y162 z162
                obtain ⟨rfl, N162q, p162_0⟩ := hQ162
                have N162 := Fr.app N159 N162q
                have R163 := fun t k => R161 t (st162.trans k)
                have R164 : ∀ t, own_S p e below T162 (mkF m 367 #[iv p0, iv p1, iv p2, iv p3, iv p4, iv p5, own_l (p0.toInt64), .second, own_l eL1, .second, own_l sL2, .second, own_l eL2, .second, own_l qL, .second, iv sA, iv eA, iv sB, iv eB, iv qq, iv (3 : Int32), iv (1 : Int32), iv (1 : Int32), rv b38, rv iv_, iv (-1 : Int32)] [(.int (1 : Int32))]) t → own_S p e below s₁ f0 t := fun t k => R163 t (by
                  refine XS.iload X162.here hx rfl (hb hby at_357) rfl  ?_
                  refine XS.icmpNo X162.here hx rfl (hb hby at_359) rfl (teq (by decide : (-1 : Int32) = (-1 : Int32))).2 ?_
                  refine XS.iconst X162.here hx rfl (hb hby at_362) ?_
                  refine XS.goto X162.here hx rfl (pc0 := 363) (pc' := 367) rfl (hb hby at_363) (by decide) (by decide) ?_
                  exact k)
                obtain ⟨fs, hr, hrun, hended, hW, hsame⟩ := X162.leave (v := some (.int (1 : Int32))) (fun h => by rw [Bd.returns] at h; cases h)
                refine ⟨_, _, pre0 _ (R164 _ ?_), hrun, hended, _, _, rfl, ?_, ⟨_, rfl⟩, hW, hsame.mono (by decide) (by decide)⟩
                · show own_S p e below T162 (mkF m 367 #[iv p0, iv p1, iv p2, iv p3, iv p4, iv p5, own_l (p0.toInt64), .second, own_l eL1, .second, own_l sL2, .second, own_l eL2, .second, own_l qL, .second, iv sA, iv eA, iv sB, iv eB, iv qq, iv (3 : Int32), iv (1 : Int32), iv (1 : Int32), rv b38, rv iv_, iv (-1 : Int32)] [(.int (1 : Int32))]) _
                  exact retN X162 hx (t := .boolean) Bd.returns (by simp) (hb hby at_367) hr
                · show Q_rmLaw Z p0 p1 p2 p3 p4 p5 ca kca vsc iv_ h0 n0 _ T162.heap _
                  rw [p162_0]
                  exact ⟨rfl, N162⟩
              · skip
                have R165 : ∀ t, own_S p e below T155 (mkF m 310 #[iv p0, iv p1, iv p2, iv p3, iv p4, iv p5, own_l (p0.toInt64), .second, own_l eL1, .second, own_l sL2, .second, own_l eL2, .second, own_l qL, .second, iv sA, iv eA, iv sB, iv eB, iv qq, iv (3 : Int32), iv (1 : Int32), iv (1 : Int32), rv b38, rv iv_, iv (-1 : Int32)] [(.int eA), (.int qq)]) t → own_S p e below s₁ f0 t := fun t k => R157 t (by
                  refine XS.iload X155.here hx rfl (hb hby at_294) rfl  ?_
                  refine XS.ifNo X155.here hx rfl (hb hby at_296) rfl ((if0 _ _).trans (feq (by decide : ¬ ((1 : Int32) = (0 : Int32)))).1) ?_
                  refine XS.iload X155.here hx rfl (hb hby at_299) rfl  ?_
                  refine XS.iload X155.here hx rfl (hb hby at_301) rfl  ?_
                  refine XS.icmpNo X155.here hx rfl (hb hby at_303) rfl (tlt ht1).2.1 ?_
                  refine XS.iload X155.here hx rfl (hb hby at_306) rfl  ?_
                  show own_S p e below T155 (mkF m 308 #[iv p0, iv p1, iv p2, iv p3, iv p4, iv p5, own_l (p0.toInt64), .second, own_l eL1, .second, own_l sL2, .second, own_l eL2, .second, own_l qL, .second, iv sA, iv eA, iv sB, iv eB, iv qq, iv (3 : Int32), iv (1 : Int32), iv (1 : Int32), rv b38, rv iv_, iv (-1 : Int32)] [(.int qq)]) _
                  refine XS.iload X155.here hx rfl (hb hby at_308) rfl  ?_
                  exact k)
                by_cases hb310 : qq < eA
                · skip
                  have R166 : ∀ t, own_S p e below T155 (mkF m 349 #[iv p0, iv p1, iv p2, iv p3, iv p4, iv p5, own_l (p0.toInt64), .second, own_l eL1, .second, own_l sL2, .second, own_l eL2, .second, own_l qL, .second, iv sA, iv eA, iv sB, iv eB, iv qq, iv (3 : Int32), iv (1 : Int32), iv (1 : Int32), rv b38, rv iv_, iv sA] [(.int qq), (.ref b38), (.ref b38)]) t → own_S p e below s₁ f0 t := fun t k => R165 t (by
                    refine XS.icmpNo X155.here hx rfl (hb hby at_310) rfl (tlt hb310).2.1 ?_
                    refine XS.iload X155.here hx rfl (hb hby at_313) rfl  ?_
                    refine XS.istore X155.here hx rfl (hb hby at_315) rfl (l' := #[iv p0, iv p1, iv p2, iv p3, iv p4, iv p5, own_l (p0.toInt64), .second, own_l eL1, .second, own_l sL2, .second, own_l eL2, .second, own_l qL, .second, iv sA, iv eA, iv sB, iv eB, iv qq, iv (3 : Int32), iv (1 : Int32), iv (1 : Int32), rv b38, rv iv_, iv sA]) rfl ?_
                    refine XS.goto X155.here hx rfl (pc0 := 317) (pc' := 343) rfl (hb hby at_317) (by decide) (by decide) ?_
                    refine XS.aload X155.here hx rfl (hb hby at_343) rfl rfl ?_
                    refine XS.aload X155.here hx rfl (hb hby at_345) rfl rfl ?_
                    show own_S p e below T155 (mkF m 347 #[iv p0, iv p1, iv p2, iv p3, iv p4, iv p5, own_l (p0.toInt64), .second, own_l eL1, .second, own_l sL2, .second, own_l eL2, .second, own_l qL, .second, iv sA, iv eA, iv sB, iv eB, iv qq, iv (3 : Int32), iv (1 : Int32), iv (1 : Int32), rv b38, rv iv_, iv sA] [(.ref b38), (.ref b38)]) _
                    refine XS.iload X155.here hx rfl (hb hby at_347) rfl  ?_
                    exact k)
                  obtain ⟨cq167, kq167, q167a, q167b, q167c⟩ := isOf hZ rfl f155_E_b38
                  obtain ⟨_, _, ⟨T167, L167, k167, n167⟩, -, X167, ⟨Lc167, hQ167, l167, y167, z167⟩, st167⟩ := X155.virtualBack hx (y := (⟨sN2, "find", "(I)J"⟩ : MethodName)) (z := (⟨sN2, "find", "(I)J"⟩ : MethodName)) hown (mvT hZ (hU 56 _ rfl)) (mvT hZ (hU 57 _ rfl)) (notFace_of_selects (args := #[]) (mvT hZ (hU 59 _ rfl))) (mvT hZ (hU 59 _ rfl)) (mvT hZ (hU 58 _ rfl)) (by decide) (backOf (W := 1) (rmFf2_1 l Z a0 hw [] b38 qq oR_41 ckR_41 kckR_41 kkR_41 sA sB saR_41 kstR_41 fiR_41 kfiR_41 oU_41 ckU_41 kckU_41 kkU_41 T155.heap n0 z155 f155_F_read_b38 f155_F_unread_b38 f155_E_oR_41 f155_F_chunks_oR_41 f155_F_chunkCount_oR_41 f155_A_ckR_41 p155_1 p155_2 p155_4 f155_F_firsts_oR_41 p155_3 f155_E_oU_41 f155_F_chunks_oU_41 f155_A_ckU_41 f155_E_kkU_41 f155_F_size_kkU_41 ht1 ht2) hZ (hU 60 _ rfl) (hU 5 _ rfl) (by decide) (by decide)) q167a q167c (g := (mkF m 349 #[iv p0, iv p1, iv p2, iv p3, iv p4, iv p5, own_l (p0.toInt64), .second, own_l eL1, .second, own_l sL2, .second, own_l eL2, .second, own_l qL, .second, iv sA, iv eA, iv sB, iv eB, iv qq, iv (3 : Int32), iv (1 : Int32), iv (1 : Int32), rv b38, rv iv_, iv sA] [(.int qq), (.ref b38), (.ref b38)])) rfl (by rw [hml]; rfl) (Steps.refl _) (argsL := [(.int qq)]) (rest := [(.ref b38)]) (lenOf pd_5 rfl) rfl (Nat.le_of_eq rfl) (hb hby at_349) (fun _ _ => ⟨rfl, rfl, (by decide : 13 + 0 ≤ _), (by decide : 1046 + 0 ≤ _)⟩)
                  dsimp only [Pt.U, Pt.locs, Pt.cells, Pt.slots] at X167 l167 y167 z167 st167 hQ167
                  subst l167 y167 z167
                  obtain ⟨rfl, N167q, p167_0⟩ := hQ167
                  have N167 := Fr.app N155 N167q
                  have R168 := fun t k => R166 t (st167.trans k)
                  have R169 : ∀ t, own_S p e below T167 (mkF m 354 #[iv p0, iv p1, iv p2, iv p3, iv p4, iv p5, own_l (p0.toInt64), .second, own_l eL1, .second, own_l sL2, .second, own_l eL2, .second, own_l qL, .second, iv sA, iv eA, iv sB, iv eB, iv qq, iv (3 : Int32), iv (1 : Int32), iv (1 : Int32), rv b38, rv iv_, iv sA] [(.int qq), (.long (257 : Int64)), (.ref b38)]) t → own_S p e below s₁ f0 t := fun t k => R168 t (by
                    refine XS.iload X167.here hx rfl (hb hby at_352) rfl  ?_
                    exact k)
                  obtain ⟨cq170, kq170, q170a, q170b, q170c⟩ := isOf hZ p167_0 f155_E_b38
                  obtain ⟨_, _, ⟨T170, L170, k170, n170⟩, -, X170, ⟨Lc170, hQ170, l170, y170, z170⟩, st170⟩ := X167.virtualBack hx (y := (⟨sN2, "containing", "(JI)I"⟩ : MethodName)) (z := (⟨sN2, "containing", "(JI)I"⟩ : MethodName)) hown (mvT hZ (hU 119 _ rfl)) (mvT hZ (hU 120 _ rfl)) (notFace_of_selects (args := #[]) (mvT hZ (hU 122 _ rfl))) (mvT hZ (hU 122 _ rfl)) (mvT hZ (hU 121 _ rfl)) (by decide) (backOf (W := 0) (rmCt2_1 l Z a0 hw [] b38 qq oR_41 ckR_41 kckR_41 kkR_41 saR_41 kstR_41 enR_41 kenR_41 sA sB eA eB T155.heap n0 z155 f155_F_read_b38 f155_F_chunks_oR_41 f155_A_ckR_41 p155_2 p155_5 p155_4 p155_7) hZ (hU 123 _ rfl) (hU 5 _ rfl) (by decide) (by decide)) q170a q170c (g := (mkF m 354 #[iv p0, iv p1, iv p2, iv p3, iv p4, iv p5, own_l (p0.toInt64), .second, own_l eL1, .second, own_l sL2, .second, own_l eL2, .second, own_l qL, .second, iv sA, iv eA, iv sB, iv eB, iv qq, iv (3 : Int32), iv (1 : Int32), iv (1 : Int32), rv b38, rv iv_, iv sA] [(.int qq), (.long (257 : Int64)), (.ref b38)])) rfl (by rw [hml]; rfl) (Steps.refl _) (argsL := [(.long (257 : Int64)), (.int qq)]) (rest := []) (lenOf pd_17 rfl) rfl (Nat.le_of_eq rfl) (hb hby at_354) (fun _ _ => ⟨rfl, p167_0, (by decide : 13 + 0 ≤ _), (by decide : 1046 + 0 ≤ _)⟩)
                  dsimp only [Pt.U, Pt.locs, Pt.cells, Pt.slots] at X170 l170 y170 z170 st170 hQ170
                  subst l170 y170 z170
                  obtain ⟨rfl, N170q, p170_0⟩ := hQ170
                  have N170 := Fr.app N167 N170q
                  have R171 := fun t k => R169 t (st170.trans k)
                  have R172 : ∀ t, own_S p e below T170 (mkF m 367 #[iv p0, iv p1, iv p2, iv p3, iv p4, iv p5, own_l (p0.toInt64), .second, own_l eL1, .second, own_l sL2, .second, own_l eL2, .second, own_l qL, .second, iv sA, iv eA, iv sB, iv eB, iv qq, iv (3 : Int32), iv (1 : Int32), iv (1 : Int32), rv b38, rv iv_, iv sA] [(.int (1 : Int32))]) t → own_S p e below s₁ f0 t := fun t k => R171 t (by
                    refine XS.iload X170.here hx rfl (hb hby at_357) rfl  ?_
                    refine XS.icmpNo X170.here hx rfl (hb hby at_359) rfl (teq (by simp [own_ct, hb310] : (own_ct qq eA sA) = sA)).2 ?_
                    refine XS.iconst X170.here hx rfl (hb hby at_362) ?_
                    refine XS.goto X170.here hx rfl (pc0 := 363) (pc' := 367) rfl (hb hby at_363) (by decide) (by decide) ?_
                    exact k)
                  obtain ⟨fs, hr, hrun, hended, hW, hsame⟩ := X170.leave (v := some (.int (1 : Int32))) (fun h => by rw [Bd.returns] at h; cases h)
                  refine ⟨_, _, pre0 _ (R172 _ ?_), hrun, hended, _, _, rfl, ?_, ⟨_, rfl⟩, hW, hsame.mono (by decide) (by decide)⟩
                  · show own_S p e below T170 (mkF m 367 #[iv p0, iv p1, iv p2, iv p3, iv p4, iv p5, own_l (p0.toInt64), .second, own_l eL1, .second, own_l sL2, .second, own_l eL2, .second, own_l qL, .second, iv sA, iv eA, iv sB, iv eB, iv qq, iv (3 : Int32), iv (1 : Int32), iv (1 : Int32), rv b38, rv iv_, iv sA] [(.int (1 : Int32))]) _
                    exact retN X170 hx (t := .boolean) Bd.returns (by simp) (hb hby at_367) hr
                  · show Q_rmLaw Z p0 p1 p2 p3 p4 p5 ca kca vsc iv_ h0 n0 _ T170.heap _
                    rw [p170_0]
                    exact ⟨rfl, N170⟩
                · skip
                  have R173 : ∀ t, own_S p e below T155 (mkF m 349 #[iv p0, iv p1, iv p2, iv p3, iv p4, iv p5, own_l (p0.toInt64), .second, own_l eL1, .second, own_l sL2, .second, own_l eL2, .second, own_l qL, .second, iv sA, iv eA, iv sB, iv eB, iv qq, iv (3 : Int32), iv (1 : Int32), iv (1 : Int32), rv b38, rv iv_, iv (-1 : Int32)] [(.int qq), (.ref b38), (.ref b38)]) t → own_S p e below s₁ f0 t := fun t k => R165 t (by
                    refine XS.icmpYes X155.here hx rfl (pc0 := 310) (pc' := 320) rfl (hb hby at_310) rfl (flt hb310).2.1 (by decide) (by decide) ?_
                    refine XS.iload X155.here hx rfl (hb hby at_320) rfl  ?_
                    refine XS.ifNo X155.here hx rfl (hb hby at_322) rfl ((if0 _ _).trans (feq (by decide : ¬ ((1 : Int32) = (0 : Int32)))).1) ?_
                    refine XS.iload X155.here hx rfl (hb hby at_325) rfl  ?_
                    refine XS.iload X155.here hx rfl (hb hby at_327) rfl  ?_
                    refine XS.icmpYes X155.here hx rfl (pc0 := 329) (pc' := 343) rfl (hb hby at_329) rfl (flt (own_asym ht2)).2.1 (by decide) (by decide) ?_
                    show own_S p e below T155 (mkF m 343 #[iv p0, iv p1, iv p2, iv p3, iv p4, iv p5, own_l (p0.toInt64), .second, own_l eL1, .second, own_l sL2, .second, own_l eL2, .second, own_l qL, .second, iv sA, iv eA, iv sB, iv eB, iv qq, iv (3 : Int32), iv (1 : Int32), iv (1 : Int32), rv b38, rv iv_, iv (-1 : Int32)] []) _
                    refine XS.aload X155.here hx rfl (hb hby at_343) rfl rfl ?_
                    refine XS.aload X155.here hx rfl (hb hby at_345) rfl rfl ?_
                    refine XS.iload X155.here hx rfl (hb hby at_347) rfl  ?_
                    exact k)
                  obtain ⟨cq174, kq174, q174a, q174b, q174c⟩ := isOf hZ rfl f155_E_b38
                  obtain ⟨_, _, ⟨T174, L174, k174, n174⟩, -, X174, ⟨Lc174, hQ174, l174, y174, z174⟩, st174⟩ := X155.virtualBack hx (y := (⟨sN2, "find", "(I)J"⟩ : MethodName)) (z := (⟨sN2, "find", "(I)J"⟩ : MethodName)) hown (mvT hZ (hU 56 _ rfl)) (mvT hZ (hU 57 _ rfl)) (notFace_of_selects (args := #[]) (mvT hZ (hU 59 _ rfl))) (mvT hZ (hU 59 _ rfl)) (mvT hZ (hU 58 _ rfl)) (by decide) (backOf (W := 1) (rmFf2_1 l Z a0 hw [] b38 qq oR_41 ckR_41 kckR_41 kkR_41 sA sB saR_41 kstR_41 fiR_41 kfiR_41 oU_41 ckU_41 kckU_41 kkU_41 T155.heap n0 z155 f155_F_read_b38 f155_F_unread_b38 f155_E_oR_41 f155_F_chunks_oR_41 f155_F_chunkCount_oR_41 f155_A_ckR_41 p155_1 p155_2 p155_4 f155_F_firsts_oR_41 p155_3 f155_E_oU_41 f155_F_chunks_oU_41 f155_A_ckU_41 f155_E_kkU_41 f155_F_size_kkU_41 ht1 ht2) hZ (hU 60 _ rfl) (hU 5 _ rfl) (by decide) (by decide)) q174a q174c (g := (mkF m 349 #[iv p0, iv p1, iv p2, iv p3, iv p4, iv p5, own_l (p0.toInt64), .second, own_l eL1, .second, own_l sL2, .second, own_l eL2, .second, own_l qL, .second, iv sA, iv eA, iv sB, iv eB, iv qq, iv (3 : Int32), iv (1 : Int32), iv (1 : Int32), rv b38, rv iv_, iv (-1 : Int32)] [(.int qq), (.ref b38), (.ref b38)])) rfl (by rw [hml]; rfl) (Steps.refl _) (argsL := [(.int qq)]) (rest := [(.ref b38)]) (lenOf pd_5 rfl) rfl (Nat.le_of_eq rfl) (hb hby at_349) (fun _ _ => ⟨rfl, rfl, (by decide : 13 + 0 ≤ _), (by decide : 1046 + 0 ≤ _)⟩)
                  dsimp only [Pt.U, Pt.locs, Pt.cells, Pt.slots] at X174 l174 y174 z174 st174 hQ174
                  subst l174 y174 z174
                  obtain ⟨rfl, N174q, p174_0⟩ := hQ174
                  have N174 := Fr.app N155 N174q
                  have R175 := fun t k => R173 t (st174.trans k)
                  have R176 : ∀ t, own_S p e below T174 (mkF m 354 #[iv p0, iv p1, iv p2, iv p3, iv p4, iv p5, own_l (p0.toInt64), .second, own_l eL1, .second, own_l sL2, .second, own_l eL2, .second, own_l qL, .second, iv sA, iv eA, iv sB, iv eB, iv qq, iv (3 : Int32), iv (1 : Int32), iv (1 : Int32), rv b38, rv iv_, iv (-1 : Int32)] [(.int qq), (.long (257 : Int64)), (.ref b38)]) t → own_S p e below s₁ f0 t := fun t k => R175 t (by
                    refine XS.iload X174.here hx rfl (hb hby at_352) rfl  ?_
                    exact k)
                  obtain ⟨cq177, kq177, q177a, q177b, q177c⟩ := isOf hZ p174_0 f155_E_b38
                  obtain ⟨_, _, ⟨T177, L177, k177, n177⟩, -, X177, ⟨Lc177, hQ177, l177, y177, z177⟩, st177⟩ := X174.virtualBack hx (y := (⟨sN2, "containing", "(JI)I"⟩ : MethodName)) (z := (⟨sN2, "containing", "(JI)I"⟩ : MethodName)) hown (mvT hZ (hU 119 _ rfl)) (mvT hZ (hU 120 _ rfl)) (notFace_of_selects (args := #[]) (mvT hZ (hU 122 _ rfl))) (mvT hZ (hU 122 _ rfl)) (mvT hZ (hU 121 _ rfl)) (by decide) (backOf (W := 0) (rmCt2_1 l Z a0 hw [] b38 qq oR_41 ckR_41 kckR_41 kkR_41 saR_41 kstR_41 enR_41 kenR_41 sA sB eA eB T155.heap n0 z155 f155_F_read_b38 f155_F_chunks_oR_41 f155_A_ckR_41 p155_2 p155_5 p155_4 p155_7) hZ (hU 123 _ rfl) (hU 5 _ rfl) (by decide) (by decide)) q177a q177c (g := (mkF m 354 #[iv p0, iv p1, iv p2, iv p3, iv p4, iv p5, own_l (p0.toInt64), .second, own_l eL1, .second, own_l sL2, .second, own_l eL2, .second, own_l qL, .second, iv sA, iv eA, iv sB, iv eB, iv qq, iv (3 : Int32), iv (1 : Int32), iv (1 : Int32), rv b38, rv iv_, iv (-1 : Int32)] [(.int qq), (.long (257 : Int64)), (.ref b38)])) rfl (by rw [hml]; rfl) (Steps.refl _) (argsL := [(.long (257 : Int64)), (.int qq)]) (rest := []) (lenOf pd_17 rfl) rfl (Nat.le_of_eq rfl) (hb hby at_354) (fun _ _ => ⟨rfl, p174_0, (by decide : 13 + 0 ≤ _), (by decide : 1046 + 0 ≤ _)⟩)
                  dsimp only [Pt.U, Pt.locs, Pt.cells, Pt.slots] at X177 l177 y177 z177 st177 hQ177
                  subst l177 y177 z177
                  obtain ⟨rfl, N177q, p177_0⟩ := hQ177
                  have N177 := Fr.app N174 N177q
                  have R178 := fun t k => R176 t (st177.trans k)
                  have R179 : ∀ t, own_S p e below T177 (mkF m 367 #[iv p0, iv p1, iv p2, iv p3, iv p4, iv p5, own_l (p0.toInt64), .second, own_l eL1, .second, own_l sL2, .second, own_l eL2, .second, own_l qL, .second, iv sA, iv eA, iv sB, iv eB, iv qq, iv (3 : Int32), iv (1 : Int32), iv (1 : Int32), rv b38, rv iv_, iv (-1 : Int32)] [(.int (1 : Int32))]) t → own_S p e below s₁ f0 t := fun t k => R178 t (by
                    refine XS.iload X177.here hx rfl (hb hby at_357) rfl  ?_
                    refine XS.icmpNo X177.here hx rfl (hb hby at_359) rfl (teq (by simp [own_ct, hb310] : (own_ct qq eA sA) = (-1 : Int32))).2 ?_
                    refine XS.iconst X177.here hx rfl (hb hby at_362) ?_
                    refine XS.goto X177.here hx rfl (pc0 := 363) (pc' := 367) rfl (hb hby at_363) (by decide) (by decide) ?_
                    exact k)
                  obtain ⟨fs, hr, hrun, hended, hW, hsame⟩ := X177.leave (v := some (.int (1 : Int32))) (fun h => by rw [Bd.returns] at h; cases h)
                  refine ⟨_, _, pre0 _ (R179 _ ?_), hrun, hended, _, _, rfl, ?_, ⟨_, rfl⟩, hW, hsame.mono (by decide) (by decide)⟩
                  · show own_S p e below T177 (mkF m 367 #[iv p0, iv p1, iv p2, iv p3, iv p4, iv p5, own_l (p0.toInt64), .second, own_l eL1, .second, own_l sL2, .second, own_l eL2, .second, own_l qL, .second, iv sA, iv eA, iv sB, iv eB, iv qq, iv (3 : Int32), iv (1 : Int32), iv (1 : Int32), rv b38, rv iv_, iv (-1 : Int32)] [(.int (1 : Int32))]) _
                    exact retN X177 hx (t := .boolean) Bd.returns (by simp) (hb hby at_367) hr
                  · show Q_rmLaw Z p0 p1 p2 p3 p4 p5 ca kca vsc iv_ h0 n0 _ T177.heap _
                    rw [p177_0]
                    exact ⟨rfl, N177⟩
              · skip
                have R180 : ∀ t, own_S p e below T155 (mkF m 336 #[iv p0, iv p1, iv p2, iv p3, iv p4, iv p5, own_l (p0.toInt64), .second, own_l eL1, .second, own_l sL2, .second, own_l eL2, .second, own_l qL, .second, iv sA, iv eA, iv sB, iv eB, iv qq, iv (3 : Int32), iv (1 : Int32), iv (1 : Int32), rv b38, rv iv_, iv (-1 : Int32)] [(.int eB), (.int qq)]) t → own_S p e below s₁ f0 t := fun t k => R157 t (by
                  refine XS.iload X155.here hx rfl (hb hby at_294) rfl  ?_
                  refine XS.ifNo X155.here hx rfl (hb hby at_296) rfl ((if0 _ _).trans (feq (by decide : ¬ ((1 : Int32) = (0 : Int32)))).1) ?_
                  refine XS.iload X155.here hx rfl (hb hby at_299) rfl  ?_
                  refine XS.iload X155.here hx rfl (hb hby at_301) rfl  ?_
                  refine XS.icmpNo X155.here hx rfl (hb hby at_303) rfl (tlt ht1).2.1 ?_
                  refine XS.iload X155.here hx rfl (hb hby at_306) rfl  ?_
                  show own_S p e below T155 (mkF m 308 #[iv p0, iv p1, iv p2, iv p3, iv p4, iv p5, own_l (p0.toInt64), .second, own_l eL1, .second, own_l sL2, .second, own_l eL2, .second, own_l qL, .second, iv sA, iv eA, iv sB, iv eB, iv qq, iv (3 : Int32), iv (1 : Int32), iv (1 : Int32), rv b38, rv iv_, iv (-1 : Int32)] [(.int qq)]) _
                  refine XS.iload X155.here hx rfl (hb hby at_308) rfl  ?_
                  refine XS.icmpYes X155.here hx rfl (pc0 := 310) (pc' := 320) rfl (hb hby at_310) rfl (flt (own_past ho ht2)).2.1 (by decide) (by decide) ?_
                  refine XS.iload X155.here hx rfl (hb hby at_320) rfl  ?_
                  refine XS.ifNo X155.here hx rfl (hb hby at_322) rfl ((if0 _ _).trans (feq (by decide : ¬ ((1 : Int32) = (0 : Int32)))).1) ?_
                  refine XS.iload X155.here hx rfl (hb hby at_325) rfl  ?_
                  refine XS.iload X155.here hx rfl (hb hby at_327) rfl  ?_
                  show own_S p e below T155 (mkF m 329 #[iv p0, iv p1, iv p2, iv p3, iv p4, iv p5, own_l (p0.toInt64), .second, own_l eL1, .second, own_l sL2, .second, own_l eL2, .second, own_l qL, .second, iv sA, iv eA, iv sB, iv eB, iv qq, iv (3 : Int32), iv (1 : Int32), iv (1 : Int32), rv b38, rv iv_, iv (-1 : Int32)] [(.int qq), (.int sB)]) _
                  refine XS.icmpNo X155.here hx rfl (hb hby at_329) rfl (tlt ht2).2.1 ?_
                  refine XS.iload X155.here hx rfl (hb hby at_332) rfl  ?_
                  refine XS.iload X155.here hx rfl (hb hby at_334) rfl  ?_
                  exact k)
                by_cases hb336 : qq < eB
                · skip
                  have R181 : ∀ t, own_S p e below T155 (mkF m 349 #[iv p0, iv p1, iv p2, iv p3, iv p4, iv p5, own_l (p0.toInt64), .second, own_l eL1, .second, own_l sL2, .second, own_l eL2, .second, own_l qL, .second, iv sA, iv eA, iv sB, iv eB, iv qq, iv (3 : Int32), iv (1 : Int32), iv (1 : Int32), rv b38, rv iv_, iv sB] [(.int qq), (.ref b38), (.ref b38)]) t → own_S p e below s₁ f0 t := fun t k => R180 t (by
                    refine XS.icmpNo X155.here hx rfl (hb hby at_336) rfl (tlt hb336).2.1 ?_
                    refine XS.iload X155.here hx rfl (hb hby at_339) rfl  ?_
                    refine XS.istore X155.here hx rfl (hb hby at_341) rfl (l' := #[iv p0, iv p1, iv p2, iv p3, iv p4, iv p5, own_l (p0.toInt64), .second, own_l eL1, .second, own_l sL2, .second, own_l eL2, .second, own_l qL, .second, iv sA, iv eA, iv sB, iv eB, iv qq, iv (3 : Int32), iv (1 : Int32), iv (1 : Int32), rv b38, rv iv_, iv sB]) rfl ?_
                    refine XS.aload X155.here hx rfl (hb hby at_343) rfl rfl ?_
                    refine XS.aload X155.here hx rfl (hb hby at_345) rfl rfl ?_
                    refine XS.iload X155.here hx rfl (hb hby at_347) rfl  ?_
                    exact k)
                  obtain ⟨cq182, kq182, q182a, q182b, q182c⟩ := isOf hZ rfl f155_E_b38
                  obtain ⟨_, _, ⟨T182, L182, k182, n182⟩, -, X182, ⟨Lc182, hQ182, l182, y182, z182⟩, st182⟩ := X155.virtualBack hx (y := (⟨sN2, "find", "(I)J"⟩ : MethodName)) (z := (⟨sN2, "find", "(I)J"⟩ : MethodName)) hown (mvT hZ (hU 56 _ rfl)) (mvT hZ (hU 57 _ rfl)) (notFace_of_selects (args := #[]) (mvT hZ (hU 59 _ rfl))) (mvT hZ (hU 59 _ rfl)) (mvT hZ (hU 58 _ rfl)) (by decide) (backOf (W := 1) (rmFf2_2 l Z a0 hw [] b38 qq oR_41 ckR_41 kckR_41 kkR_41 sA sB saR_41 kstR_41 fiR_41 kfiR_41 oU_41 ckU_41 kckU_41 kkU_41 T155.heap n0 z155 f155_F_read_b38 f155_F_unread_b38 f155_E_oR_41 f155_F_chunks_oR_41 f155_F_chunkCount_oR_41 f155_A_ckR_41 p155_1 p155_2 p155_4 f155_F_firsts_oR_41 p155_3 f155_E_oU_41 f155_F_chunks_oU_41 f155_A_ckU_41 f155_E_kkU_41 f155_F_size_kkU_41 ht1 ht2) hZ (hU 60 _ rfl) (hU 5 _ rfl) (by decide) (by decide)) q182a q182c (g := (mkF m 349 #[iv p0, iv p1, iv p2, iv p3, iv p4, iv p5, own_l (p0.toInt64), .second, own_l eL1, .second, own_l sL2, .second, own_l eL2, .second, own_l qL, .second, iv sA, iv eA, iv sB, iv eB, iv qq, iv (3 : Int32), iv (1 : Int32), iv (1 : Int32), rv b38, rv iv_, iv sB] [(.int qq), (.ref b38), (.ref b38)])) rfl (by rw [hml]; rfl) (Steps.refl _) (argsL := [(.int qq)]) (rest := [(.ref b38)]) (lenOf pd_5 rfl) rfl (Nat.le_of_eq rfl) (hb hby at_349) (fun _ _ => ⟨rfl, rfl, (by decide : 13 + 0 ≤ _), (by decide : 1046 + 0 ≤ _)⟩)
                  dsimp only [Pt.U, Pt.locs, Pt.cells, Pt.slots] at X182 l182 y182 z182 st182 hQ182
                  subst l182 y182 z182
                  obtain ⟨rfl, N182q, p182_0⟩ := hQ182
                  have N182 := Fr.app N155 N182q
                  have R183 := fun t k => R181 t (st182.trans k)
                  have R184 : ∀ t, own_S p e below T182 (mkF m 354 #[iv p0, iv p1, iv p2, iv p3, iv p4, iv p5, own_l (p0.toInt64), .second, own_l eL1, .second, own_l sL2, .second, own_l eL2, .second, own_l qL, .second, iv sA, iv eA, iv sB, iv eB, iv qq, iv (3 : Int32), iv (1 : Int32), iv (1 : Int32), rv b38, rv iv_, iv sB] [(.int qq), (.long (258 : Int64)), (.ref b38)]) t → own_S p e below s₁ f0 t := fun t k => R183 t (by
                    refine XS.iload X182.here hx rfl (hb hby at_352) rfl  ?_
                    exact k)
                  obtain ⟨cq185, kq185, q185a, q185b, q185c⟩ := isOf hZ p182_0 f155_E_b38
                  obtain ⟨_, _, ⟨T185, L185, k185, n185⟩, -, X185, ⟨Lc185, hQ185, l185, y185, z185⟩, st185⟩ := X182.virtualBack hx (y := (⟨sN2, "containing", "(JI)I"⟩ : MethodName)) (z := (⟨sN2, "containing", "(JI)I"⟩ : MethodName)) hown (mvT hZ (hU 119 _ rfl)) (mvT hZ (hU 120 _ rfl)) (notFace_of_selects (args := #[]) (mvT hZ (hU 122 _ rfl))) (mvT hZ (hU 122 _ rfl)) (mvT hZ (hU 121 _ rfl)) (by decide) (backOf (W := 0) (rmCt2_2 l Z a0 hw [] b38 qq oR_41 ckR_41 kckR_41 kkR_41 saR_41 kstR_41 enR_41 kenR_41 sA sB eA eB T155.heap n0 z155 f155_F_read_b38 f155_F_chunks_oR_41 f155_A_ckR_41 p155_2 p155_5 p155_4 p155_7) hZ (hU 123 _ rfl) (hU 5 _ rfl) (by decide) (by decide)) q185a q185c (g := (mkF m 354 #[iv p0, iv p1, iv p2, iv p3, iv p4, iv p5, own_l (p0.toInt64), .second, own_l eL1, .second, own_l sL2, .second, own_l eL2, .second, own_l qL, .second, iv sA, iv eA, iv sB, iv eB, iv qq, iv (3 : Int32), iv (1 : Int32), iv (1 : Int32), rv b38, rv iv_, iv sB] [(.int qq), (.long (258 : Int64)), (.ref b38)])) rfl (by rw [hml]; rfl) (Steps.refl _) (argsL := [(.long (258 : Int64)), (.int qq)]) (rest := []) (lenOf pd_17 rfl) rfl (Nat.le_of_eq rfl) (hb hby at_354) (fun _ _ => ⟨rfl, p182_0, (by decide : 13 + 0 ≤ _), (by decide : 1046 + 0 ≤ _)⟩)
                  dsimp only [Pt.U, Pt.locs, Pt.cells, Pt.slots] at X185 l185 y185 z185 st185 hQ185
                  subst l185 y185 z185
                  obtain ⟨rfl, N185q, p185_0⟩ := hQ185
                  have N185 := Fr.app N182 N185q
                  have R186 := fun t k => R184 t (st185.trans k)
                  have R187 : ∀ t, own_S p e below T185 (mkF m 367 #[iv p0, iv p1, iv p2, iv p3, iv p4, iv p5, own_l (p0.toInt64), .second, own_l eL1, .second, own_l sL2, .second, own_l eL2, .second, own_l qL, .second, iv sA, iv eA, iv sB, iv eB, iv qq, iv (3 : Int32), iv (1 : Int32), iv (1 : Int32), rv b38, rv iv_, iv sB] [(.int (1 : Int32))]) t → own_S p e below s₁ f0 t := fun t k => R186 t (by
                    refine XS.iload X185.here hx rfl (hb hby at_357) rfl  ?_
                    refine XS.icmpNo X185.here hx rfl (hb hby at_359) rfl (teq (by simp [own_ct, hb336] : (own_ct qq eB sB) = sB)).2 ?_
                    refine XS.iconst X185.here hx rfl (hb hby at_362) ?_
                    refine XS.goto X185.here hx rfl (pc0 := 363) (pc' := 367) rfl (hb hby at_363) (by decide) (by decide) ?_
                    exact k)
                  obtain ⟨fs, hr, hrun, hended, hW, hsame⟩ := X185.leave (v := some (.int (1 : Int32))) (fun h => by rw [Bd.returns] at h; cases h)
                  refine ⟨_, _, pre0 _ (R187 _ ?_), hrun, hended, _, _, rfl, ?_, ⟨_, rfl⟩, hW, hsame.mono (by decide) (by decide)⟩
                  · show own_S p e below T185 (mkF m 367 #[iv p0, iv p1, iv p2, iv p3, iv p4, iv p5, own_l (p0.toInt64), .second, own_l eL1, .second, own_l sL2, .second, own_l eL2, .second, own_l qL, .second, iv sA, iv eA, iv sB, iv eB, iv qq, iv (3 : Int32), iv (1 : Int32), iv (1 : Int32), rv b38, rv iv_, iv sB] [(.int (1 : Int32))]) _
                    exact retN X185 hx (t := .boolean) Bd.returns (by simp) (hb hby at_367) hr
                  · show Q_rmLaw Z p0 p1 p2 p3 p4 p5 ca kca vsc iv_ h0 n0 _ T185.heap _
                    rw [p185_0]
                    exact ⟨rfl, N185⟩
                · skip
                  have R188 : ∀ t, own_S p e below T155 (mkF m 349 #[iv p0, iv p1, iv p2, iv p3, iv p4, iv p5, own_l (p0.toInt64), .second, own_l eL1, .second, own_l sL2, .second, own_l eL2, .second, own_l qL, .second, iv sA, iv eA, iv sB, iv eB, iv qq, iv (3 : Int32), iv (1 : Int32), iv (1 : Int32), rv b38, rv iv_, iv (-1 : Int32)] [(.int qq), (.ref b38), (.ref b38)]) t → own_S p e below s₁ f0 t := fun t k => R180 t (by
                    refine XS.icmpYes X155.here hx rfl (pc0 := 336) (pc' := 343) rfl (hb hby at_336) rfl (flt hb336).2.1 (by decide) (by decide) ?_
                    refine XS.aload X155.here hx rfl (hb hby at_343) rfl rfl ?_
                    refine XS.aload X155.here hx rfl (hb hby at_345) rfl rfl ?_
                    refine XS.iload X155.here hx rfl (hb hby at_347) rfl  ?_
                    exact k)
                  obtain ⟨cq189, kq189, q189a, q189b, q189c⟩ := isOf hZ rfl f155_E_b38
                  obtain ⟨_, _, ⟨T189, L189, k189, n189⟩, -, X189, ⟨Lc189, hQ189, l189, y189, z189⟩, st189⟩ := X155.virtualBack hx (y := (⟨sN2, "find", "(I)J"⟩ : MethodName)) (z := (⟨sN2, "find", "(I)J"⟩ : MethodName)) hown (mvT hZ (hU 56 _ rfl)) (mvT hZ (hU 57 _ rfl)) (notFace_of_selects (args := #[]) (mvT hZ (hU 59 _ rfl))) (mvT hZ (hU 59 _ rfl)) (mvT hZ (hU 58 _ rfl)) (by decide) (backOf (W := 1) (rmFf2_2 l Z a0 hw [] b38 qq oR_41 ckR_41 kckR_41 kkR_41 sA sB saR_41 kstR_41 fiR_41 kfiR_41 oU_41 ckU_41 kckU_41 kkU_41 T155.heap n0 z155 f155_F_read_b38 f155_F_unread_b38 f155_E_oR_41 f155_F_chunks_oR_41 f155_F_chunkCount_oR_41 f155_A_ckR_41 p155_1 p155_2 p155_4 f155_F_firsts_oR_41 p155_3 f155_E_oU_41 f155_F_chunks_oU_41 f155_A_ckU_41 f155_E_kkU_41 f155_F_size_kkU_41 ht1 ht2) hZ (hU 60 _ rfl) (hU 5 _ rfl) (by decide) (by decide)) q189a q189c (g := (mkF m 349 #[iv p0, iv p1, iv p2, iv p3, iv p4, iv p5, own_l (p0.toInt64), .second, own_l eL1, .second, own_l sL2, .second, own_l eL2, .second, own_l qL, .second, iv sA, iv eA, iv sB, iv eB, iv qq, iv (3 : Int32), iv (1 : Int32), iv (1 : Int32), rv b38, rv iv_, iv (-1 : Int32)] [(.int qq), (.ref b38), (.ref b38)])) rfl (by rw [hml]; rfl) (Steps.refl _) (argsL := [(.int qq)]) (rest := [(.ref b38)]) (lenOf pd_5 rfl) rfl (Nat.le_of_eq rfl) (hb hby at_349) (fun _ _ => ⟨rfl, rfl, (by decide : 13 + 0 ≤ _), (by decide : 1046 + 0 ≤ _)⟩)
                  dsimp only [Pt.U, Pt.locs, Pt.cells, Pt.slots] at X189 l189 y189 z189 st189 hQ189
                  subst l189 y189 z189
                  obtain ⟨rfl, N189q, p189_0⟩ := hQ189
                  have N189 := Fr.app N155 N189q
                  have R190 := fun t k => R188 t (st189.trans k)
                  have R191 : ∀ t, own_S p e below T189 (mkF m 354 #[iv p0, iv p1, iv p2, iv p3, iv p4, iv p5, own_l (p0.toInt64), .second, own_l eL1, .second, own_l sL2, .second, own_l eL2, .second, own_l qL, .second, iv sA, iv eA, iv sB, iv eB, iv qq, iv (3 : Int32), iv (1 : Int32), iv (1 : Int32), rv b38, rv iv_, iv (-1 : Int32)] [(.int qq), (.long (258 : Int64)), (.ref b38)]) t → own_S p e below s₁ f0 t := fun t k => R190 t (by
                    refine XS.iload X189.here hx rfl (hb hby at_352) rfl  ?_
                    exact k)
                  obtain ⟨cq192, kq192, q192a, q192b, q192c⟩ := isOf hZ p189_0 f155_E_b38
                  obtain ⟨_, _, ⟨T192, L192, k192, n192⟩, -, X192, ⟨Lc192, hQ192, l192, y192, z192⟩, st192⟩ := X189.virtualBack hx (y := (⟨sN2, "containing", "(JI)I"⟩ : MethodName)) (z := (⟨sN2, "containing", "(JI)I"⟩ : MethodName)) hown (mvT hZ (hU 119 _ rfl)) (mvT hZ (hU 120 _ rfl)) (notFace_of_selects (args := #[]) (mvT hZ (hU 122 _ rfl))) (mvT hZ (hU 122 _ rfl)) (mvT hZ (hU 121 _ rfl)) (by decide) (backOf (W := 0) (rmCt2_2 l Z a0 hw [] b38 qq oR_41 ckR_41 kckR_41 kkR_41 saR_41 kstR_41 enR_41 kenR_41 sA sB eA eB T155.heap n0 z155 f155_F_read_b38 f155_F_chunks_oR_41 f155_A_ckR_41 p155_2 p155_5 p155_4 p155_7) hZ (hU 123 _ rfl) (hU 5 _ rfl) (by decide) (by decide)) q192a q192c (g := (mkF m 354 #[iv p0, iv p1, iv p2, iv p3, iv p4, iv p5, own_l (p0.toInt64), .second, own_l eL1, .second, own_l sL2, .second, own_l eL2, .second, own_l qL, .second, iv sA, iv eA, iv sB, iv eB, iv qq, iv (3 : Int32), iv (1 : Int32), iv (1 : Int32), rv b38, rv iv_, iv (-1 : Int32)] [(.int qq), (.long (258 : Int64)), (.ref b38)])) rfl (by rw [hml]; rfl) (Steps.refl _) (argsL := [(.long (258 : Int64)), (.int qq)]) (rest := []) (lenOf pd_17 rfl) rfl (Nat.le_of_eq rfl) (hb hby at_354) (fun _ _ => ⟨rfl, p189_0, (by decide : 13 + 0 ≤ _), (by decide : 1046 + 0 ≤ _)⟩)
                  dsimp only [Pt.U, Pt.locs, Pt.cells, Pt.slots] at X192 l192 y192 z192 st192 hQ192
                  subst l192 y192 z192
                  obtain ⟨rfl, N192q, p192_0⟩ := hQ192
                  have N192 := Fr.app N189 N192q
                  have R193 := fun t k => R191 t (st192.trans k)
                  have R194 : ∀ t, own_S p e below T192 (mkF m 367 #[iv p0, iv p1, iv p2, iv p3, iv p4, iv p5, own_l (p0.toInt64), .second, own_l eL1, .second, own_l sL2, .second, own_l eL2, .second, own_l qL, .second, iv sA, iv eA, iv sB, iv eB, iv qq, iv (3 : Int32), iv (1 : Int32), iv (1 : Int32), rv b38, rv iv_, iv (-1 : Int32)] [(.int (1 : Int32))]) t → own_S p e below s₁ f0 t := fun t k => R193 t (by
                    refine XS.iload X192.here hx rfl (hb hby at_357) rfl  ?_
                    refine XS.icmpNo X192.here hx rfl (hb hby at_359) rfl (teq (by simp [own_ct, hb336] : (own_ct qq eB sB) = (-1 : Int32))).2 ?_
                    refine XS.iconst X192.here hx rfl (hb hby at_362) ?_
                    refine XS.goto X192.here hx rfl (pc0 := 363) (pc' := 367) rfl (hb hby at_363) (by decide) (by decide) ?_
                    exact k)
                  obtain ⟨fs, hr, hrun, hended, hW, hsame⟩ := X192.leave (v := some (.int (1 : Int32))) (fun h => by rw [Bd.returns] at h; cases h)
                  refine ⟨_, _, pre0 _ (R194 _ ?_), hrun, hended, _, _, rfl, ?_, ⟨_, rfl⟩, hW, hsame.mono (by decide) (by decide)⟩
                  · show own_S p e below T192 (mkF m 367 #[iv p0, iv p1, iv p2, iv p3, iv p4, iv p5, own_l (p0.toInt64), .second, own_l eL1, .second, own_l sL2, .second, own_l eL2, .second, own_l qL, .second, iv sA, iv eA, iv sB, iv eB, iv qq, iv (3 : Int32), iv (1 : Int32), iv (1 : Int32), rv b38, rv iv_, iv (-1 : Int32)] [(.int (1 : Int32))]) _
                    exact retN X192 hx (t := .boolean) Bd.returns (by simp) (hb hby at_367) hr
                  · show Q_rmLaw Z p0 p1 p2 p3 p4 p5 ca kca vsc iv_ h0 n0 _ T192.heap _
                    rw [p192_0]
                    exact ⟨rfl, N192⟩
set_option maxRecDepth 65536 in
set_option maxHeartbeats 40000000 in
theorem comes_1 {Post : Tables → Env → Array Value → State → Outcome → State → Prop} (hpost : ∀ tb e args s v u, (limb_1_1.after args s (.returned v) u = true ∧ limb_1_2.after args s (.returned v) u = true ∧ True) → FrameEnd s (.returned v) u (Jvm.fieldLocs frame_1_writes args s ++ Jvm.arrayLocs frame_1_arrays args s ++ Jvm.staticLocs frame_1_statics s) 40 2176 → Post tb e args s (.returned v) u) :
    ArmFor flags0 classFile x code maxLocals ret World_1 tables_1 room_1 Calls_1 rest_1 Pre_1 Post := by
  intro l hfl _ _ p e ha hc hk s m args below hf hA hF happ hP
  obtain ⟨hcalls, hrest, hpre⟩ := hP
  obtain ⟨-, -, -, hnamed, -, -, -, hat⟩ := (Spec.applies_iff hf).mp happ
  obtain ⟨hg, hn⟩ := and_e (Cond.before_iff.mp (show (Jvm.Cond.and given_1 narrow_1).before args s = true from hpre))
  obtain ⟨gg1, gg2⟩ := and_e hg
  obtain ⟨gg3, gg4⟩ := and_e gg2
  obtain ⟨gg5, gg6⟩ := and_e gg4
  obtain ⟨gg7, gg8⟩ := and_e gg6
  obtain ⟨gg9, gg10⟩ := and_e gg8
  obtain ⟨gg11, gg12⟩ := and_e gg10
  obtain ⟨w0, w1, w2, w3, w4, w5, rfl⟩ : ∃ w0 w1 w2 w3 w4 w5 : Value, args = #[w0, w1, w2, w3, w4, w5] := by
    have hs : args.size = 6 := by simpa [Cond.value, given_1] using gg1
    obtain ⟨L⟩ := args
    match L, hs with
    | [w0, w1, w2, w3, w4, w5], _ => exact ⟨w0, w1, w2, w3, w4, w5, rfl⟩
  have hw := fun d (hd : d ∈ tables_1) => atoms_spec (ws := Jvm.Cond.code x code maxLocals ret :: tables_1) hat d (List.mem_cons_of_mem _ hd)
  have hU : ∀ (i : Nat) (d : Jvm.Cond), tables_1[i]? = some d → d.before _ s = true := fun i d h => hw d (List.mem_of_getElem? h)
  have hfit : Fit s := fun {y c} hc i hi => by
    obtain ⟨ha, rfl⟩ := Array.getElem?_eq_some_iff.mp hc
    have q := List.all_eq_true.mp ((Array.all_eq_true_iff_forall_mem.mp hF) _ (Array.getElem_mem ha)) i (List.mem_range.mpr hi)
    simpa [Array.getElem?_eq_getElem hi] using q
  obtain ⟨hsets, hown0⟩ := atoms_of _ (rest_1_c_eq ▸ (show rest_1_c.before _ s = true from hrest))
  obtain ⟨i0, ei0⟩ := is_v gg3
  obtain rfl : w0 = (.int i0) := Option.some.inj ei0
  obtain ⟨i1, ei1⟩ := is_v gg5
  obtain rfl : w1 = (.int i1) := Option.some.inj ei1
  obtain ⟨i2, ei2⟩ := is_v gg7
  obtain rfl : w2 = (.int i2) := Option.some.inj ei2
  obtain ⟨i3, ei3⟩ := is_v gg9
  obtain rfl : w3 = (.int i3) := Option.some.inj ei3
  obtain ⟨i4, ei4⟩ := is_v gg11
  obtain rfl : w4 = (.int i4) := Option.some.inj ei4
  obtain ⟨i5, ei5⟩ := is_v gg12
  obtain rfl : w5 = (.int i5) := Option.some.inj ei5
  have ehi := eqv_i (Term.int_eval (127 : Int32)) (Cond.before_iff.mp (hsets _ (List.mem_of_getElem? (i := 3) rfl)))
  have Shi := Sta.start ehi (Or.inl (hsets _ (List.mem_of_getElem? (i := 1) rfl)))
  obtain ⟨ca, eca⟩ := arr_v (Cond.before_iff.mp (hsets _ (List.mem_of_getElem? (i := 4) rfl)))
  have Sca := Sta.start eca (Or.inr ⟨(hU 54 _ rfl), (hsets _ (List.mem_of_getElem? (i := 2) rfl))⟩)
  obtain ⟨cca, Aca⟩ := Arr.start eca (Cond.before_iff.mp (hsets _ (List.mem_of_getElem? (i := 4) rfl)))
  obtain ⟨lca, nca⟩ := own_len eca Aca (eqv_i (Term.int_eval (256 : Int32)) (Cond.before_iff.mp (hsets _ (List.mem_of_getElem? (i := 6) rfl))))
  have Vca : Arv s s.heap ca cca.cls (.object "java/lang/Integer") (256 : Int32) cca.slots.toList .null := own_arv hfit Aca lca nca (by decide)
  obtain ⟨iv_, hat, Eiv⟩ := own_box (fun _ => eca) Aca nca lca (Cond.before_iff.mp (hsets _ (List.mem_of_getElem? (i := 7) rfl)))
  obtain ⟨n, o, h1, h2, h3, _, L, rfl, ⟨rfl, N⟩, hq⟩ := rmLaw l s _ hw tables_1 i0 i1 i2 i3 i4 i5 ca cca.cls cca.slots.toList iv_ s.heap s.heap.size (Nat.le_refl _) Shi Sca Vca Eiv hat p e ha hc hk s m _ below hf ((Spec.applies_iff_loose hf).mp happ).1 ⟨rfl, State.Warmed39.refl s, rfl⟩ trivial
  refine ⟨n, _, h1, h2, h3, hpost _ _ _ _ _ _ ⟨Cond.after_iff.mpr rfl, Cond.after_iff.mpr (eq_i res_at (Term.int_eval (1)) rfl), trivial⟩ ⟨hq.1, hq.2.1, (hq.2.2.sift fun y hy => Or.inr (N y hy)).mono (by decide) (by decide)⟩⟩
theorem main_1_1 : Claimed_1_1 := comes_1 fun _ _ _ _ _ _ h hF => ⟨h.1, hF⟩
theorem main_1_2 : Claimed_1_2 := comes_1 fun _ _ _ _ _ _ h hF => ⟨h.2.1, hF⟩
end Jvm.Pilot.@@N@@
namespace Jvm.Pilot.@@N@@
open Jvm Jvm.ClassFile Sem Op Lib Jvm.Free Jvm.Stand Jvm.Pilot.@@N@@.Jvm.D
/-! MADE BY PROGRAM (witnessworld.py) out of the Statement's table words and the real class files: 23 classes; the members and pool entries that the words name. The judged class is class 1, her method 1. -/
namespace start1
open Jvm.ClassFile
def u (s : String) : CpInfo := .utf8 (stringToUtf16 s)
/-- a pool by its gaps: so many unusable entries, then the entry; so many at the end -/
def gap : Nat → List CpInfo → List CpInfo
  | 0, r => r
  | n + 1, r => .unusable :: gap n r
def poolList (es : List (Nat × CpInfo)) (last : Nat) : List CpInfo := es.foldr (fun e r => gap e.1 (e.2 :: r)) (gap last [])
def pool (es : List (Nat × CpInfo)) (last : Nat) : Array CpInfo := ⟨poolList es last⟩
def fileOf (pool : Array CpInfo) (this : Nat) (attrs : Array Attribute := #[]) (ms : Array MethodInfo := #[]) (fl : Nat := 33) (sup : Nat := 0) (ifs : Array Nat := #[]) (fds : Array FieldInfo := #[]) : ClassFile where
  minorVersion := 0
  majorVersion := 65
  constantPool := pool
  accessFlags := fl
  thisClass := this
  superClass := sup
  interfaces := ifs
  fields := fds
  methods := ms
  attributes := attrs
def plain (name : String) (sup : Option ClassId) : Class where
  name := name
  kind := .ordinary
  loader := none
  accessFlags := 33
  super := sup
  interfaces := #[]
  cf := none
  fields := #[]
  methods := #[]
  instanceTypes := #[]
  staticTypes := #[]
  resolved := #[]
  callSites := []
  init := .initialized
  statics := none
  mirror := none

def pool0 : Array CpInfo := pool [(5, u "<init>"), (0, u "()V"), (1, .class_ 10), (1, u "java/lang/Object")] 113

def k0c0 : Code := { maxStack := 0, maxLocals := 1, code := object_method_1_code, exceptionTable := #[], attributes := #[] }
def k0m0 : Method := { name := "<init>", desc := "()V", sig := { parameters := [], returnType := none }, accessFlags := 1, code := some k0c0 }
/-- java/lang/Object -/
def k0 : Class := { plain "java/lang/Object" none with
  accessFlags := 33
  interfaces := #[]
  cf := some (fileOf pool0 8 #[] #[{ accessFlags := 1, nameIndex := 5, descriptorIndex := 6, attributes := #[] }] 33 0 #[] #[])
  fields := #[]
  methods := #[k0m0]
  instanceTypes := #[]
  staticTypes := #[]
  resolved := Array.replicate 124 none
  statics := none }

def pool1 : Array CpInfo := pool [(2, .class_ 4), (0, .nameAndType 5 6), (0, u "java/lang/Object"), (0, u "<init>"), (0, u "()V"), (0, .class_ 8), (0, u "java/lang/Integer"), (0, .long 2147483647), (1, .long 16), (1, .long 18446744071562067968), (1, .class_ 16), (0, u "com/example/theuth/theuth/io/Followed"), (0, .methodref 15 3), (0, .methodref 7 19), (0, .nameAndType 20 21), (0, u "valueOf"), (0, u "(I)Ljava/lang/Integer;"), (0, .methodref 15 23), (0, .nameAndType 24 25), (0, u "find"), (0, u "(I)J"), (0, .methodref 15 27), (0, .nameAndType 28 29), (0, u "add"), (0, u "(JIILjava/lang/Object;)V"), (0, .methodref 15 31), (0, .nameAndType 32 33), (0, u "containing"), (0, u "(JI)I"), (0, .class_ 35), (0, u "com/example/theuth/theuth/io/FollowedContainingPinLaw"), (2, u "law"), (0, u "(IIIIII)Z")] 3

def k1m0 : Method := { name := "<init>", desc := "()V", sig := { parameters := [], returnType := none }, accessFlags := 1, code := none }
def k1c1 : Code := { maxStack := 6, maxLocals := 27, code := code, exceptionTable := #[], attributes := #[] }
def k1m1 : Method := { name := "law", desc := "(IIIIII)Z", sig := { parameters := [.int, .int, .int, .int, .int, .int], returnType := some .boolean }, accessFlags := 9, code := some k1c1 }
/-- com/example/theuth/theuth/io/FollowedContainingPinLaw -/
def k1 : Class := { plain "com/example/theuth/theuth/io/FollowedContainingPinLaw" (some 0) with
  accessFlags := 49
  interfaces := #[]
  cf := some (fileOf pool1 34 #[] #[{ accessFlags := 1, nameIndex := 5, descriptorIndex := 6, attributes := #[] }, { accessFlags := 9, nameIndex := 38, descriptorIndex := 39, attributes := #[] }] 49 2 #[] #[])
  fields := #[]
  methods := #[k1m0, k1m1]
  instanceTypes := #[]
  staticTypes := #[]
  resolved := Array.replicate 43 none
  statics := none }

def pool2 : Array CpInfo := pool [(1, .methodref 2 3), (0, .class_ 4), (0, .nameAndType 5 6), (0, u "java/lang/Object"), (0, u "<init>"), (0, u "()V"), (0, .class_ 8), (0, u "com/example/theuth/theuth/io/Followed$Offsets"), (0, .methodref 7 10), (0, .nameAndType 5 11), (0, u "(Z)V"), (0, .fieldref 13 14), (0, .class_ 15), (0, .nameAndType 16 17), (0, u "com/example/theuth/theuth/io/Followed"), (0, u "read"), (0, u "Lcom/example/theuth/theuth/io/Followed$Offsets;"), (0, .fieldref 13 19), (0, .nameAndType 20 17), (0, u "unread"), (0, .methodref 7 22), (0, .nameAndType 23 24), (0, u "find"), (0, u "(I)J"), (0, .methodref 7 26), (0, .nameAndType 27 28), (0, u "isEmpty"), (0, u "()Z"), (0, .long 1073741824), (7, .class_ 39), (1, u "com/example/theuth/theuth/io/Followed$Chunk"), (2, .fieldref 37 43), (0, .nameAndType 44 45), (0, u "ends"), (0, u "[I"), (3, u "I"), (0, .fieldref 7 51), (0, .nameAndType 52 53), (0, u "chunks"), (0, u "[Lcom/example/theuth/theuth/io/Followed$Chunk;"), (0, .fieldref 37 55), (0, .nameAndType 56 49), (0, u "size"), (2, .fieldref 37 60), (0, .nameAndType 61 45), (0, u "starts"), (0, .methodref 7 63), (0, .nameAndType 64 65), (0, u "append"), (0, u "(IILjava/lang/Object;)Z"), (0, .methodref 13 67), (0, .nameAndType 68 69), (0, u "insert"), (0, u "(JIILjava/lang/Object;)V"), (0, .methodref 7 71), (0, .nameAndType 72 73), (0, u "holds"), (0, u "(JI)Z"), (9, .methodref 7 67), (0, .class_ 85), (0, u "com/example/theuth/theuth/io/Followed$ReadItems"), (10, u "CHUNK"), (2, u "UNREAD"), (11, u "containing"), (0, u "(JI)I"), (1, u "add"), (5, .class_ 121), (0, u "com/example/theuth/theuth/io/Followed$ReadItems$1")] 18

def k2c0 : Code := { maxStack := 4, maxLocals := 1, code := prog_116_method_1_code, exceptionTable := #[], attributes := #[] }
def k2m0 : Method := { name := "<init>", desc := "()V", sig := { parameters := [], returnType := none }, accessFlags := 0, code := some k2c0 }
def k2c1 : Code := { maxStack := 4, maxLocals := 4, code := prog_116_method_2_code, exceptionTable := #[], attributes := #[] }
def k2m1 : Method := { name := "find", desc := "(I)J", sig := { parameters := [.int], returnType := some .long }, accessFlags := 0, code := some k2c1 }
def k2c2 : Code := { maxStack := 3, maxLocals := 7, code := prog_116_method_7_code, exceptionTable := #[], attributes := #[] }
def k2m2 : Method := { name := "containing", desc := "(JI)I", sig := { parameters := [.long, .int], returnType := some .int }, accessFlags := 0, code := some k2c2 }
def k2c3 : Code := { maxStack := 6, maxLocals := 6, code := prog_116_method_9_code, exceptionTable := #[], attributes := #[] }
def k2m3 : Method := { name := "add", desc := "(JIILjava/lang/Object;)V", sig := { parameters := [.long, .int, .int, (.object "java/lang/Object")], returnType := none }, accessFlags := 0, code := some k2c3 }
def k2c4 : Code := { maxStack := 6, maxLocals := 6, code := prog_116_method_10_code, exceptionTable := #[], attributes := #[] }
def k2m4 : Method := { name := "insert", desc := "(JIILjava/lang/Object;)V", sig := { parameters := [.long, .int, .int, (.object "java/lang/Object")], returnType := none }, accessFlags := 2, code := some k2c4 }
/-- com/example/theuth/theuth/io/Followed -/
def k2 : Class := { plain "com/example/theuth/theuth/io/Followed" (some 0) with
  accessFlags := 48
  interfaces := #[]
  cf := some (fileOf pool2 13 #[.nestMembers #[84, 120, 7, 37]] #[{ accessFlags := 0, nameIndex := 5, descriptorIndex := 6, attributes := #[] }, { accessFlags := 0, nameIndex := 23, descriptorIndex := 24, attributes := #[] }, { accessFlags := 0, nameIndex := 111, descriptorIndex := 112, attributes := #[] }, { accessFlags := 0, nameIndex := 114, descriptorIndex := 69, attributes := #[] }, { accessFlags := 2, nameIndex := 68, descriptorIndex := 69, attributes := #[] }] 48 2 #[] #[{ accessFlags := 26, nameIndex := 96, descriptorIndex := 49, attributes := #[] }, { accessFlags := 26, nameIndex := 99, descriptorIndex := 49, attributes := #[] }, { accessFlags := 18, nameIndex := 16, descriptorIndex := 17, attributes := #[] }, { accessFlags := 18, nameIndex := 20, descriptorIndex := 17, attributes := #[] }])
  fields := #[{ name := "CHUNK", type := .int, accessFlags := 26, slot := 0, constantValue := 0 }, { name := "UNREAD", type := .int, accessFlags := 26, slot := 1, constantValue := 0 }, { name := "read", type := (.object "com/example/theuth/theuth/io/Followed$Offsets"), accessFlags := 18, slot := 0, constantValue := 0 }, { name := "unread", type := (.object "com/example/theuth/theuth/io/Followed$Offsets"), accessFlags := 18, slot := 1, constantValue := 0 }]
  methods := #[k2m0, k2m1, k2m2, k2m3, k2m4]
  instanceTypes := #[(.object "com/example/theuth/theuth/io/Followed$Offsets"), (.object "com/example/theuth/theuth/io/Followed$Offsets")]
  staticTypes := #[.int, .int]
  resolved := ((((Array.replicate 140 none).setIfInBounds 50 (some (.field 3 1))).setIfInBounds 42 (some (.field 4 1))).setIfInBounds 59 (some (.field 4 0))).setIfInBounds 54 (some (.field 4 3))
  statics := none }

def pool3 : Array CpInfo := pool [(1, .class_ 2), (0, u "com/example/theuth/theuth/io/Followed"), (0, .methodref 4 5), (0, .class_ 6), (0, .nameAndType 7 8), (0, u "java/lang/Object"), (0, u "<init>"), (0, u "()V"), (0, .fieldref 10 11), (0, .class_ 12), (0, .nameAndType 13 14), (0, u "com/example/theuth/theuth/io/Followed$Offsets"), (0, u "firsts"), (0, u "[I"), (0, .fieldref 10 16), (0, .nameAndType 17 18), (0, u "chunkCount"), (0, u "I"), (0, .fieldref 10 20), (0, .nameAndType 21 22), (0, u "withItems"), (0, u "Z"), (0, .class_ 24), (0, u "com/example/theuth/theuth/io/Followed$Chunk"), (0, .methodref 23 26), (0, .nameAndType 7 27), (0, u "(Z)V"), (0, .fieldref 10 29), (0, .nameAndType 30 31), (0, u "chunks"), (0, u "[Lcom/example/theuth/theuth/io/Followed$Chunk;"), (0, .fieldref 23 33), (0, .nameAndType 34 18), (0, u "size"), (0, .fieldref 23 36), (0, .nameAndType 37 14), (0, u "starts"), (2, .methodref 41 42), (0, .class_ 43), (0, .nameAndType 44 45), (0, u "java/util/Arrays"), (0, u "binarySearch"), (0, u "([IIII)I"), (0, .methodref 47 48), (0, .class_ 49), (0, .nameAndType 50 51), (0, u "java/lang/Math"), (0, u "max"), (0, u "(II)I"), (4, .fieldref 23 57), (0, .nameAndType 58 14), (0, u "ends"), (0, .fieldref 23 60), (0, .nameAndType 61 62), (0, u "items"), (0, u "[Ljava/lang/Object;"), (4, .methodref 68 69), (0, .class_ 70), (0, .nameAndType 71 72), (0, u "java/lang/System"), (0, u "arraycopy"), (0, u "(Ljava/lang/Object;ILjava/lang/Object;II)V"), (14, u "find"), (0, u "(I)J"), (3, u "holds"), (0, u "(JI)Z"), (0, u "append"), (0, u "(IILjava/lang/Object;)Z"), (0, u "insert"), (0, u "(JIILjava/lang/Object;)V"), (0, u "isEmpty"), (0, u "()Z")] 6

def k3c0 : Code := { maxStack := 7, maxLocals := 2, code := prog_118_method_1_code, exceptionTable := #[], attributes := #[] }
def k3m0 : Method := { name := "<init>", desc := "(Z)V", sig := { parameters := [.boolean], returnType := none }, accessFlags := 0, code := some k3c0 }
def k3c1 : Code := { maxStack := 4, maxLocals := 6, code := prog_118_method_2_code, exceptionTable := #[], attributes := #[] }
def k3m1 : Method := { name := "find", desc := "(I)J", sig := { parameters := [.int], returnType := some .long }, accessFlags := 0, code := some k3c1 }
def k3c2 : Code := { maxStack := 4, maxLocals := 9, code := prog_118_method_4_code, exceptionTable := #[], attributes := #[] }
def k3m2 : Method := { name := "holds", desc := "(JI)Z", sig := { parameters := [.long, .int], returnType := some .boolean }, accessFlags := 0, code := some k3c2 }
def k3c3 : Code := { maxStack := 4, maxLocals := 6, code := prog_118_method_5_code, exceptionTable := #[], attributes := #[] }
def k3m3 : Method := { name := "append", desc := "(IILjava/lang/Object;)Z", sig := { parameters := [.int, .int, (.object "java/lang/Object")], returnType := some .boolean }, accessFlags := 0, code := some k3c3 }
def k3c4 : Code := { maxStack := 5, maxLocals := 10, code := prog_118_method_6_code, exceptionTable := #[], attributes := #[] }
def k3m4 : Method := { name := "insert", desc := "(JIILjava/lang/Object;)V", sig := { parameters := [.long, .int, .int, (.object "java/lang/Object")], returnType := none }, accessFlags := 0, code := some k3c4 }
def k3c5 : Code := { maxStack := 2, maxLocals := 1, code := prog_118_method_9_code, exceptionTable := #[], attributes := #[] }
def k3m5 : Method := { name := "isEmpty", desc := "()Z", sig := { parameters := [], returnType := some .boolean }, accessFlags := 0, code := some k3c5 }
/-- com/example/theuth/theuth/io/Followed$Offsets -/
def k3 : Class := { plain "com/example/theuth/theuth/io/Followed$Offsets" (some 0) with
  accessFlags := 48
  interfaces := #[]
  cf := some (fileOf pool3 10 #[.nestHost 1] #[{ accessFlags := 0, nameIndex := 7, descriptorIndex := 27, attributes := #[] }, { accessFlags := 0, nameIndex := 87, descriptorIndex := 88, attributes := #[] }, { accessFlags := 0, nameIndex := 92, descriptorIndex := 93, attributes := #[] }, { accessFlags := 0, nameIndex := 94, descriptorIndex := 95, attributes := #[] }, { accessFlags := 0, nameIndex := 96, descriptorIndex := 97, attributes := #[] }, { accessFlags := 0, nameIndex := 98, descriptorIndex := 99, attributes := #[] }] 48 4 #[] #[{ accessFlags := 18, nameIndex := 21, descriptorIndex := 22, attributes := #[] }, { accessFlags := 2, nameIndex := 30, descriptorIndex := 31, attributes := #[] }, { accessFlags := 2, nameIndex := 13, descriptorIndex := 14, attributes := #[] }, { accessFlags := 2, nameIndex := 17, descriptorIndex := 18, attributes := #[] }])
  fields := #[{ name := "withItems", type := .boolean, accessFlags := 18, slot := 0, constantValue := 0 }, { name := "chunks", type := (.array (.object "com/example/theuth/theuth/io/Followed$Chunk")), accessFlags := 2, slot := 1, constantValue := 0 }, { name := "firsts", type := (.array .int), accessFlags := 2, slot := 2, constantValue := 0 }, { name := "chunkCount", type := .int, accessFlags := 2, slot := 3, constantValue := 0 }]
  methods := #[k3m0, k3m1, k3m2, k3m3, k3m4, k3m5]
  instanceTypes := #[.boolean, (.array (.object "com/example/theuth/theuth/io/Followed$Chunk")), (.array .int), .int]
  staticTypes := #[]
  resolved := Array.replicate 106 none
  statics := none }

def pool4 : Array CpInfo := pool [(1, .class_ 2), (0, u "com/example/theuth/theuth/io/Followed"), (0, .methodref 4 5), (0, .class_ 6), (0, .nameAndType 7 8), (0, u "java/lang/Object"), (0, u "<init>"), (0, u "()V"), (0, .fieldref 10 11), (0, .class_ 12), (0, .nameAndType 13 14), (0, u "com/example/theuth/theuth/io/Followed$Chunk"), (0, u "starts"), (0, u "[I"), (0, .fieldref 10 16), (0, .nameAndType 17 14), (0, u "ends"), (0, .fieldref 10 19), (0, .nameAndType 20 21), (0, u "items"), (0, u "[Ljava/lang/Object;"), (0, u "size"), (0, u "I"), (0, u "(Z)V")] 10

def k4c0 : Code := { maxStack := 2, maxLocals := 2, code := prog_117_method_1_code, exceptionTable := #[], attributes := #[] }
def k4m0 : Method := { name := "<init>", desc := "(Z)V", sig := { parameters := [.boolean], returnType := none }, accessFlags := 0, code := some k4c0 }
/-- com/example/theuth/theuth/io/Followed$Chunk -/
def k4 : Class := { plain "com/example/theuth/theuth/io/Followed$Chunk" (some 0) with
  accessFlags := 48
  interfaces := #[]
  cf := some (fileOf pool4 10 #[.nestHost 1] #[{ accessFlags := 0, nameIndex := 7, descriptorIndex := 24, attributes := #[] }] 48 4 #[] #[{ accessFlags := 18, nameIndex := 13, descriptorIndex := 14, attributes := #[] }, { accessFlags := 18, nameIndex := 17, descriptorIndex := 14, attributes := #[] }, { accessFlags := 18, nameIndex := 20, descriptorIndex := 21, attributes := #[] }, { accessFlags := 2, nameIndex := 22, descriptorIndex := 23, attributes := #[] }])
  fields := #[{ name := "starts", type := (.array .int), accessFlags := 18, slot := 0, constantValue := 0 }, { name := "ends", type := (.array .int), accessFlags := 18, slot := 1, constantValue := 0 }, { name := "items", type := (.array (.object "java/lang/Object")), accessFlags := 18, slot := 2, constantValue := 0 }, { name := "size", type := .int, accessFlags := 2, slot := 3, constantValue := 0 }]
  methods := #[k4m0]
  instanceTypes := #[(.array .int), (.array .int), (.array (.object "java/lang/Object")), .int]
  staticTypes := #[]
  resolved := Array.replicate 35 none
  statics := none }

def pool5 : Array CpInfo := pool [(1, .class_ 2), (0, u "java/io/Serializable"), (0, .class_ 4), (0, u "java/lang/Object")] 2

/-- java/io/Serializable -/
def k5 : Class := { plain "java/io/Serializable" (some 0) with
  accessFlags := 1537
  interfaces := #[]
  cf := some (fileOf pool5 1 #[] #[] 1537 3 #[] #[])
  fields := #[]
  methods := #[]
  instanceTypes := #[]
  staticTypes := #[]
  resolved := Array.replicate 7 none
  statics := none }

def pool6 : Array CpInfo := pool [(2, .class_ 4), (1, u "java/lang/Object"), (0, u "<init>"), (0, u "()V"), (1, .class_ 10), (1, u "java/lang/Number"), (2, .class_ 14), (0, u "java/io/Serializable"), (0, u "serialVersionUID"), (0, u "J")] 20

def k6m0 : Method := { name := "<init>", desc := "()V", sig := { parameters := [], returnType := none }, accessFlags := 1, code := none }
/-- java/lang/Number -/
def k6 : Class := { plain "java/lang/Number" (some 0) with
  accessFlags := 1057
  interfaces := #[5]
  cf := some (fileOf pool6 8 #[] #[{ accessFlags := 1, nameIndex := 5, descriptorIndex := 6, attributes := #[] }] 1057 2 #[13] #[{ accessFlags := 26, nameIndex := 15, descriptorIndex := 16, attributes := #[] }])
  fields := #[{ name := "serialVersionUID", type := .long, accessFlags := 26, slot := 0, constantValue := 0 }]
  methods := #[k6m0]
  instanceTypes := #[]
  staticTypes := #[.long]
  resolved := Array.replicate 37 none
  statics := none }

def pool7 : Array CpInfo := pool [(1, .class_ 2), (0, u "java/lang/Comparable"), (0, .class_ 4), (0, u "java/lang/Object")] 7

/-- java/lang/Comparable -/
def k7 : Class := { plain "java/lang/Comparable" (some 0) with
  accessFlags := 1537
  interfaces := #[]
  cf := some (fileOf pool7 1 #[] #[] 1537 3 #[] #[])
  fields := #[]
  methods := #[]
  instanceTypes := #[]
  staticTypes := #[]
  resolved := Array.replicate 12 none
  statics := none }

def pool8 : Array CpInfo := pool [(1, .class_ 2), (0, u "java/lang/constant/Constable"), (0, .class_ 4), (0, u "java/lang/Object")] 6

/-- java/lang/constant/Constable -/
def k8 : Class := { plain "java/lang/constant/Constable" (some 0) with
  accessFlags := 1537
  interfaces := #[]
  cf := some (fileOf pool8 1 #[] #[] 1537 3 #[] #[])
  fields := #[]
  methods := #[]
  instanceTypes := #[]
  staticTypes := #[]
  resolved := Array.replicate 11 none
  statics := none }

def pool9 : Array CpInfo := pool [(1, .class_ 2), (0, u "java/lang/constant/ConstantDesc"), (0, .class_ 4), (0, u "java/lang/Object")] 32

/-- java/lang/constant/ConstantDesc -/
def k9 : Class := { plain "java/lang/constant/ConstantDesc" (some 0) with
  accessFlags := 1537
  interfaces := #[]
  cf := some (fileOf pool9 1 #[] #[] 1537 3 #[] #[])
  fields := #[]
  methods := #[]
  instanceTypes := #[]
  staticTypes := #[]
  resolved := Array.replicate 37 none
  statics := none }

def pool10 : Array CpInfo := pool [(1, .class_ 2), (0, u "java/lang/Integer"), (16, u "digits"), (0, u "[C"), (64, u "DigitOnes"), (0, u "[B"), (2, u "DigitTens"), (97, u "valueOf"), (0, u "(I)Ljava/lang/Integer;"), (0, .class_ 190), (0, u "java/lang/Integer$IntegerCache"), (0, .fieldref 189 192), (0, .nameAndType 193 194), (0, u "high"), (0, u "I"), (0, .fieldref 189 196), (0, .nameAndType 197 198), (0, u "cache"), (0, u "[Ljava/lang/Integer;"), (4, .class_ 204), (0, u "java/lang/Number"), (2, u "value"), (94, u "TYPE"), (0, u "Ljava/lang/Class;"), (0, .class_ 305), (0, u "java/lang/Comparable"), (0, .class_ 307), (0, u "java/lang/constant/Constable"), (0, .class_ 309), (0, u "java/lang/constant/ConstantDesc"), (0, u "MIN_VALUE"), (1, u "MAX_VALUE"), (3, u "SIZE"), (1, u "BYTES"), (1, u "serialVersionUID"), (0, u "J")] 131

def k10c0 : Code := { maxStack := 3, maxLocals := 1, code := jdk_33_method_22_code, exceptionTable := #[], attributes := #[] }
def k10m0 : Method := { name := "valueOf", desc := "(I)Ljava/lang/Integer;", sig := { parameters := [.int], returnType := some (.object "java/lang/Integer") }, accessFlags := 9, code := some k10c0 }
/-- java/lang/Integer -/
def k10 : Class := { plain "java/lang/Integer" (some 6) with
  accessFlags := 49
  interfaces := #[7, 8, 9]
  cf := some (fileOf pool10 1 #[.nestMembers #[189]] #[{ accessFlags := 9, nameIndex := 187, descriptorIndex := 188, attributes := #[] }] 49 203 #[304, 306, 308] #[{ accessFlags := 25, nameIndex := 310, descriptorIndex := 194, attributes := #[] }, { accessFlags := 25, nameIndex := 312, descriptorIndex := 194, attributes := #[] }, { accessFlags := 25, nameIndex := 302, descriptorIndex := 303, attributes := #[] }, { accessFlags := 24, nameIndex := 19, descriptorIndex := 20, attributes := #[] }, { accessFlags := 24, nameIndex := 89, descriptorIndex := 86, attributes := #[] }, { accessFlags := 24, nameIndex := 85, descriptorIndex := 86, attributes := #[] }, { accessFlags := 18, nameIndex := 207, descriptorIndex := 194, attributes := #[] }, { accessFlags := 25, nameIndex := 316, descriptorIndex := 194, attributes := #[] }, { accessFlags := 25, nameIndex := 318, descriptorIndex := 194, attributes := #[] }, { accessFlags := 26, nameIndex := 320, descriptorIndex := 321, attributes := #[] }])
  fields := #[{ name := "MIN_VALUE", type := .int, accessFlags := 25, slot := 0, constantValue := 0 }, { name := "MAX_VALUE", type := .int, accessFlags := 25, slot := 1, constantValue := 0 }, { name := "TYPE", type := (.object "java/lang/Class"), accessFlags := 25, slot := 2, constantValue := 0 }, { name := "digits", type := (.array .char), accessFlags := 24, slot := 3, constantValue := 0 }, { name := "DigitTens", type := (.array .byte), accessFlags := 24, slot := 4, constantValue := 0 }, { name := "DigitOnes", type := (.array .byte), accessFlags := 24, slot := 5, constantValue := 0 }, { name := "value", type := .int, accessFlags := 18, slot := 0, constantValue := 0 }, { name := "SIZE", type := .int, accessFlags := 25, slot := 6, constantValue := 0 }, { name := "BYTES", type := .int, accessFlags := 25, slot := 7, constantValue := 0 }, { name := "serialVersionUID", type := .long, accessFlags := 26, slot := 8, constantValue := 0 }]
  methods := #[k10m0]
  instanceTypes := #[.int]
  staticTypes := #[.int, .int, (.object "java/lang/Class"), (.array .char), (.array .byte), (.array .byte), .int, .int, .long]
  resolved := Array.replicate 453 none
  statics := none }

def pool11 : Array CpInfo := pool [(2, .class_ 4), (1, u "java/lang/Object"), (0, u "<init>"), (0, u "()V"), (0, .class_ 8), (0, u "java/lang/Integer"), (7, .class_ 18), (1, u "java/lang/Integer$IntegerCache"), (0, u "$assertionsDisabled"), (0, u "Z"), (26, u "high"), (0, u "I"), (8, u "archivedCache"), (0, u "[Ljava/lang/Integer;"), (12, u "cache"), (0, u "low")] 27

def k11m0 : Method := { name := "<init>", desc := "()V", sig := { parameters := [], returnType := none }, accessFlags := 2, code := none }
/-- java/lang/Integer$IntegerCache -/
def k11 : Class := { plain "java/lang/Integer$IntegerCache" (some 0) with
  accessFlags := 48
  interfaces := #[]
  cf := some (fileOf pool11 16 #[.nestHost 7] #[{ accessFlags := 2, nameIndex := 5, descriptorIndex := 6, attributes := #[] }] 48 2 #[] #[{ accessFlags := 24, nameIndex := 72, descriptorIndex := 48, attributes := #[] }, { accessFlags := 24, nameIndex := 47, descriptorIndex := 48, attributes := #[] }, { accessFlags := 24, nameIndex := 71, descriptorIndex := 58, attributes := #[] }, { accessFlags := 8, nameIndex := 57, descriptorIndex := 58, attributes := #[] }, { accessFlags := 4120, nameIndex := 19, descriptorIndex := 20, attributes := #[] }])
  fields := #[{ name := "low", type := .int, accessFlags := 24, slot := 0, constantValue := 0 }, { name := "high", type := .int, accessFlags := 24, slot := 1, constantValue := 0 }, { name := "cache", type := (.array (.object "java/lang/Integer")), accessFlags := 24, slot := 2, constantValue := 0 }, { name := "archivedCache", type := (.array (.object "java/lang/Integer")), accessFlags := 8, slot := 3, constantValue := 0 }, { name := "$assertionsDisabled", type := .boolean, accessFlags := 4120, slot := 4, constantValue := 0 }]
  methods := #[k11m0]
  instanceTypes := #[]
  staticTypes := #[.int, .int, (.array (.object "java/lang/Integer")), (.array (.object "java/lang/Integer")), .boolean]
  resolved := Array.replicate 100 none
  statics := some 0 }

def pool12 : Array CpInfo := pool [(2, .class_ 4), (1, u "java/lang/Object"), (0, u "<init>"), (0, u "()V"), (6, .methodref 14 15), (0, .class_ 16), (0, .nameAndType 17 18), (0, u "java/util/Arrays"), (0, u "rangeCheck"), (0, u "(III)V"), (55, .class_ 76), (1, u "java/util/Arrays$NaturalOrder"), (36, .class_ 115), (1, u "java/util/Arrays$LegacyMergeSort"), (1, u "Z"), (89, u "binarySearch0"), (1, .methodref 14 210), (0, .nameAndType 207 211), (0, u "([IIII)I"), (163, .class_ 376), (0, u "java/util/Arrays$ArrayList"), (68, u "$assertionsDisabled"), (269, u "MIN_ARRAY_SORT_GRAN"), (0, u "I"), (2, u "INSERTIONSORT_THRESHOLD"), (74, u "binarySearch"), (180, .class_ 976), (0, u "java/util/Arrays$ArrayItr")] 52

def k12m0 : Method := { name := "<init>", desc := "()V", sig := { parameters := [], returnType := none }, accessFlags := 2, code := none }
def k12c1 : Code := { maxStack := 4, maxLocals := 3, code := jdk_65_method_30_code, exceptionTable := #[], attributes := #[] }
def k12m1 : Method := { name := "rangeCheck", desc := "(III)V", sig := { parameters := [.int, .int, .int], returnType := none }, accessFlags := 8, code := some k12c1 }
def k12c2 : Code := { maxStack := 4, maxLocals := 4, code := jdk_65_method_58_code, exceptionTable := #[], attributes := #[] }
def k12m2 : Method := { name := "binarySearch", desc := "([IIII)I", sig := { parameters := [(.array .int), .int, .int, .int], returnType := some .int }, accessFlags := 9, code := some k12c2 }
def k12c3 : Code := { maxStack := 2, maxLocals := 8, code := jdk_65_method_59_code, exceptionTable := #[], attributes := #[] }
def k12m3 : Method := { name := "binarySearch0", desc := "([IIII)I", sig := { parameters := [(.array .int), .int, .int, .int], returnType := some .int }, accessFlags := 10, code := some k12c3 }
/-- java/util/Arrays -/
def k12 : Class := { plain "java/util/Arrays" (some 0) with
  accessFlags := 49
  interfaces := #[]
  cf := some (fileOf pool12 14 #[.nestMembers #[975, 375, 113, 74]] #[{ accessFlags := 2, nameIndex := 5, descriptorIndex := 6, attributes := #[] }, { accessFlags := 8, nameIndex := 17, descriptorIndex := 18, attributes := #[] }, { accessFlags := 9, nameIndex := 794, descriptorIndex := 211, attributes := #[] }, { accessFlags := 10, nameIndex := 207, descriptorIndex := 211, attributes := #[] }] 49 2 #[] #[{ accessFlags := 26, nameIndex := 715, descriptorIndex := 716, attributes := #[] }, { accessFlags := 26, nameIndex := 719, descriptorIndex := 716, attributes := #[] }, { accessFlags := 4120, nameIndex := 445, descriptorIndex := 117, attributes := #[] }])
  fields := #[{ name := "MIN_ARRAY_SORT_GRAN", type := .int, accessFlags := 26, slot := 0, constantValue := 0 }, { name := "INSERTIONSORT_THRESHOLD", type := .int, accessFlags := 26, slot := 1, constantValue := 0 }, { name := "$assertionsDisabled", type := .boolean, accessFlags := 4120, slot := 2, constantValue := 0 }]
  methods := #[k12m0, k12m1, k12m2, k12m3]
  instanceTypes := #[]
  staticTypes := #[.int, .int, .boolean]
  resolved := Array.replicate 1029 none
  statics := none }

def pool13 : Array CpInfo := pool [(1, .class_ 2), (0, u "java/lang/Math"), (1, .class_ 6), (1, u "java/lang/Object"), (0, u "<init>"), (0, u "()V"), (89, .class_ 100), (1, u "java/lang/Math$RandomNumberGeneratorHolder"), (71, u "negativeZeroFloatBits"), (0, u "J"), (2, u "negativeZeroDoubleBits"), (21, u "max"), (46, u "$assertionsDisabled"), (0, u "Z"), (88, u "(II)I"), (2, u "twoToTheDoubleScaleDown"), (0, u "D"), (4, u "twoToTheDoubleScaleUp"), (9, u "E"), (3, u "PI"), (2, u "TAU"), (2, u "DEGREES_TO_RADIANS"), (0, u "RADIANS_TO_DEGREES")] 94

def k13m0 : Method := { name := "<init>", desc := "()V", sig := { parameters := [], returnType := none }, accessFlags := 2, code := none }
def k13c1 : Code := { maxStack := 2, maxLocals := 2, code := jdk_29_method_65_code, exceptionTable := #[], attributes := #[] }
def k13m1 : Method := { name := "max", desc := "(II)I", sig := { parameters := [.int, .int], returnType := some .int }, accessFlags := 9, code := some k13c1 }
/-- java/lang/Math -/
def k13 : Class := { plain "java/lang/Math" (some 0) with
  accessFlags := 49
  interfaces := #[]
  cf := some (fileOf pool13 1 #[.nestMembers #[98]] #[{ accessFlags := 2, nameIndex := 7, descriptorIndex := 8, attributes := #[] }, { accessFlags := 9, nameIndex := 198, descriptorIndex := 335, attributes := #[] }] 49 4 #[] #[{ accessFlags := 25, nameIndex := 354, descriptorIndex := 339, attributes := #[] }, { accessFlags := 25, nameIndex := 358, descriptorIndex := 339, attributes := #[] }, { accessFlags := 25, nameIndex := 361, descriptorIndex := 339, attributes := #[] }, { accessFlags := 26, nameIndex := 364, descriptorIndex := 339, attributes := #[] }, { accessFlags := 26, nameIndex := 365, descriptorIndex := 339, attributes := #[] }, { accessFlags := 26, nameIndex := 172, descriptorIndex := 173, attributes := #[] }, { accessFlags := 26, nameIndex := 176, descriptorIndex := 173, attributes := #[] }, { accessFlags := 8, nameIndex := 344, descriptorIndex := 339, attributes := #[] }, { accessFlags := 8, nameIndex := 338, descriptorIndex := 339, attributes := #[] }, { accessFlags := 4120, nameIndex := 245, descriptorIndex := 246, attributes := #[] }])
  fields := #[{ name := "E", type := .double, accessFlags := 25, slot := 0, constantValue := 0 }, { name := "PI", type := .double, accessFlags := 25, slot := 1, constantValue := 0 }, { name := "TAU", type := .double, accessFlags := 25, slot := 2, constantValue := 0 }, { name := "DEGREES_TO_RADIANS", type := .double, accessFlags := 26, slot := 3, constantValue := 0 }, { name := "RADIANS_TO_DEGREES", type := .double, accessFlags := 26, slot := 4, constantValue := 0 }, { name := "negativeZeroFloatBits", type := .long, accessFlags := 26, slot := 5, constantValue := 0 }, { name := "negativeZeroDoubleBits", type := .long, accessFlags := 26, slot := 6, constantValue := 0 }, { name := "twoToTheDoubleScaleUp", type := .double, accessFlags := 8, slot := 7, constantValue := 0 }, { name := "twoToTheDoubleScaleDown", type := .double, accessFlags := 8, slot := 8, constantValue := 0 }, { name := "$assertionsDisabled", type := .boolean, accessFlags := 4120, slot := 9, constantValue := 0 }]
  methods := #[k13m0, k13m1]
  instanceTypes := #[]
  staticTypes := #[.double, .double, .double, .double, .double, .long, .long, .double, .double, .boolean]
  resolved := Array.replicate 460 none
  statics := none }

def pool14 : Array CpInfo := pool [(2, .class_ 4), (1, u "java/lang/Object"), (0, u "<init>"), (0, u "()V"), (1, .class_ 10), (1, u "java/lang/System"), (0, u "allowSecurityManager"), (0, u "I"), (16, u "cons"), (0, u "Ljava/io/Console;"), (77, .class_ 110), (1, u "java/lang/System$CallersHolder"), (43, u "initialErrStream"), (0, u "Ljava/io/PrintStream;"), (19, u "security"), (0, u "Ljava/lang/SecurityManager;"), (31, .class_ 209), (0, u "java/lang/System$1"), (7, u "props"), (0, u "Ljava/util/Properties;"), (2, u "lineSeparator"), (0, u "Ljava/lang/String;"), (96, .class_ 321), (1, u "java/lang/System$LoggerFinder"), (5, .class_ 328), (0, u "java/lang/System$Logger"), (67, u "err"), (2, u "out"), (91, u "notSupportedJnuEncoding"), (15, u "in"), (17, u "initialIn"), (0, u "Ljava/io/InputStream;"), (35, u "bootLayer"), (0, u "Ljava/lang/ModuleLayer;"), (99, .class_ 664), (0, u "java/lang/System$2"), (9, u "NEVER"), (2, u "MAYBE"), (49, u "arraycopy"), (0, u "(Ljava/lang/Object;ILjava/lang/Object;II)V"), (72, .class_ 802), (0, u "java/lang/System$Logger$Level")] 31

def k14m0 : Method := { name := "<init>", desc := "()V", sig := { parameters := [], returnType := none }, accessFlags := 2, code := none }
def k14m1 : Method := { name := "arraycopy", desc := "(Ljava/lang/Object;ILjava/lang/Object;II)V", sig := { parameters := [(.object "java/lang/Object"), .int, (.object "java/lang/Object"), .int, .int], returnType := none }, accessFlags := 265, code := none }
/-- java/lang/System -/
def k14 : Class := { plain "java/lang/System" (some 0) with
  accessFlags := 49
  interfaces := #[]
  cf := some (fileOf pool14 8 #[.nestMembers #[319, 327, 801, 108, 663, 208]] #[{ accessFlags := 2, nameIndex := 5, descriptorIndex := 6, attributes := #[] }, { accessFlags := 265, nameIndex := 727, descriptorIndex := 728, attributes := #[] }] 49 2 #[] #[{ accessFlags := 25, nameIndex := 507, descriptorIndex := 526, attributes := #[] }, { accessFlags := 25, nameIndex := 399, descriptorIndex := 155, attributes := #[] }, { accessFlags := 25, nameIndex := 396, descriptorIndex := 155, attributes := #[] }, { accessFlags := 10, nameIndex := 525, descriptorIndex := 526, attributes := #[] }, { accessFlags := 26, nameIndex := 674, descriptorIndex := 12, attributes := #[] }, { accessFlags := 26, nameIndex := 677, descriptorIndex := 12, attributes := #[] }, { accessFlags := 10, nameIndex := 11, descriptorIndex := 12, attributes := #[] }, { accessFlags := 74, nameIndex := 175, descriptorIndex := 176, attributes := #[] }, { accessFlags := 10, nameIndex := 491, descriptorIndex := 222, attributes := #[] }, { accessFlags := 74, nameIndex := 29, descriptorIndex := 30, attributes := #[] }, { accessFlags := 74, nameIndex := 154, descriptorIndex := 155, attributes := #[] }, { accessFlags := 10, nameIndex := 217, descriptorIndex := 218, attributes := #[] }, { accessFlags := 10, nameIndex := 221, descriptorIndex := 222, attributes := #[] }, { accessFlags := 8, nameIndex := 562, descriptorIndex := 563, attributes := #[] }])
  fields := #[{ name := "in", type := (.object "java/io/InputStream"), accessFlags := 25, slot := 0, constantValue := 0 }, { name := "out", type := (.object "java/io/PrintStream"), accessFlags := 25, slot := 1, constantValue := 0 }, { name := "err", type := (.object "java/io/PrintStream"), accessFlags := 25, slot := 2, constantValue := 0 }, { name := "initialIn", type := (.object "java/io/InputStream"), accessFlags := 10, slot := 3, constantValue := 0 }, { name := "NEVER", type := .int, accessFlags := 26, slot := 4, constantValue := 0 }, { name := "MAYBE", type := .int, accessFlags := 26, slot := 5, constantValue := 0 }, { name := "allowSecurityManager", type := .int, accessFlags := 10, slot := 6, constantValue := 0 }, { name := "security", type := (.object "java/lang/SecurityManager"), accessFlags := 74, slot := 7, constantValue := 0 }, { name := "notSupportedJnuEncoding", type := (.object "java/lang/String"), accessFlags := 10, slot := 8, constantValue := 0 }, { name := "cons", type := (.object "java/io/Console"), accessFlags := 74, slot := 9, constantValue := 0 }, { name := "initialErrStream", type := (.object "java/io/PrintStream"), accessFlags := 74, slot := 10, constantValue := 0 }, { name := "props", type := (.object "java/util/Properties"), accessFlags := 10, slot := 11, constantValue := 0 }, { name := "lineSeparator", type := (.object "java/lang/String"), accessFlags := 10, slot := 12, constantValue := 0 }, { name := "bootLayer", type := (.object "java/lang/ModuleLayer"), accessFlags := 8, slot := 13, constantValue := 0 }]
  methods := #[k14m0, k14m1]
  instanceTypes := #[]
  staticTypes := #[(.object "java/io/InputStream"), (.object "java/io/PrintStream"), (.object "java/io/PrintStream"), (.object "java/io/InputStream"), .int, .int, .int, (.object "java/lang/SecurityManager"), (.object "java/lang/String"), (.object "java/io/Console"), (.object "java/io/PrintStream"), (.object "java/util/Properties"), (.object "java/lang/String"), (.object "java/lang/ModuleLayer")]
  resolved := Array.replicate 834 none
  statics := none }

def pool15 : Array CpInfo := pool [(1, u "java/lang/Cloneable"), (0, .class_ 1), (0, u "java/lang/Object"), (0, .class_ 3)] 3

/-- java/lang/Cloneable -/
def k15 : Class := { plain "java/lang/Cloneable" (some 0) with
  accessFlags := 1537
  interfaces := #[]
  cf := some (fileOf pool15 2 #[] #[] 1537 4 #[] #[])
  fields := #[]
  methods := #[]
  instanceTypes := #[]
  staticTypes := #[]
  resolved := Array.replicate 8 none
  statics := none }

/-- the primitive byte -/
def k16 : Class := { plain "byte" none with kind := .primitive 'B', accessFlags := 0x411 }
/-- [B -/
def k17 : Class := { plain "[B" (some 0) with kind := .array 16 .byte, interfaces := #[15, 5], accessFlags := 1041 }

/-- the primitive int -/
def k18 : Class := { plain "int" none with kind := .primitive 'I', accessFlags := 0x411 }
/-- [I -/
def k19 : Class := { plain "[I" (some 0) with kind := .array 18 .int, interfaces := #[15, 5], accessFlags := 1041 }

/-- [Lcom/example/theuth/theuth/io/Followed$Chunk; -/
def k20 : Class := { plain "[Lcom/example/theuth/theuth/io/Followed$Chunk;" (some 0) with kind := .array 4 (.object "com/example/theuth/theuth/io/Followed$Chunk"), interfaces := #[15, 5], accessFlags := 1041 }

/-- [Ljava/lang/Integer; -/
def k21 : Class := { plain "[Ljava/lang/Integer;" (some 0) with kind := .array 10 (.object "java/lang/Integer"), interfaces := #[15, 5], accessFlags := 1041 }

/-- [Ljava/lang/Object; -/
def k22 : Class := { plain "[Ljava/lang/Object;" (some 0) with kind := .array 0 (.object "java/lang/Object"), interfaces := #[15, 5], accessFlags := 1041 }

def heap : Heap := #[{ cls := 11, slots := #[.int 0, .int 127, .ref 1, .null, .int 0], vm := .statics 11 },
  { cls := 21, slots := #[.ref 2, .ref 3, .ref 4, .ref 5, .ref 6, .ref 7, .ref 8, .ref 9, .ref 10, .ref 11, .ref 12, .ref 13, .ref 14, .ref 15, .ref 16, .ref 17, .ref 18, .ref 19, .ref 20, .ref 21, .ref 22, .ref 23, .ref 24, .ref 25, .ref 26, .ref 27, .ref 28, .ref 29, .ref 30, .ref 31, .ref 32, .ref 33, .ref 34, .ref 35, .ref 36, .ref 37, .ref 38, .ref 39, .ref 40, .ref 41, .ref 42, .ref 43, .ref 44, .ref 45, .ref 46, .ref 47, .ref 48, .ref 49, .ref 50, .ref 51, .ref 52, .ref 53, .ref 54, .ref 55, .ref 56, .ref 57, .ref 58, .ref 59, .ref 60, .ref 61, .ref 62, .ref 63, .ref 64, .ref 65, .ref 66, .ref 67, .ref 68, .ref 69, .ref 70, .ref 71, .ref 72, .ref 73, .ref 74, .ref 75, .ref 76, .ref 77, .ref 78, .ref 79, .ref 80, .ref 81, .ref 82, .ref 83, .ref 84, .ref 85, .ref 86, .ref 87, .ref 88, .ref 89, .ref 90, .ref 91, .ref 92, .ref 93, .ref 94, .ref 95, .ref 96, .ref 97, .ref 98, .ref 99, .ref 100, .ref 101, .ref 102, .ref 103, .ref 104, .ref 105, .ref 106, .ref 107, .ref 108, .ref 109, .ref 110, .ref 111, .ref 112, .ref 113, .ref 114, .ref 115, .ref 116, .ref 117, .ref 118, .ref 119, .ref 120, .ref 121, .ref 122, .ref 123, .ref 124, .ref 125, .ref 126, .ref 127, .ref 128, .ref 129, .ref 130, .ref 131, .ref 132, .ref 133, .ref 134, .ref 135, .ref 136, .ref 137, .ref 138, .ref 139, .ref 140, .ref 141, .ref 142, .ref 143, .ref 144, .ref 145, .ref 146, .ref 147, .ref 148, .ref 149, .ref 150, .ref 151, .ref 152, .ref 153, .ref 154, .ref 155, .ref 156, .ref 157, .ref 158, .ref 159, .ref 160, .ref 161, .ref 162, .ref 163, .ref 164, .ref 165, .ref 166, .ref 167, .ref 168, .ref 169, .ref 170, .ref 171, .ref 172, .ref 173, .ref 174, .ref 175, .ref 176, .ref 177, .ref 178, .ref 179, .ref 180, .ref 181, .ref 182, .ref 183, .ref 184, .ref 185, .ref 186, .ref 187, .ref 188, .ref 189, .ref 190, .ref 191, .ref 192, .ref 193, .ref 194, .ref 195, .ref 196, .ref 197, .ref 198, .ref 199, .ref 200, .ref 201, .ref 202, .ref 203, .ref 204, .ref 205, .ref 206, .ref 207, .ref 208, .ref 209, .ref 210, .ref 211, .ref 212, .ref 213, .ref 214, .ref 215, .ref 216, .ref 217, .ref 218, .ref 219, .ref 220, .ref 221, .ref 222, .ref 223, .ref 224, .ref 225, .ref 226, .ref 227, .ref 228, .ref 229, .ref 230, .ref 231, .ref 232, .ref 233, .ref 234, .ref 235, .ref 236, .ref 237, .ref 238, .ref 239, .ref 240, .ref 241, .ref 242, .ref 243, .ref 244, .ref 245, .ref 246, .ref 247, .ref 248, .ref 249, .ref 250, .ref 251, .ref 252, .ref 253, .ref 254, .ref 255, .ref 256, .ref 257], vm := .none },
  { cls := 10, slots := #[.int (-128)], vm := .none },
  { cls := 10, slots := #[.int (-127)], vm := .none },
  { cls := 10, slots := #[.int (-126)], vm := .none },
  { cls := 10, slots := #[.int (-125)], vm := .none },
  { cls := 10, slots := #[.int (-124)], vm := .none },
  { cls := 10, slots := #[.int (-123)], vm := .none },
  { cls := 10, slots := #[.int (-122)], vm := .none },
  { cls := 10, slots := #[.int (-121)], vm := .none },
  { cls := 10, slots := #[.int (-120)], vm := .none },
  { cls := 10, slots := #[.int (-119)], vm := .none },
  { cls := 10, slots := #[.int (-118)], vm := .none },
  { cls := 10, slots := #[.int (-117)], vm := .none },
  { cls := 10, slots := #[.int (-116)], vm := .none },
  { cls := 10, slots := #[.int (-115)], vm := .none },
  { cls := 10, slots := #[.int (-114)], vm := .none },
  { cls := 10, slots := #[.int (-113)], vm := .none },
  { cls := 10, slots := #[.int (-112)], vm := .none },
  { cls := 10, slots := #[.int (-111)], vm := .none },
  { cls := 10, slots := #[.int (-110)], vm := .none },
  { cls := 10, slots := #[.int (-109)], vm := .none },
  { cls := 10, slots := #[.int (-108)], vm := .none },
  { cls := 10, slots := #[.int (-107)], vm := .none },
  { cls := 10, slots := #[.int (-106)], vm := .none },
  { cls := 10, slots := #[.int (-105)], vm := .none },
  { cls := 10, slots := #[.int (-104)], vm := .none },
  { cls := 10, slots := #[.int (-103)], vm := .none },
  { cls := 10, slots := #[.int (-102)], vm := .none },
  { cls := 10, slots := #[.int (-101)], vm := .none },
  { cls := 10, slots := #[.int (-100)], vm := .none },
  { cls := 10, slots := #[.int (-99)], vm := .none },
  { cls := 10, slots := #[.int (-98)], vm := .none },
  { cls := 10, slots := #[.int (-97)], vm := .none },
  { cls := 10, slots := #[.int (-96)], vm := .none },
  { cls := 10, slots := #[.int (-95)], vm := .none },
  { cls := 10, slots := #[.int (-94)], vm := .none },
  { cls := 10, slots := #[.int (-93)], vm := .none },
  { cls := 10, slots := #[.int (-92)], vm := .none },
  { cls := 10, slots := #[.int (-91)], vm := .none },
  { cls := 10, slots := #[.int (-90)], vm := .none },
  { cls := 10, slots := #[.int (-89)], vm := .none },
  { cls := 10, slots := #[.int (-88)], vm := .none },
  { cls := 10, slots := #[.int (-87)], vm := .none },
  { cls := 10, slots := #[.int (-86)], vm := .none },
  { cls := 10, slots := #[.int (-85)], vm := .none },
  { cls := 10, slots := #[.int (-84)], vm := .none },
  { cls := 10, slots := #[.int (-83)], vm := .none },
  { cls := 10, slots := #[.int (-82)], vm := .none },
  { cls := 10, slots := #[.int (-81)], vm := .none },
  { cls := 10, slots := #[.int (-80)], vm := .none },
  { cls := 10, slots := #[.int (-79)], vm := .none },
  { cls := 10, slots := #[.int (-78)], vm := .none },
  { cls := 10, slots := #[.int (-77)], vm := .none },
  { cls := 10, slots := #[.int (-76)], vm := .none },
  { cls := 10, slots := #[.int (-75)], vm := .none },
  { cls := 10, slots := #[.int (-74)], vm := .none },
  { cls := 10, slots := #[.int (-73)], vm := .none },
  { cls := 10, slots := #[.int (-72)], vm := .none },
  { cls := 10, slots := #[.int (-71)], vm := .none },
  { cls := 10, slots := #[.int (-70)], vm := .none },
  { cls := 10, slots := #[.int (-69)], vm := .none },
  { cls := 10, slots := #[.int (-68)], vm := .none },
  { cls := 10, slots := #[.int (-67)], vm := .none },
  { cls := 10, slots := #[.int (-66)], vm := .none },
  { cls := 10, slots := #[.int (-65)], vm := .none },
  { cls := 10, slots := #[.int (-64)], vm := .none },
  { cls := 10, slots := #[.int (-63)], vm := .none },
  { cls := 10, slots := #[.int (-62)], vm := .none },
  { cls := 10, slots := #[.int (-61)], vm := .none },
  { cls := 10, slots := #[.int (-60)], vm := .none },
  { cls := 10, slots := #[.int (-59)], vm := .none },
  { cls := 10, slots := #[.int (-58)], vm := .none },
  { cls := 10, slots := #[.int (-57)], vm := .none },
  { cls := 10, slots := #[.int (-56)], vm := .none },
  { cls := 10, slots := #[.int (-55)], vm := .none },
  { cls := 10, slots := #[.int (-54)], vm := .none },
  { cls := 10, slots := #[.int (-53)], vm := .none },
  { cls := 10, slots := #[.int (-52)], vm := .none },
  { cls := 10, slots := #[.int (-51)], vm := .none },
  { cls := 10, slots := #[.int (-50)], vm := .none },
  { cls := 10, slots := #[.int (-49)], vm := .none },
  { cls := 10, slots := #[.int (-48)], vm := .none },
  { cls := 10, slots := #[.int (-47)], vm := .none },
  { cls := 10, slots := #[.int (-46)], vm := .none },
  { cls := 10, slots := #[.int (-45)], vm := .none },
  { cls := 10, slots := #[.int (-44)], vm := .none },
  { cls := 10, slots := #[.int (-43)], vm := .none },
  { cls := 10, slots := #[.int (-42)], vm := .none },
  { cls := 10, slots := #[.int (-41)], vm := .none },
  { cls := 10, slots := #[.int (-40)], vm := .none },
  { cls := 10, slots := #[.int (-39)], vm := .none },
  { cls := 10, slots := #[.int (-38)], vm := .none },
  { cls := 10, slots := #[.int (-37)], vm := .none },
  { cls := 10, slots := #[.int (-36)], vm := .none },
  { cls := 10, slots := #[.int (-35)], vm := .none },
  { cls := 10, slots := #[.int (-34)], vm := .none },
  { cls := 10, slots := #[.int (-33)], vm := .none },
  { cls := 10, slots := #[.int (-32)], vm := .none },
  { cls := 10, slots := #[.int (-31)], vm := .none },
  { cls := 10, slots := #[.int (-30)], vm := .none },
  { cls := 10, slots := #[.int (-29)], vm := .none },
  { cls := 10, slots := #[.int (-28)], vm := .none },
  { cls := 10, slots := #[.int (-27)], vm := .none },
  { cls := 10, slots := #[.int (-26)], vm := .none },
  { cls := 10, slots := #[.int (-25)], vm := .none },
  { cls := 10, slots := #[.int (-24)], vm := .none },
  { cls := 10, slots := #[.int (-23)], vm := .none },
  { cls := 10, slots := #[.int (-22)], vm := .none },
  { cls := 10, slots := #[.int (-21)], vm := .none },
  { cls := 10, slots := #[.int (-20)], vm := .none },
  { cls := 10, slots := #[.int (-19)], vm := .none },
  { cls := 10, slots := #[.int (-18)], vm := .none },
  { cls := 10, slots := #[.int (-17)], vm := .none },
  { cls := 10, slots := #[.int (-16)], vm := .none },
  { cls := 10, slots := #[.int (-15)], vm := .none },
  { cls := 10, slots := #[.int (-14)], vm := .none },
  { cls := 10, slots := #[.int (-13)], vm := .none },
  { cls := 10, slots := #[.int (-12)], vm := .none },
  { cls := 10, slots := #[.int (-11)], vm := .none },
  { cls := 10, slots := #[.int (-10)], vm := .none },
  { cls := 10, slots := #[.int (-9)], vm := .none },
  { cls := 10, slots := #[.int (-8)], vm := .none },
  { cls := 10, slots := #[.int (-7)], vm := .none },
  { cls := 10, slots := #[.int (-6)], vm := .none },
  { cls := 10, slots := #[.int (-5)], vm := .none },
  { cls := 10, slots := #[.int (-4)], vm := .none },
  { cls := 10, slots := #[.int (-3)], vm := .none },
  { cls := 10, slots := #[.int (-2)], vm := .none },
  { cls := 10, slots := #[.int (-1)], vm := .none },
  { cls := 10, slots := #[.int 0], vm := .none },
  { cls := 10, slots := #[.int 1], vm := .none },
  { cls := 10, slots := #[.int 2], vm := .none },
  { cls := 10, slots := #[.int 3], vm := .none },
  { cls := 10, slots := #[.int 4], vm := .none },
  { cls := 10, slots := #[.int 5], vm := .none },
  { cls := 10, slots := #[.int 6], vm := .none },
  { cls := 10, slots := #[.int 7], vm := .none },
  { cls := 10, slots := #[.int 8], vm := .none },
  { cls := 10, slots := #[.int 9], vm := .none },
  { cls := 10, slots := #[.int 10], vm := .none },
  { cls := 10, slots := #[.int 11], vm := .none },
  { cls := 10, slots := #[.int 12], vm := .none },
  { cls := 10, slots := #[.int 13], vm := .none },
  { cls := 10, slots := #[.int 14], vm := .none },
  { cls := 10, slots := #[.int 15], vm := .none },
  { cls := 10, slots := #[.int 16], vm := .none },
  { cls := 10, slots := #[.int 17], vm := .none },
  { cls := 10, slots := #[.int 18], vm := .none },
  { cls := 10, slots := #[.int 19], vm := .none },
  { cls := 10, slots := #[.int 20], vm := .none },
  { cls := 10, slots := #[.int 21], vm := .none },
  { cls := 10, slots := #[.int 22], vm := .none },
  { cls := 10, slots := #[.int 23], vm := .none },
  { cls := 10, slots := #[.int 24], vm := .none },
  { cls := 10, slots := #[.int 25], vm := .none },
  { cls := 10, slots := #[.int 26], vm := .none },
  { cls := 10, slots := #[.int 27], vm := .none },
  { cls := 10, slots := #[.int 28], vm := .none },
  { cls := 10, slots := #[.int 29], vm := .none },
  { cls := 10, slots := #[.int 30], vm := .none },
  { cls := 10, slots := #[.int 31], vm := .none },
  { cls := 10, slots := #[.int 32], vm := .none },
  { cls := 10, slots := #[.int 33], vm := .none },
  { cls := 10, slots := #[.int 34], vm := .none },
  { cls := 10, slots := #[.int 35], vm := .none },
  { cls := 10, slots := #[.int 36], vm := .none },
  { cls := 10, slots := #[.int 37], vm := .none },
  { cls := 10, slots := #[.int 38], vm := .none },
  { cls := 10, slots := #[.int 39], vm := .none },
  { cls := 10, slots := #[.int 40], vm := .none },
  { cls := 10, slots := #[.int 41], vm := .none },
  { cls := 10, slots := #[.int 42], vm := .none },
  { cls := 10, slots := #[.int 43], vm := .none },
  { cls := 10, slots := #[.int 44], vm := .none },
  { cls := 10, slots := #[.int 45], vm := .none },
  { cls := 10, slots := #[.int 46], vm := .none },
  { cls := 10, slots := #[.int 47], vm := .none },
  { cls := 10, slots := #[.int 48], vm := .none },
  { cls := 10, slots := #[.int 49], vm := .none },
  { cls := 10, slots := #[.int 50], vm := .none },
  { cls := 10, slots := #[.int 51], vm := .none },
  { cls := 10, slots := #[.int 52], vm := .none },
  { cls := 10, slots := #[.int 53], vm := .none },
  { cls := 10, slots := #[.int 54], vm := .none },
  { cls := 10, slots := #[.int 55], vm := .none },
  { cls := 10, slots := #[.int 56], vm := .none },
  { cls := 10, slots := #[.int 57], vm := .none },
  { cls := 10, slots := #[.int 58], vm := .none },
  { cls := 10, slots := #[.int 59], vm := .none },
  { cls := 10, slots := #[.int 60], vm := .none },
  { cls := 10, slots := #[.int 61], vm := .none },
  { cls := 10, slots := #[.int 62], vm := .none },
  { cls := 10, slots := #[.int 63], vm := .none },
  { cls := 10, slots := #[.int 64], vm := .none },
  { cls := 10, slots := #[.int 65], vm := .none },
  { cls := 10, slots := #[.int 66], vm := .none },
  { cls := 10, slots := #[.int 67], vm := .none },
  { cls := 10, slots := #[.int 68], vm := .none },
  { cls := 10, slots := #[.int 69], vm := .none },
  { cls := 10, slots := #[.int 70], vm := .none },
  { cls := 10, slots := #[.int 71], vm := .none },
  { cls := 10, slots := #[.int 72], vm := .none },
  { cls := 10, slots := #[.int 73], vm := .none },
  { cls := 10, slots := #[.int 74], vm := .none },
  { cls := 10, slots := #[.int 75], vm := .none },
  { cls := 10, slots := #[.int 76], vm := .none },
  { cls := 10, slots := #[.int 77], vm := .none },
  { cls := 10, slots := #[.int 78], vm := .none },
  { cls := 10, slots := #[.int 79], vm := .none },
  { cls := 10, slots := #[.int 80], vm := .none },
  { cls := 10, slots := #[.int 81], vm := .none },
  { cls := 10, slots := #[.int 82], vm := .none },
  { cls := 10, slots := #[.int 83], vm := .none },
  { cls := 10, slots := #[.int 84], vm := .none },
  { cls := 10, slots := #[.int 85], vm := .none },
  { cls := 10, slots := #[.int 86], vm := .none },
  { cls := 10, slots := #[.int 87], vm := .none },
  { cls := 10, slots := #[.int 88], vm := .none },
  { cls := 10, slots := #[.int 89], vm := .none },
  { cls := 10, slots := #[.int 90], vm := .none },
  { cls := 10, slots := #[.int 91], vm := .none },
  { cls := 10, slots := #[.int 92], vm := .none },
  { cls := 10, slots := #[.int 93], vm := .none },
  { cls := 10, slots := #[.int 94], vm := .none },
  { cls := 10, slots := #[.int 95], vm := .none },
  { cls := 10, slots := #[.int 96], vm := .none },
  { cls := 10, slots := #[.int 97], vm := .none },
  { cls := 10, slots := #[.int 98], vm := .none },
  { cls := 10, slots := #[.int 99], vm := .none },
  { cls := 10, slots := #[.int 100], vm := .none },
  { cls := 10, slots := #[.int 101], vm := .none },
  { cls := 10, slots := #[.int 102], vm := .none },
  { cls := 10, slots := #[.int 103], vm := .none },
  { cls := 10, slots := #[.int 104], vm := .none },
  { cls := 10, slots := #[.int 105], vm := .none },
  { cls := 10, slots := #[.int 106], vm := .none },
  { cls := 10, slots := #[.int 107], vm := .none },
  { cls := 10, slots := #[.int 108], vm := .none },
  { cls := 10, slots := #[.int 109], vm := .none },
  { cls := 10, slots := #[.int 110], vm := .none },
  { cls := 10, slots := #[.int 111], vm := .none },
  { cls := 10, slots := #[.int 112], vm := .none },
  { cls := 10, slots := #[.int 113], vm := .none },
  { cls := 10, slots := #[.int 114], vm := .none },
  { cls := 10, slots := #[.int 115], vm := .none },
  { cls := 10, slots := #[.int 116], vm := .none },
  { cls := 10, slots := #[.int 117], vm := .none },
  { cls := 10, slots := #[.int 118], vm := .none },
  { cls := 10, slots := #[.int 119], vm := .none },
  { cls := 10, slots := #[.int 120], vm := .none },
  { cls := 10, slots := #[.int 121], vm := .none },
  { cls := 10, slots := #[.int 122], vm := .none },
  { cls := 10, slots := #[.int 123], vm := .none },
  { cls := 10, slots := #[.int 124], vm := .none },
  { cls := 10, slots := #[.int 125], vm := .none },
  { cls := 10, slots := #[.int 126], vm := .none },
  { cls := 10, slots := #[.int 127], vm := .none }]
def classes : Array Class := #[k0, k1, k2, k3, k4, k5, k6, k7, k8, k9, k10, k11, k12, k13, k14, k15, k16, k17, k18, k19, k20, k21, k22]
def interned : List (Array UInt16 × Addr) := []
def slotsUsed : Nat := 517
def theMethod : MethodId := ⟨1, 1⟩
def args0 : Array Value := #[.int 9, .int 9, .int 9, .int 9, .int 9, .int 9]
def aboutOver (below : List Frame) : State where
  vm := { classes := classes, interned := interned.toArray }
  heap := heap
  slotsUsed := slotsUsed
  threads := #[{ frames := .invoking theMethod args0 :: below }]
def below0 : List Frame := [.native { method := ⟨0, 0⟩, args := #[] }]
def about1 : State := aboutOver below0
def p0 : Program := .bare "" "" ""
def e0 : Env := launch0.env 0 0 0
theorem w_frames : about1.frames = Frame.invoking theMethod args0 :: below0 := rfl
set_option maxRecDepth 65536 in
theorem w_args : argsFit about1.vm theMethod args0 = true := by decide +kernel
set_option maxRecDepth 65536 in
theorem w_heap : heapFits about1 = true := by decide +kernel
set_option maxRecDepth 65536 in
theorem w_runnable : about1.curStatus? = some .runnable := by decide +kernel
set_option maxRecDepth 65536 in
theorem w_alone : about1.alone = true := by decide +kernel
set_option maxRecDepth 65536 in
theorem w_named : about1.methodNamed? x = some theMethod := by decide +kernel
set_option maxRecDepth 65536 in
theorem w_hears : about1.hears theMethod below0 = true := by decide +kernel
set_option maxRecDepth 65536 in
theorem w_ripe : about1.ripe theMethod args0 below0 = true := by decide +kernel
theorem w_running : about1.status = .running := rfl
set_option maxRecDepth 65536 in
theorem w_room : about1.hasRoom e0.platform room_1 = true :=
  launch0.hasRoom_least _ room_1 (by decide +kernel) (by decide +kernel) (by decide +kernel) (by decide +kernel) (by decide +kernel) (by decide +kernel)
theorem allAtoms_all (ts : List Jvm.Cond) (a : Array Jvm.Value) (st : Jvm.State) : (allAtoms ts).before a st = ts.all (fun c => c.before a st) := by
  induction ts with
  | nil => rfl
  | cons c t ih =>
    show (Jvm.Cond.and c (allAtoms t)).before a st = _
    rw [Jvm.Cond.before_and, ih, List.all_cons]
def words1 : List Jvm.Cond := Jvm.Cond.code x code maxLocals ret :: tables_1
/-- a 'code' word, met by the world's own term for the bytes: nothing is compared byte by byte -/
theorem code_word {y : MethodName} {bytes : ByteArray} {mx : Nat} {rt : Option FieldType} {a : Array Value} {s : State} {m : MethodId} {meth : Method} {c : Code} (h1 : s.methodNamed? y = some m) (h2 : s.vm.method? m = some meth) (h3 : meth.code = some c) (h4 : c.code = bytes)
    (h5 : (c.maxLocals == mx && c.exceptionTable.isEmpty && decide (c.maxStack ≤ mostOperands) && decide (meth.sig.returnType = rt) && !meth.locks && decide (parseMethodDescriptor y.desc = some meth.sig)) = true) : (Jvm.Cond.code y bytes mx rt).before a s = true := by
  simp only [Bool.and_eq_true, beq_iff_eq, Bool.not_eq_true', decide_eq_true_eq] at h5
  obtain ⟨⟨⟨⟨⟨g1, g2⟩, g3⟩, g4⟩, g5⟩, g6⟩ := h5
  simp [Cond.before, Cond.holds, Cond.value, h1, h2, h3, h4, g1, g2, g3, g4, g5, g6]
def isCode : Jvm.Cond → Bool
  | .code _ _ _ _ => true
  | _ => false
theorem all_split {L : List Jvm.Cond} {P : Jvm.Cond → Bool} (h1 : L.all (fun c => isCode c || P c) = true) (h2 : ∀ c ∈ L.filter isCode, P c = true) : L.all P = true := by
  refine List.all_eq_true.mpr fun c hc => ?_
  have h := List.all_eq_true.mp h1 c hc
  rcases Bool.eq_false_or_eq_true (isCode c) with hi | hi
  · exact h2 c (List.mem_filter.mpr ⟨hc, hi⟩)
  · simpa [hi] using h
set_option maxRecDepth 65536 in
theorem w_c0 : (Jvm.Cond.code x code maxLocals ret).before args0 about1 = true := code_word (m := ⟨1, 1⟩) (meth := k1m1) (c := k1c1) (by decide +kernel) rfl rfl rfl (by decide +kernel)
set_option maxRecDepth 65536 in
theorem w_c1 : (Jvm.Cond.code ({ cls := "com/example/theuth/theuth/io/Followed", name := "<init>", desc := "()V" } : Jvm.MethodName) prog_116_method_1_code (1 : Nat) (Option.none : Option Jvm.ClassFile.FieldType)).before args0 about1 = true := code_word (m := ⟨2, 0⟩) (meth := k2m0) (c := k2c0) (by decide +kernel) rfl rfl rfl (by decide +kernel)
set_option maxRecDepth 65536 in
theorem w_c2 : (Jvm.Cond.code ({ cls := "java/lang/Object", name := "<init>", desc := "()V" } : Jvm.MethodName) object_method_1_code (1 : Nat) (Option.none : Option Jvm.ClassFile.FieldType)).before args0 about1 = true := code_word (m := ⟨0, 0⟩) (meth := k0m0) (c := k0c0) (by decide +kernel) rfl rfl rfl (by decide +kernel)
set_option maxRecDepth 65536 in
theorem w_c3 : (Jvm.Cond.code ({ cls := "com/example/theuth/theuth/io/Followed$Offsets", name := "<init>", desc := "(Z)V" } : Jvm.MethodName) prog_118_method_1_code (2 : Nat) (Option.none : Option Jvm.ClassFile.FieldType)).before args0 about1 = true := code_word (m := ⟨3, 0⟩) (meth := k3m0) (c := k3c0) (by decide +kernel) rfl rfl rfl (by decide +kernel)
set_option maxRecDepth 65536 in
theorem w_c4 : (Jvm.Cond.code ({ cls := "com/example/theuth/theuth/io/Followed$Chunk", name := "<init>", desc := "(Z)V" } : Jvm.MethodName) prog_117_method_1_code (2 : Nat) (Option.none : Option Jvm.ClassFile.FieldType)).before args0 about1 = true := code_word (m := ⟨4, 0⟩) (meth := k4m0) (c := k4c0) (by decide +kernel) rfl rfl rfl (by decide +kernel)
set_option maxRecDepth 65536 in
theorem w_c5 : (Jvm.Cond.code ({ cls := "java/lang/Integer", name := "valueOf", desc := "(I)Ljava/lang/Integer;" } : Jvm.MethodName) jdk_33_method_22_code (1 : Nat) (Option.some (Jvm.ClassFile.FieldType.object "java/lang/Integer"))).before args0 about1 = true := code_word (m := ⟨10, 0⟩) (meth := k10m0) (c := k10c0) (by decide +kernel) rfl rfl rfl (by decide +kernel)
set_option maxRecDepth 65536 in
theorem w_c6 : (Jvm.Cond.code ({ cls := "com/example/theuth/theuth/io/Followed", name := "find", desc := "(I)J" } : Jvm.MethodName) prog_116_method_2_code (4 : Nat) (Option.some Jvm.ClassFile.FieldType.long)).before args0 about1 = true := code_word (m := ⟨2, 1⟩) (meth := k2m1) (c := k2c1) (by decide +kernel) rfl rfl rfl (by decide +kernel)
set_option maxRecDepth 65536 in
theorem w_c7 : (Jvm.Cond.code ({ cls := "com/example/theuth/theuth/io/Followed$Offsets", name := "find", desc := "(I)J" } : Jvm.MethodName) prog_118_method_2_code (6 : Nat) (Option.some Jvm.ClassFile.FieldType.long)).before args0 about1 = true := code_word (m := ⟨3, 1⟩) (meth := k3m1) (c := k3c1) (by decide +kernel) rfl rfl rfl (by decide +kernel)
set_option maxRecDepth 65536 in
theorem w_c8 : (Jvm.Cond.code ({ cls := "com/example/theuth/theuth/io/Followed$Offsets", name := "isEmpty", desc := "()Z" } : Jvm.MethodName) prog_118_method_9_code (1 : Nat) (Option.some Jvm.ClassFile.FieldType.boolean)).before args0 about1 = true := code_word (m := ⟨3, 5⟩) (meth := k3m5) (c := k3c5) (by decide +kernel) rfl rfl rfl (by decide +kernel)
set_option maxRecDepth 65536 in
theorem w_c9 : (Jvm.Cond.code ({ cls := "com/example/theuth/theuth/io/Followed", name := "add", desc := "(JIILjava/lang/Object;)V" } : Jvm.MethodName) prog_116_method_9_code (6 : Nat) (Option.none : Option Jvm.ClassFile.FieldType)).before args0 about1 = true := code_word (m := ⟨2, 3⟩) (meth := k2m3) (c := k2c3) (by decide +kernel) rfl rfl rfl (by decide +kernel)
set_option maxRecDepth 65536 in
theorem w_c10 : (Jvm.Cond.code ({ cls := "com/example/theuth/theuth/io/Followed$Offsets", name := "append", desc := "(IILjava/lang/Object;)Z" } : Jvm.MethodName) prog_118_method_5_code (6 : Nat) (Option.some Jvm.ClassFile.FieldType.boolean)).before args0 about1 = true := code_word (m := ⟨3, 3⟩) (meth := k3m3) (c := k3c3) (by decide +kernel) rfl rfl rfl (by decide +kernel)
set_option maxRecDepth 65536 in
theorem w_c11 : (Jvm.Cond.code ({ cls := "java/util/Arrays", name := "binarySearch", desc := "([IIII)I" } : Jvm.MethodName) jdk_65_method_58_code (4 : Nat) (Option.some Jvm.ClassFile.FieldType.int)).before args0 about1 = true := code_word (m := ⟨12, 2⟩) (meth := k12m2) (c := k12c2) (by decide +kernel) rfl rfl rfl (by decide +kernel)
set_option maxRecDepth 65536 in
theorem w_c12 : (Jvm.Cond.code ({ cls := "java/util/Arrays", name := "rangeCheck", desc := "(III)V" } : Jvm.MethodName) jdk_65_method_30_code (3 : Nat) (Option.none : Option Jvm.ClassFile.FieldType)).before args0 about1 = true := code_word (m := ⟨12, 1⟩) (meth := k12m1) (c := k12c1) (by decide +kernel) rfl rfl rfl (by decide +kernel)
set_option maxRecDepth 65536 in
theorem w_c13 : (Jvm.Cond.code ({ cls := "java/util/Arrays", name := "binarySearch0", desc := "([IIII)I" } : Jvm.MethodName) jdk_65_method_59_code (8 : Nat) (Option.some Jvm.ClassFile.FieldType.int)).before args0 about1 = true := code_word (m := ⟨12, 3⟩) (meth := k12m3) (c := k12c3) (by decide +kernel) rfl rfl rfl (by decide +kernel)
set_option maxRecDepth 65536 in
theorem w_c14 : (Jvm.Cond.code ({ cls := "java/lang/Math", name := "max", desc := "(II)I" } : Jvm.MethodName) jdk_29_method_65_code (2 : Nat) (Option.some Jvm.ClassFile.FieldType.int)).before args0 about1 = true := code_word (m := ⟨13, 1⟩) (meth := k13m1) (c := k13c1) (by decide +kernel) rfl rfl rfl (by decide +kernel)
set_option maxRecDepth 65536 in
theorem w_c15 : (Jvm.Cond.code ({ cls := "com/example/theuth/theuth/io/Followed", name := "insert", desc := "(JIILjava/lang/Object;)V" } : Jvm.MethodName) prog_116_method_10_code (6 : Nat) (Option.none : Option Jvm.ClassFile.FieldType)).before args0 about1 = true := code_word (m := ⟨2, 4⟩) (meth := k2m4) (c := k2c4) (by decide +kernel) rfl rfl rfl (by decide +kernel)
set_option maxRecDepth 65536 in
theorem w_c16 : (Jvm.Cond.code ({ cls := "com/example/theuth/theuth/io/Followed$Offsets", name := "holds", desc := "(JI)Z" } : Jvm.MethodName) prog_118_method_4_code (9 : Nat) (Option.some Jvm.ClassFile.FieldType.boolean)).before args0 about1 = true := code_word (m := ⟨3, 2⟩) (meth := k3m2) (c := k3c2) (by decide +kernel) rfl rfl rfl (by decide +kernel)
set_option maxRecDepth 65536 in
theorem w_c17 : (Jvm.Cond.code ({ cls := "com/example/theuth/theuth/io/Followed$Offsets", name := "insert", desc := "(JIILjava/lang/Object;)V" } : Jvm.MethodName) prog_118_method_6_code (10 : Nat) (Option.none : Option Jvm.ClassFile.FieldType)).before args0 about1 = true := code_word (m := ⟨3, 4⟩) (meth := k3m4) (c := k3c4) (by decide +kernel) rfl rfl rfl (by decide +kernel)
set_option maxRecDepth 65536 in
theorem w_c18 : (Jvm.Cond.code ({ cls := "com/example/theuth/theuth/io/Followed", name := "containing", desc := "(JI)I" } : Jvm.MethodName) prog_116_method_7_code (7 : Nat) (Option.some Jvm.ClassFile.FieldType.int)).before args0 about1 = true := code_word (m := ⟨2, 2⟩) (meth := k2m2) (c := k2c2) (by decide +kernel) rfl rfl rfl (by decide +kernel)
def codes1 : List Jvm.Cond := [Jvm.Cond.code x code maxLocals ret, Jvm.Cond.code ({ cls := "com/example/theuth/theuth/io/Followed", name := "<init>", desc := "()V" } : Jvm.MethodName) prog_116_method_1_code (1 : Nat) (Option.none : Option Jvm.ClassFile.FieldType), Jvm.Cond.code ({ cls := "java/lang/Object", name := "<init>", desc := "()V" } : Jvm.MethodName) object_method_1_code (1 : Nat) (Option.none : Option Jvm.ClassFile.FieldType), Jvm.Cond.code ({ cls := "com/example/theuth/theuth/io/Followed$Offsets", name := "<init>", desc := "(Z)V" } : Jvm.MethodName) prog_118_method_1_code (2 : Nat) (Option.none : Option Jvm.ClassFile.FieldType), Jvm.Cond.code ({ cls := "com/example/theuth/theuth/io/Followed$Chunk", name := "<init>", desc := "(Z)V" } : Jvm.MethodName) prog_117_method_1_code (2 : Nat) (Option.none : Option Jvm.ClassFile.FieldType), Jvm.Cond.code ({ cls := "java/lang/Integer", name := "valueOf", desc := "(I)Ljava/lang/Integer;" } : Jvm.MethodName) jdk_33_method_22_code (1 : Nat) (Option.some (Jvm.ClassFile.FieldType.object "java/lang/Integer")), Jvm.Cond.code ({ cls := "com/example/theuth/theuth/io/Followed", name := "find", desc := "(I)J" } : Jvm.MethodName) prog_116_method_2_code (4 : Nat) (Option.some Jvm.ClassFile.FieldType.long), Jvm.Cond.code ({ cls := "com/example/theuth/theuth/io/Followed$Offsets", name := "find", desc := "(I)J" } : Jvm.MethodName) prog_118_method_2_code (6 : Nat) (Option.some Jvm.ClassFile.FieldType.long), Jvm.Cond.code ({ cls := "com/example/theuth/theuth/io/Followed$Offsets", name := "isEmpty", desc := "()Z" } : Jvm.MethodName) prog_118_method_9_code (1 : Nat) (Option.some Jvm.ClassFile.FieldType.boolean), Jvm.Cond.code ({ cls := "com/example/theuth/theuth/io/Followed", name := "add", desc := "(JIILjava/lang/Object;)V" } : Jvm.MethodName) prog_116_method_9_code (6 : Nat) (Option.none : Option Jvm.ClassFile.FieldType), Jvm.Cond.code ({ cls := "com/example/theuth/theuth/io/Followed$Offsets", name := "append", desc := "(IILjava/lang/Object;)Z" } : Jvm.MethodName) prog_118_method_5_code (6 : Nat) (Option.some Jvm.ClassFile.FieldType.boolean), Jvm.Cond.code ({ cls := "java/util/Arrays", name := "binarySearch", desc := "([IIII)I" } : Jvm.MethodName) jdk_65_method_58_code (4 : Nat) (Option.some Jvm.ClassFile.FieldType.int), Jvm.Cond.code ({ cls := "java/util/Arrays", name := "rangeCheck", desc := "(III)V" } : Jvm.MethodName) jdk_65_method_30_code (3 : Nat) (Option.none : Option Jvm.ClassFile.FieldType), Jvm.Cond.code ({ cls := "java/util/Arrays", name := "binarySearch0", desc := "([IIII)I" } : Jvm.MethodName) jdk_65_method_59_code (8 : Nat) (Option.some Jvm.ClassFile.FieldType.int), Jvm.Cond.code ({ cls := "java/lang/Math", name := "max", desc := "(II)I" } : Jvm.MethodName) jdk_29_method_65_code (2 : Nat) (Option.some Jvm.ClassFile.FieldType.int), Jvm.Cond.code ({ cls := "com/example/theuth/theuth/io/Followed", name := "insert", desc := "(JIILjava/lang/Object;)V" } : Jvm.MethodName) prog_116_method_10_code (6 : Nat) (Option.none : Option Jvm.ClassFile.FieldType), Jvm.Cond.code ({ cls := "com/example/theuth/theuth/io/Followed$Offsets", name := "holds", desc := "(JI)Z" } : Jvm.MethodName) prog_118_method_4_code (9 : Nat) (Option.some Jvm.ClassFile.FieldType.boolean), Jvm.Cond.code ({ cls := "com/example/theuth/theuth/io/Followed$Offsets", name := "insert", desc := "(JIILjava/lang/Object;)V" } : Jvm.MethodName) prog_118_method_6_code (10 : Nat) (Option.none : Option Jvm.ClassFile.FieldType), Jvm.Cond.code ({ cls := "com/example/theuth/theuth/io/Followed", name := "containing", desc := "(JI)I" } : Jvm.MethodName) prog_116_method_7_code (7 : Nat) (Option.some Jvm.ClassFile.FieldType.int)]
set_option maxRecDepth 65536 in
theorem codes_eq : words1.filter isCode = codes1 := rfl
theorem w_codes : ∀ c ∈ words1.filter isCode, c.before args0 about1 = true := by
  rw [codes_eq]
  intro c hc
  simp only [codes1, List.mem_cons, List.not_mem_nil, or_false] at hc
  rcases hc with rfl | rfl | rfl | rfl | rfl | rfl | rfl | rfl | rfl | rfl | rfl | rfl | rfl | rfl | rfl | rfl | rfl | rfl | rfl
  · exact w_c0
  · exact w_c1
  · exact w_c2
  · exact w_c3
  · exact w_c4
  · exact w_c5
  · exact w_c6
  · exact w_c7
  · exact w_c8
  · exact w_c9
  · exact w_c10
  · exact w_c11
  · exact w_c12
  · exact w_c13
  · exact w_c14
  · exact w_c15
  · exact w_c16
  · exact w_c17
  · exact w_c18
set_option maxRecDepth 65536 in
theorem w_t1 : (words1.take 24).all (fun c => isCode c || c.before args0 about1) = true := by decide +kernel
set_option maxRecDepth 65536 in
theorem w_t2 : ((words1.drop 24).take 24).all (fun c => isCode c || c.before args0 about1) = true := by decide +kernel
set_option maxRecDepth 65536 in
theorem w_t3 : (((words1.drop 24).drop 24).take 24).all (fun c => isCode c || c.before args0 about1) = true := by decide +kernel
set_option maxRecDepth 65536 in
theorem w_t4 : ((((words1.drop 24).drop 24).drop 24).take 24).all (fun c => isCode c || c.before args0 about1) = true := by decide +kernel
set_option maxRecDepth 65536 in
theorem w_t5 : (((((words1.drop 24).drop 24).drop 24).drop 24).take 24).all (fun c => isCode c || c.before args0 about1) = true := by decide +kernel
set_option maxRecDepth 65536 in
theorem w_t6 : (((((words1.drop 24).drop 24).drop 24).drop 24).drop 24).all (fun c => isCode c || c.before args0 about1) = true := by decide +kernel
theorem w_tables : (allAtoms (Jvm.Cond.code x code maxLocals ret :: tables_1)).before args0 about1 = true := by
  rw [allAtoms_all]
  show words1.all (fun c => c.before args0 about1) = true
  refine all_split ?_ w_codes
  rw [← List.take_append_drop 24 words1, List.all_append, w_t1, ← List.take_append_drop 24 (words1.drop 24), List.all_append, w_t2, ← List.take_append_drop 24 ((words1.drop 24).drop 24), List.all_append, w_t3, ← List.take_append_drop 24 (((words1.drop 24).drop 24).drop 24), List.all_append, w_t4, ← List.take_append_drop 24 ((((words1.drop 24).drop 24).drop 24).drop 24), List.all_append, w_t5, w_t6]
  rfl
set_option maxRecDepth 65536 in
theorem w_rest : rest_1_c.before args0 about1 = true := by decide +kernel
set_option maxRecDepth 65536 in
theorem w_case : (Jvm.Cond.and given_1 narrow_1).before args0 about1 = true := by decide +kernel
theorem w_applies : (headSpec (Jvm.Cond.code x code maxLocals ret :: tables_1) room_1).applies x e0.platform about1 = true :=
  (Spec.applies_iff w_frames).mpr ⟨w_running, w_runnable, w_alone, w_named, w_hears, w_ripe, w_room, w_tables⟩
theorem atStart : AtStart classFile x code maxLocals ret World_1 tables_1 room_1 Calls_1 rest_1 Pre_1 launch0 p0 e0 about1 theMethod args0 below0 :=
  ⟨lists_1, trivial, launch0.admits_env _ _ _, launch0.least_env, fairChoices_fair.cas, fairChoices_fair.clock, w_frames, w_args, w_heap, w_applies, trivial, w_rest, w_case⟩
end start1
theorem witness_1 : WitnessClaimed_1 := ⟨start1.p0, start1.e0, start1.about1, start1.theMethod, start1.args0, start1.below0, start1.atStart⟩
end Jvm.Pilot.@@N@@
