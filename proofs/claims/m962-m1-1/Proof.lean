import JvmDerived
import JvmDerived.Pilot.@@N@@Statement
import JvmDerived.Pilot.@@N@@Code
set_option linter.unusedVariables false
set_option linter.unusedSimpArgs false
namespace Jvm.RoadKit
open Sem ClassFile Op Lib Jvm.Stand Jvm.Free Jvm.LawKit
section New
variable {p : Program} {l : Launch} {e : Env} {R : Room} {s : State} {m : MethodId} {args : Array Value} {below : List Frame} {meth : Method} {c : Code} {T : State} {locs : List Loc} {cells slots : Nat}
theorem retI (X : Stand p l e R s m args below meth c T locs cells slots) (hx : p.tables.exec = Jvm.exec) {pc : Nat} {Ls : Array Slot} {z : Int32} {rest : List Value} (hret : meth.sig.returnType = some .int) (hd : decode c.code pc = .ok (.ireturn, 1)) {fs : List Frame}
    (hl : ∀ (f : JFrame) (acts : List Action), f.method = m → f.locked = none → f.entered = [] → (doReturn e (T.setTop f) acts (some (.int z))).1 = T.setFrames fs) : Steps p.tables e below (T.setTop (mkF m pc Ls (.int z :: rest))) (T.setFrames fs) :=
  retOut X hx hret rfl (Or.inl ⟨rfl, Or.inl rfl, _, rfl⟩) hd hl
abbrev own_M (l : Launch) (y : MethodName) (cd : List Cond) (rm : Room) (as' : Array Value) (Z : State) (h0 : Heap) (Q : Option Value → Heap → List Loc → Prop) : Prop := MetFree l y (head1 cd rm) (fun a U => a = as' ∧ Z.Warmed39 U.vm ∧ U.heap = h0) (fun _ _ _ _ _ => True) (fun _ U o U' => ∃ v L, o = .returned v ∧ Q v U'.heap L ∧ FrameEnd U o U' L rm.cells rm.slots)
abbrev own_l (x : Int64) : Slot := .val (.long x)
abbrev own_S (p : Program) (e : Env) (below : List Frame) (T : State) (f : JFrame) (t : State) : Prop := Steps p.tables e below (T.setTop f) t
theorem own_sta_keep {Z : State} {h h' : Heap} {C n d : String} {w : Value} {ws : List Addr} (F : Sta Z h C n d w) (K : Keep h h' ws) (ns : ∀ x ∈ ws, ∀ cell : Cell, h[x]? = some cell → cell.vm.isStatics = false) : Sta Z h' C n d w := by
  obtain ⟨cf, i, k, f, st, cell, h1, h2, h3, h4, h5, h6, h7⟩ := F
  refine ⟨cf, i, k, f, st, cell, h1, h2, h3, h4, K.2.1 st cell h5 (fun hm => ?_), h6, h7⟩
  rw [ns st hm cell h5] at h6
  cases h6
theorem own_sto {Z : State} {h : Heap} {a y : Addr} {k : ClassId} {ty : FieldType} {z : Int32} {vs : List Value} {dv : Value} {C : String} (A : Arv Z h a k ty z vs dv) (O : Ovr Z k C) (I : Ins Z h y C true) : Sto Z h a (.ref y) := by
  obtain ⟨c, Ar, q, -⟩ := A
  exact Sto.ofV Ar q O I
theorem own_selp {s : State} {args : Array Value} {w y : MethodName} (hs : (Cond.selects w.cls w w).before args s = true) (e : w.cls = y.cls) (hp : s.PrivateAt y) (hi : (Cond.instanceMethod y).before args s = true) (hy : y.cls ≠ "java/lang/invoke/MethodHandle" ∧ y.cls ≠ "java/lang/invoke/VarHandle") : (Cond.selects y.cls y y).before args s = true := by
  obtain ⟨c2, r2, m2, q1, q2, q3, q4, kP, hkP, hkPi⟩ := Cond.selects_spec hs
  exact selects_self_of_private (c := m2.cls) (by rw [← e]; exact findClass_of_methodNamed q3) hkP hkPi hp hi hy
end New
theorem own_getFR {p : Program} {l : Launch} {e : Env} {R : Room} {s : State} {m : MethodId} {args : Array Value} {below : List Frame} {meth : Method} {c : Code} {T : State} {locs : List Loc} {cells slots : Nat} {Z : State} {a0 : Array Value} {h : Heap} (X : Stand p l e R s m args below meth c T locs cells slots) (hx : p.tables.exec = Jvm.exec) (hZ : Z.Warmed39 s.vm) {own O n d : String} {index : Nat} (hown : s.vm.findClass own = some m.cls) (w : (Cond.fieldRef own index O n d).before a0 Z = true) (eT : T.heap = h) {a : Addr} {v : Value} (F : Fld Z h a O n d v) {g : JFrame} (hg : g.method = m) {rest : List Value} (hs : g.stack = .ref a :: rest) (hd : decode c.code g.pc = .ok (.getfield index, 3)) :
    ∀ target, Steps p.tables e below (T.setTop { g with pc := g.pc + 3, stack := v :: rest }) target → Steps p.tables e below (T.setTop g) target := by
  obtain ⟨cell, cf, k, i, f, h1, h2, h3, h4, -, -, h7⟩ := F
  have hW : Z.Warmed39 T.vm := wtrans hZ X.warmed
  have w1 : (Cond.fieldRef own index O n d).before a0 (Z.setVm T.vm) = true := Cond.fieldRef_warmed39 hW w
  have hc : (Z.setVm T.vm).vm.findClass own = some m.cls := by
    show T.vm.findClass own = some m.cls
    rw [X.warmed.wide.alike.findClass]
    exact hown
  obtain ⟨c', k', i', f', e1, hready⟩ := Cond.fieldRef_spec hc w1
  obtain ⟨k2, e2, -⟩ := State.fieldFound?_setVm (s := Z) hW.alike h2
  cases e1.symm.trans e2
  have hready' : T.vm.fieldReady m.cls index cf f := hready
  intro target hr
  subst hg
  jvm_step X.here [hx, hd, getfield.wp_ready (e := e) (s := T) (f := g) X.here.top hready' h3 hs (by rw [eT]; exact h1) h4, h7]
  exact hr
end Jvm.RoadKit
namespace Jvm.Pilot.@@N@@
open Jvm Jvm.ClassFile Sem Op Lib Jvm.Free Jvm.Stand Jvm.LawKit Jvm.RoadKit Bundle Jvm.Pilot.@@N@@.Jvm.D
theorem d1_0 : decode prog_116_method_1_code 0 = .ok (.aload_n 0, 1) := by decide +kernel
theorem d1_1 : decode prog_116_method_1_code 1 = .ok (.invokespecial 1, 3) := by decide +kernel
theorem d1_4 : decode prog_116_method_1_code 4 = .ok (.aload_n 0, 1) := by decide +kernel
theorem d1_5 : decode prog_116_method_1_code 5 = .ok (.new 7, 3) := by decide +kernel
theorem d1_8 : decode prog_116_method_1_code 8 = .ok (.dup, 1) := by decide +kernel
theorem d1_9 : decode prog_116_method_1_code 9 = .ok (.iconst 1, 1) := by decide +kernel
theorem d1_10 : decode prog_116_method_1_code 10 = .ok (.invokespecial 9, 3) := by decide +kernel
theorem d1_13 : decode prog_116_method_1_code 13 = .ok (.putfield 12, 3) := by decide +kernel
theorem d1_16 : decode prog_116_method_1_code 16 = .ok (.aload_n 0, 1) := by decide +kernel
theorem d1_17 : decode prog_116_method_1_code 17 = .ok (.new 7, 3) := by decide +kernel
theorem d1_20 : decode prog_116_method_1_code 20 = .ok (.dup, 1) := by decide +kernel
theorem d1_21 : decode prog_116_method_1_code 21 = .ok (.iconst 0, 1) := by decide +kernel
theorem d1_22 : decode prog_116_method_1_code 22 = .ok (.invokespecial 9, 3) := by decide +kernel
theorem d1_25 : decode prog_116_method_1_code 25 = .ok (.putfield 18, 3) := by decide +kernel
theorem d1_28 : decode prog_116_method_1_code 28 = .ok (.return_, 1) := by decide +kernel
theorem d3_0 : decode prog_118_method_1_code 0 = .ok (.aload_n 0, 1) := by decide +kernel
theorem d3_1 : decode prog_118_method_1_code 1 = .ok (.invokespecial 3, 3) := by decide +kernel
theorem d3_4 : decode prog_118_method_1_code 4 = .ok (.aload_n 0, 1) := by decide +kernel
theorem d3_5 : decode prog_118_method_1_code 5 = .ok (.iconst 1, 1) := by decide +kernel
theorem d3_6 : decode prog_118_method_1_code 6 = .ok (.newarray .int, 2) := by decide +kernel
theorem d3_8 : decode prog_118_method_1_code 8 = .ok (.putfield 9, 3) := by decide +kernel
theorem d3_11 : decode prog_118_method_1_code 11 = .ok (.aload_n 0, 1) := by decide +kernel
theorem d3_12 : decode prog_118_method_1_code 12 = .ok (.iconst 1, 1) := by decide +kernel
theorem d3_13 : decode prog_118_method_1_code 13 = .ok (.putfield 15, 3) := by decide +kernel
theorem d3_16 : decode prog_118_method_1_code 16 = .ok (.aload_n 0, 1) := by decide +kernel
theorem d3_17 : decode prog_118_method_1_code 17 = .ok (.iload_n 1, 1) := by decide +kernel
theorem d3_18 : decode prog_118_method_1_code 18 = .ok (.putfield 19, 3) := by decide +kernel
theorem d3_21 : decode prog_118_method_1_code 21 = .ok (.aload_n 0, 1) := by decide +kernel
theorem d3_22 : decode prog_118_method_1_code 22 = .ok (.iconst 1, 1) := by decide +kernel
theorem d3_23 : decode prog_118_method_1_code 23 = .ok (.anewarray 23, 3) := by decide +kernel
theorem d3_26 : decode prog_118_method_1_code 26 = .ok (.dup, 1) := by decide +kernel
theorem d3_27 : decode prog_118_method_1_code 27 = .ok (.iconst 0, 1) := by decide +kernel
theorem d3_28 : decode prog_118_method_1_code 28 = .ok (.new 23, 3) := by decide +kernel
theorem d3_31 : decode prog_118_method_1_code 31 = .ok (.dup, 1) := by decide +kernel
theorem d3_32 : decode prog_118_method_1_code 32 = .ok (.iload_n 1, 1) := by decide +kernel
theorem d3_33 : decode prog_118_method_1_code 33 = .ok (.invokespecial 25, 3) := by decide +kernel
theorem d3_36 : decode prog_118_method_1_code 36 = .ok (.aastore, 1) := by decide +kernel
theorem d3_37 : decode prog_118_method_1_code 37 = .ok (.putfield 28, 3) := by decide +kernel
theorem d3_40 : decode prog_118_method_1_code 40 = .ok (.return_, 1) := by decide +kernel
theorem d4_0 : decode prog_117_method_1_code 0 = .ok (.aload_n 0, 1) := by decide +kernel
theorem d4_1 : decode prog_117_method_1_code 1 = .ok (.invokespecial 3, 3) := by decide +kernel
theorem d4_4 : decode prog_117_method_1_code 4 = .ok (.aload_n 0, 1) := by decide +kernel
theorem d4_5 : decode prog_117_method_1_code 5 = .ok (.sipush 256, 3) := by decide +kernel
theorem d4_8 : decode prog_117_method_1_code 8 = .ok (.newarray .int, 2) := by decide +kernel
theorem d4_10 : decode prog_117_method_1_code 10 = .ok (.putfield 9, 3) := by decide +kernel
theorem d4_13 : decode prog_117_method_1_code 13 = .ok (.aload_n 0, 1) := by decide +kernel
theorem d4_14 : decode prog_117_method_1_code 14 = .ok (.iload_n 1, 1) := by decide +kernel
theorem d4_15 : decode prog_117_method_1_code 15 = .ok (.ifCond .eq 11, 3) := by decide +kernel
theorem d4_18 : decode prog_117_method_1_code 18 = .ok (.sipush 256, 3) := by decide +kernel
theorem d4_21 : decode prog_117_method_1_code 21 = .ok (.newarray .int, 2) := by decide +kernel
theorem d4_23 : decode prog_117_method_1_code 23 = .ok (.goto 4, 3) := by decide +kernel
theorem d4_26 : decode prog_117_method_1_code 26 = .ok (.aconst_null, 1) := by decide +kernel
theorem d4_27 : decode prog_117_method_1_code 27 = .ok (.putfield 15, 3) := by decide +kernel
theorem d4_30 : decode prog_117_method_1_code 30 = .ok (.aload_n 0, 1) := by decide +kernel
theorem d4_31 : decode prog_117_method_1_code 31 = .ok (.iload_n 1, 1) := by decide +kernel
theorem d4_32 : decode prog_117_method_1_code 32 = .ok (.ifCond .eq 12, 3) := by decide +kernel
theorem d4_35 : decode prog_117_method_1_code 35 = .ok (.sipush 256, 3) := by decide +kernel
theorem d4_38 : decode prog_117_method_1_code 38 = .ok (.anewarray 4, 3) := by decide +kernel
theorem d4_41 : decode prog_117_method_1_code 41 = .ok (.goto 4, 3) := by decide +kernel
theorem d4_44 : decode prog_117_method_1_code 44 = .ok (.aconst_null, 1) := by decide +kernel
theorem d4_45 : decode prog_117_method_1_code 45 = .ok (.putfield 18, 3) := by decide +kernel
theorem d4_48 : decode prog_117_method_1_code 48 = .ok (.return_, 1) := by decide +kernel
theorem d5_0 : decode jdk_33_method_22_code 0 = .ok (.iload_n 0, 1) := by decide +kernel
theorem d5_1 : decode jdk_33_method_22_code 1 = .ok (.bipush (-128), 2) := by decide +kernel
theorem d5_3 : decode jdk_33_method_22_code 3 = .ok (.if_icmp .lt 20, 3) := by decide +kernel
theorem d5_6 : decode jdk_33_method_22_code 6 = .ok (.iload_n 0, 1) := by decide +kernel
theorem d5_7 : decode jdk_33_method_22_code 7 = .ok (.getstatic 191, 3) := by decide +kernel
theorem d5_10 : decode jdk_33_method_22_code 10 = .ok (.if_icmp .gt 13, 3) := by decide +kernel
theorem d5_13 : decode jdk_33_method_22_code 13 = .ok (.getstatic 195, 3) := by decide +kernel
theorem d5_16 : decode jdk_33_method_22_code 16 = .ok (.iload_n 0, 1) := by decide +kernel
theorem d5_17 : decode jdk_33_method_22_code 17 = .ok (.sipush 128, 3) := by decide +kernel
theorem d5_20 : decode jdk_33_method_22_code 20 = .ok (.iadd, 1) := by decide +kernel
theorem d5_21 : decode jdk_33_method_22_code 21 = .ok (.aaload, 1) := by decide +kernel
theorem d5_22 : decode jdk_33_method_22_code 22 = .ok (.areturn, 1) := by decide +kernel
theorem d6_0 : decode prog_116_method_2_code 0 = .ok (.aload_n 0, 1) := by decide +kernel
theorem d6_1 : decode prog_116_method_2_code 1 = .ok (.getfield 12, 3) := by decide +kernel
theorem d6_4 : decode prog_116_method_2_code 4 = .ok (.iload_n 1, 1) := by decide +kernel
theorem d6_5 : decode prog_116_method_2_code 5 = .ok (.invokevirtual 21, 3) := by decide +kernel
theorem d6_8 : decode prog_116_method_2_code 8 = .ok (.lstore_n 2, 1) := by decide +kernel
theorem d6_9 : decode prog_116_method_2_code 9 = .ok (.lload_n 2, 1) := by decide +kernel
theorem d6_10 : decode prog_116_method_2_code 10 = .ok (.l2i, 1) := by decide +kernel
theorem d6_11 : decode prog_116_method_2_code 11 = .ok (.sipush 256, 3) := by decide +kernel
theorem d6_14 : decode prog_116_method_2_code 14 = .ok (.if_icmp .lt 28, 3) := by decide +kernel
theorem d6_17 : decode prog_116_method_2_code 17 = .ok (.aload_n 0, 1) := by decide +kernel
theorem d6_18 : decode prog_116_method_2_code 18 = .ok (.getfield 18, 3) := by decide +kernel
theorem d6_21 : decode prog_116_method_2_code 21 = .ok (.invokevirtual 25, 3) := by decide +kernel
theorem d6_24 : decode prog_116_method_2_code 24 = .ok (.ifCond .ne 18, 3) := by decide +kernel
theorem d6_27 : decode prog_116_method_2_code 27 = .ok (.aload_n 0, 1) := by decide +kernel
theorem d6_28 : decode prog_116_method_2_code 28 = .ok (.getfield 18, 3) := by decide +kernel
theorem d6_31 : decode prog_116_method_2_code 31 = .ok (.iload_n 1, 1) := by decide +kernel
theorem d6_32 : decode prog_116_method_2_code 32 = .ok (.invokevirtual 21, 3) := by decide +kernel
theorem d6_35 : decode prog_116_method_2_code 35 = .ok (.l2i, 1) := by decide +kernel
theorem d6_36 : decode prog_116_method_2_code 36 = .ok (.sipush 256, 3) := by decide +kernel
theorem d6_39 : decode prog_116_method_2_code 39 = .ok (.if_icmp .lt 5, 3) := by decide +kernel
theorem d6_42 : decode prog_116_method_2_code 42 = .ok (.lload_n 2, 1) := by decide +kernel
theorem d6_43 : decode prog_116_method_2_code 43 = .ok (.lreturn, 1) := by decide +kernel
theorem d6_44 : decode prog_116_method_2_code 44 = .ok (.lload_n 2, 1) := by decide +kernel
theorem d6_45 : decode prog_116_method_2_code 45 = .ok (.ldc2_w 29, 3) := by decide +kernel
theorem d6_48 : decode prog_116_method_2_code 48 = .ok (.lor, 1) := by decide +kernel
theorem d6_49 : decode prog_116_method_2_code 49 = .ok (.lreturn, 1) := by decide +kernel
theorem d7_0 : decode prog_118_method_2_code 0 = .ok (.aload_n 0, 1) := by decide +kernel
theorem d7_1 : decode prog_118_method_2_code 1 = .ok (.getfield 28, 3) := by decide +kernel
theorem d7_4 : decode prog_118_method_2_code 4 = .ok (.aload_n 0, 1) := by decide +kernel
theorem d7_5 : decode prog_118_method_2_code 5 = .ok (.getfield 15, 3) := by decide +kernel
theorem d7_8 : decode prog_118_method_2_code 8 = .ok (.iconst 1, 1) := by decide +kernel
theorem d7_9 : decode prog_118_method_2_code 9 = .ok (.isub, 1) := by decide +kernel
theorem d7_10 : decode prog_118_method_2_code 10 = .ok (.aaload, 1) := by decide +kernel
theorem d7_11 : decode prog_118_method_2_code 11 = .ok (.astore_n 2, 1) := by decide +kernel
theorem d7_12 : decode prog_118_method_2_code 12 = .ok (.aload_n 2, 1) := by decide +kernel
theorem d7_13 : decode prog_118_method_2_code 13 = .ok (.getfield 32, 3) := by decide +kernel
theorem d7_16 : decode prog_118_method_2_code 16 = .ok (.ifCond .eq 18, 3) := by decide +kernel
theorem d7_19 : decode prog_118_method_2_code 19 = .ok (.iload_n 1, 1) := by decide +kernel
theorem d7_20 : decode prog_118_method_2_code 20 = .ok (.aload_n 2, 1) := by decide +kernel
theorem d7_21 : decode prog_118_method_2_code 21 = .ok (.getfield 35, 3) := by decide +kernel
theorem d7_24 : decode prog_118_method_2_code 24 = .ok (.aload_n 2, 1) := by decide +kernel
theorem d7_25 : decode prog_118_method_2_code 25 = .ok (.getfield 32, 3) := by decide +kernel
theorem d7_28 : decode prog_118_method_2_code 28 = .ok (.iconst 1, 1) := by decide +kernel
theorem d7_29 : decode prog_118_method_2_code 29 = .ok (.isub, 1) := by decide +kernel
theorem d7_30 : decode prog_118_method_2_code 30 = .ok (.iaload, 1) := by decide +kernel
theorem d7_31 : decode prog_118_method_2_code 31 = .ok (.if_icmp .le 24, 3) := by decide +kernel
theorem d7_34 : decode prog_118_method_2_code 34 = .ok (.aload_n 0, 1) := by decide +kernel
theorem d7_35 : decode prog_118_method_2_code 35 = .ok (.getfield 15, 3) := by decide +kernel
theorem d7_38 : decode prog_118_method_2_code 38 = .ok (.iconst 1, 1) := by decide +kernel
theorem d7_39 : decode prog_118_method_2_code 39 = .ok (.isub, 1) := by decide +kernel
theorem d7_40 : decode prog_118_method_2_code 40 = .ok (.i2l, 1) := by decide +kernel
theorem d7_41 : decode prog_118_method_2_code 41 = .ok (.bipush 32, 2) := by decide +kernel
theorem d7_43 : decode prog_118_method_2_code 43 = .ok (.lshl, 1) := by decide +kernel
theorem d7_44 : decode prog_118_method_2_code 44 = .ok (.sipush 256, 3) := by decide +kernel
theorem d7_47 : decode prog_118_method_2_code 47 = .ok (.aload_n 2, 1) := by decide +kernel
theorem d7_48 : decode prog_118_method_2_code 48 = .ok (.getfield 32, 3) := by decide +kernel
theorem d7_51 : decode prog_118_method_2_code 51 = .ok (.iadd, 1) := by decide +kernel
theorem d7_52 : decode prog_118_method_2_code 52 = .ok (.i2l, 1) := by decide +kernel
theorem d7_53 : decode prog_118_method_2_code 53 = .ok (.lor, 1) := by decide +kernel
theorem d7_54 : decode prog_118_method_2_code 54 = .ok (.lreturn, 1) := by decide +kernel
theorem d7_55 : decode prog_118_method_2_code 55 = .ok (.aload_n 0, 1) := by decide +kernel
theorem d7_56 : decode prog_118_method_2_code 56 = .ok (.getfield 9, 3) := by decide +kernel
theorem d7_59 : decode prog_118_method_2_code 59 = .ok (.iconst 0, 1) := by decide +kernel
theorem d7_60 : decode prog_118_method_2_code 60 = .ok (.aload_n 0, 1) := by decide +kernel
theorem d7_61 : decode prog_118_method_2_code 61 = .ok (.getfield 15, 3) := by decide +kernel
theorem d7_64 : decode prog_118_method_2_code 64 = .ok (.iload_n 1, 1) := by decide +kernel
theorem d7_65 : decode prog_118_method_2_code 65 = .ok (.invokestatic 40, 3) := by decide +kernel
theorem d7_68 : decode prog_118_method_2_code 68 = .ok (.istore_n 3, 1) := by decide +kernel
theorem d7_69 : decode prog_118_method_2_code 69 = .ok (.iload_n 3, 1) := by decide +kernel
theorem d7_70 : decode prog_118_method_2_code 70 = .ok (.ifCond .ge 12, 3) := by decide +kernel
theorem d7_73 : decode prog_118_method_2_code 73 = .ok (.iconst 0, 1) := by decide +kernel
theorem d7_74 : decode prog_118_method_2_code 74 = .ok (.iload_n 3, 1) := by decide +kernel
theorem d7_75 : decode prog_118_method_2_code 75 = .ok (.ineg, 1) := by decide +kernel
theorem d7_76 : decode prog_118_method_2_code 76 = .ok (.iconst 2, 1) := by decide +kernel
theorem d7_77 : decode prog_118_method_2_code 77 = .ok (.isub, 1) := by decide +kernel
theorem d7_78 : decode prog_118_method_2_code 78 = .ok (.invokestatic 46, 3) := by decide +kernel
theorem d7_81 : decode prog_118_method_2_code 81 = .ok (.istore_n 3, 1) := by decide +kernel
theorem d7_82 : decode prog_118_method_2_code 82 = .ok (.aload_n 0, 1) := by decide +kernel
theorem d7_83 : decode prog_118_method_2_code 83 = .ok (.getfield 28, 3) := by decide +kernel
theorem d7_86 : decode prog_118_method_2_code 86 = .ok (.iload_n 3, 1) := by decide +kernel
theorem d7_87 : decode prog_118_method_2_code 87 = .ok (.aaload, 1) := by decide +kernel
theorem d7_88 : decode prog_118_method_2_code 88 = .ok (.astore 4, 2) := by decide +kernel
theorem d7_90 : decode prog_118_method_2_code 90 = .ok (.aload 4, 2) := by decide +kernel
theorem d7_92 : decode prog_118_method_2_code 92 = .ok (.getfield 35, 3) := by decide +kernel
theorem d7_95 : decode prog_118_method_2_code 95 = .ok (.iconst 0, 1) := by decide +kernel
theorem d7_96 : decode prog_118_method_2_code 96 = .ok (.aload 4, 2) := by decide +kernel
theorem d7_98 : decode prog_118_method_2_code 98 = .ok (.getfield 32, 3) := by decide +kernel
theorem d7_101 : decode prog_118_method_2_code 101 = .ok (.iload_n 1, 1) := by decide +kernel
theorem d7_102 : decode prog_118_method_2_code 102 = .ok (.invokestatic 40, 3) := by decide +kernel
theorem d7_105 : decode prog_118_method_2_code 105 = .ok (.istore 5, 2) := by decide +kernel
theorem d7_107 : decode prog_118_method_2_code 107 = .ok (.iload 5, 2) := by decide +kernel
theorem d7_109 : decode prog_118_method_2_code 109 = .ok (.ifCond .ge 14, 3) := by decide +kernel
theorem d7_112 : decode prog_118_method_2_code 112 = .ok (.sipush 256, 3) := by decide +kernel
theorem d7_115 : decode prog_118_method_2_code 115 = .ok (.iload 5, 2) := by decide +kernel
theorem d7_117 : decode prog_118_method_2_code 117 = .ok (.ineg, 1) := by decide +kernel
theorem d7_118 : decode prog_118_method_2_code 118 = .ok (.iconst 1, 1) := by decide +kernel
theorem d7_119 : decode prog_118_method_2_code 119 = .ok (.isub, 1) := by decide +kernel
theorem d7_120 : decode prog_118_method_2_code 120 = .ok (.iadd, 1) := by decide +kernel
theorem d7_121 : decode prog_118_method_2_code 121 = .ok (.istore 5, 2) := by decide +kernel
theorem d7_123 : decode prog_118_method_2_code 123 = .ok (.iload_n 3, 1) := by decide +kernel
theorem d7_124 : decode prog_118_method_2_code 124 = .ok (.i2l, 1) := by decide +kernel
theorem d7_125 : decode prog_118_method_2_code 125 = .ok (.bipush 32, 2) := by decide +kernel
theorem d7_127 : decode prog_118_method_2_code 127 = .ok (.lshl, 1) := by decide +kernel
theorem d7_128 : decode prog_118_method_2_code 128 = .ok (.iload 5, 2) := by decide +kernel
theorem d7_130 : decode prog_118_method_2_code 130 = .ok (.i2l, 1) := by decide +kernel
theorem d7_131 : decode prog_118_method_2_code 131 = .ok (.lor, 1) := by decide +kernel
theorem d7_132 : decode prog_118_method_2_code 132 = .ok (.lreturn, 1) := by decide +kernel
theorem d8_0 : decode prog_118_method_9_code 0 = .ok (.aload_n 0, 1) := by decide +kernel
theorem d8_1 : decode prog_118_method_9_code 1 = .ok (.getfield 28, 3) := by decide +kernel
theorem d8_4 : decode prog_118_method_9_code 4 = .ok (.iconst 0, 1) := by decide +kernel
theorem d8_5 : decode prog_118_method_9_code 5 = .ok (.aaload, 1) := by decide +kernel
theorem d8_6 : decode prog_118_method_9_code 6 = .ok (.getfield 32, 3) := by decide +kernel
theorem d8_9 : decode prog_118_method_9_code 9 = .ok (.ifCond .ne 7, 3) := by decide +kernel
theorem d8_12 : decode prog_118_method_9_code 12 = .ok (.iconst 1, 1) := by decide +kernel
theorem d8_13 : decode prog_118_method_9_code 13 = .ok (.goto 4, 3) := by decide +kernel
theorem d8_16 : decode prog_118_method_9_code 16 = .ok (.iconst 0, 1) := by decide +kernel
theorem d8_17 : decode prog_118_method_9_code 17 = .ok (.ireturn, 1) := by decide +kernel
theorem d9_0 : decode prog_116_method_3_code 0 = .ok (.lload_n 0, 1) := by decide +kernel
theorem d9_1 : decode prog_116_method_3_code 1 = .ok (.l2i, 1) := by decide +kernel
theorem d9_2 : decode prog_116_method_3_code 2 = .ok (.istore_n 2, 1) := by decide +kernel
theorem d9_3 : decode prog_116_method_3_code 3 = .ok (.iload_n 2, 1) := by decide +kernel
theorem d9_4 : decode prog_116_method_3_code 4 = .ok (.sipush 256, 3) := by decide +kernel
theorem d9_7 : decode prog_116_method_3_code 7 = .ok (.if_icmp .lt 10, 3) := by decide +kernel
theorem d9_10 : decode prog_116_method_3_code 10 = .ok (.iload_n 2, 1) := by decide +kernel
theorem d9_11 : decode prog_116_method_3_code 11 = .ok (.ldc 31, 2) := by decide +kernel
theorem d9_13 : decode prog_116_method_3_code 13 = .ok (.iand, 1) := by decide +kernel
theorem d9_14 : decode prog_116_method_3_code 14 = .ok (.ifCond .eq 7, 3) := by decide +kernel
theorem d9_17 : decode prog_116_method_3_code 17 = .ok (.iconst 1, 1) := by decide +kernel
theorem d9_18 : decode prog_116_method_3_code 18 = .ok (.goto 4, 3) := by decide +kernel
theorem d9_21 : decode prog_116_method_3_code 21 = .ok (.iconst 0, 1) := by decide +kernel
theorem d9_22 : decode prog_116_method_3_code 22 = .ok (.ireturn, 1) := by decide +kernel
theorem d10_0 : decode method_2_code 0 = .ok (.iload_n 0, 1) := by decide +kernel
theorem d10_1 : decode method_2_code 1 = .ok (.ifCond .eq 15, 3) := by decide +kernel
theorem d10_4 : decode method_2_code 4 = .ok (.iload_n 1, 1) := by decide +kernel
theorem d10_5 : decode method_2_code 5 = .ok (.iload_n 2, 1) := by decide +kernel
theorem d10_6 : decode method_2_code 6 = .ok (.if_icmp .le 10, 3) := by decide +kernel
theorem d10_9 : decode method_2_code 9 = .ok (.lload_n 3, 1) := by decide +kernel
theorem d10_10 : decode method_2_code 10 = .ok (.iload_n 1, 1) := by decide +kernel
theorem d10_11 : decode method_2_code 11 = .ok (.i2l, 1) := by decide +kernel
theorem d10_12 : decode method_2_code 12 = .ok (.invokestatic 7, 3) := by decide +kernel
theorem d10_15 : decode method_2_code 15 = .ok (.lreturn, 1) := by decide +kernel
theorem d10_16 : decode method_2_code 16 = .ok (.lload_n 3, 1) := by decide +kernel
theorem d10_17 : decode method_2_code 17 = .ok (.lreturn, 1) := by decide +kernel
theorem d11_0 : decode prog_116_method_8_code 0 = .ok (.lload_n 1, 1) := by decide +kernel
theorem d11_1 : decode prog_116_method_8_code 1 = .ok (.bipush 32, 2) := by decide +kernel
theorem d11_3 : decode prog_116_method_8_code 3 = .ok (.lushr, 1) := by decide +kernel
theorem d11_4 : decode prog_116_method_8_code 4 = .ok (.l2i, 1) := by decide +kernel
theorem d11_5 : decode prog_116_method_8_code 5 = .ok (.istore 4, 2) := by decide +kernel
theorem d11_7 : decode prog_116_method_8_code 7 = .ok (.lload_n 1, 1) := by decide +kernel
theorem d11_8 : decode prog_116_method_8_code 8 = .ok (.l2i, 1) := by decide +kernel
theorem d11_9 : decode prog_116_method_8_code 9 = .ok (.sipush 256, 3) := by decide +kernel
theorem d11_12 : decode prog_116_method_8_code 12 = .ok (.isub, 1) := by decide +kernel
theorem d11_13 : decode prog_116_method_8_code 13 = .ok (.istore 5, 2) := by decide +kernel
theorem d11_15 : decode prog_116_method_8_code 15 = .ok (.aload_n 0, 1) := by decide +kernel
theorem d11_16 : decode prog_116_method_8_code 16 = .ok (.getfield 12, 3) := by decide +kernel
theorem d11_19 : decode prog_116_method_8_code 19 = .ok (.getfield 50, 3) := by decide +kernel
theorem d11_22 : decode prog_116_method_8_code 22 = .ok (.iload 4, 2) := by decide +kernel
theorem d11_24 : decode prog_116_method_8_code 24 = .ok (.aaload, 1) := by decide +kernel
theorem d11_25 : decode prog_116_method_8_code 25 = .ok (.astore 6, 2) := by decide +kernel
theorem d11_27 : decode prog_116_method_8_code 27 = .ok (.iload 5, 2) := by decide +kernel
theorem d11_29 : decode prog_116_method_8_code 29 = .ok (.aload 6, 2) := by decide +kernel
theorem d11_31 : decode prog_116_method_8_code 31 = .ok (.getfield 54, 3) := by decide +kernel
theorem d11_34 : decode prog_116_method_8_code 34 = .ok (.if_icmp .ne 36, 3) := by decide +kernel
theorem d11_37 : decode prog_116_method_8_code 37 = .ok (.iload 4, 2) := by decide +kernel
theorem d11_39 : decode prog_116_method_8_code 39 = .ok (.aload_n 0, 1) := by decide +kernel
theorem d11_40 : decode prog_116_method_8_code 40 = .ok (.getfield 12, 3) := by decide +kernel
theorem d11_43 : decode prog_116_method_8_code 43 = .ok (.getfield 46, 3) := by decide +kernel
theorem d11_46 : decode prog_116_method_8_code 46 = .ok (.iconst 1, 1) := by decide +kernel
theorem d11_47 : decode prog_116_method_8_code 47 = .ok (.isub, 1) := by decide +kernel
theorem d11_48 : decode prog_116_method_8_code 48 = .ok (.if_icmp .ne 5, 3) := by decide +kernel
theorem d11_51 : decode prog_116_method_8_code 51 = .ok (.iconst (-1), 1) := by decide +kernel
theorem d11_52 : decode prog_116_method_8_code 52 = .ok (.ireturn, 1) := by decide +kernel
theorem d11_70 : decode prog_116_method_8_code 70 = .ok (.aload 6, 2) := by decide +kernel
theorem d11_72 : decode prog_116_method_8_code 72 = .ok (.getfield 59, 3) := by decide +kernel
theorem d11_75 : decode prog_116_method_8_code 75 = .ok (.iload 5, 2) := by decide +kernel
theorem d11_77 : decode prog_116_method_8_code 77 = .ok (.iaload, 1) := by decide +kernel
theorem d11_78 : decode prog_116_method_8_code 78 = .ok (.iload_n 3, 1) := by decide +kernel
theorem d11_79 : decode prog_116_method_8_code 79 = .ok (.if_icmp .ge 14, 3) := by decide +kernel
theorem d11_82 : decode prog_116_method_8_code 82 = .ok (.aload 6, 2) := by decide +kernel
theorem d11_84 : decode prog_116_method_8_code 84 = .ok (.getfield 59, 3) := by decide +kernel
theorem d11_87 : decode prog_116_method_8_code 87 = .ok (.iload 5, 2) := by decide +kernel
theorem d11_89 : decode prog_116_method_8_code 89 = .ok (.iaload, 1) := by decide +kernel
theorem d11_90 : decode prog_116_method_8_code 90 = .ok (.goto 4, 3) := by decide +kernel
theorem d11_93 : decode prog_116_method_8_code 93 = .ok (.iconst (-1), 1) := by decide +kernel
theorem d11_94 : decode prog_116_method_8_code 94 = .ok (.ireturn, 1) := by decide +kernel
theorem d12_0 : decode prog_116_method_9_code 0 = .ok (.aload 5, 2) := by decide +kernel
theorem d12_2 : decode prog_116_method_9_code 2 = .ok (.ifnull 29, 3) := by decide +kernel
theorem d12_5 : decode prog_116_method_9_code 5 = .ok (.aload_n 0, 1) := by decide +kernel
theorem d12_6 : decode prog_116_method_9_code 6 = .ok (.getfield 18, 3) := by decide +kernel
theorem d12_9 : decode prog_116_method_9_code 9 = .ok (.invokevirtual 25, 3) := by decide +kernel
theorem d12_12 : decode prog_116_method_9_code 12 = .ok (.ifCond .eq 19, 3) := by decide +kernel
theorem d12_15 : decode prog_116_method_9_code 15 = .ok (.aload_n 0, 1) := by decide +kernel
theorem d12_16 : decode prog_116_method_9_code 16 = .ok (.getfield 12, 3) := by decide +kernel
theorem d12_19 : decode prog_116_method_9_code 19 = .ok (.iload_n 3, 1) := by decide +kernel
theorem d12_20 : decode prog_116_method_9_code 20 = .ok (.iload 4, 2) := by decide +kernel
theorem d12_22 : decode prog_116_method_9_code 22 = .ok (.aload 5, 2) := by decide +kernel
theorem d12_24 : decode prog_116_method_9_code 24 = .ok (.invokevirtual 62, 3) := by decide +kernel
theorem d12_27 : decode prog_116_method_9_code 27 = .ok (.ifCond .eq 4, 3) := by decide +kernel
theorem d12_30 : decode prog_116_method_9_code 30 = .ok (.return_, 1) := by decide +kernel
theorem d12_31 : decode prog_116_method_9_code 31 = .ok (.aload_n 0, 1) := by decide +kernel
theorem d12_32 : decode prog_116_method_9_code 32 = .ok (.lload_n 1, 1) := by decide +kernel
theorem d12_33 : decode prog_116_method_9_code 33 = .ok (.iload_n 3, 1) := by decide +kernel
theorem d12_34 : decode prog_116_method_9_code 34 = .ok (.iload 4, 2) := by decide +kernel
theorem d12_36 : decode prog_116_method_9_code 36 = .ok (.aload 5, 2) := by decide +kernel
theorem d12_38 : decode prog_116_method_9_code 38 = .ok (.invokevirtual 66, 3) := by decide +kernel
theorem d12_41 : decode prog_116_method_9_code 41 = .ok (.return_, 1) := by decide +kernel
theorem d13_0 : decode prog_116_method_10_code 0 = .ok (.aload_n 0, 1) := by decide +kernel
theorem d13_1 : decode prog_116_method_10_code 1 = .ok (.getfield 12, 3) := by decide +kernel
theorem d13_4 : decode prog_116_method_10_code 4 = .ok (.lload_n 1, 1) := by decide +kernel
theorem d13_5 : decode prog_116_method_10_code 5 = .ok (.iload_n 3, 1) := by decide +kernel
theorem d13_6 : decode prog_116_method_10_code 6 = .ok (.invokevirtual 70, 3) := by decide +kernel
theorem d13_9 : decode prog_116_method_10_code 9 = .ok (.ifCond .ne 12, 3) := by decide +kernel
theorem d13_21 : decode prog_116_method_10_code 21 = .ok (.lload_n 1, 1) := by decide +kernel
theorem d13_22 : decode prog_116_method_10_code 22 = .ok (.l2i, 1) := by decide +kernel
theorem d13_23 : decode prog_116_method_10_code 23 = .ok (.sipush 256, 3) := by decide +kernel
theorem d13_26 : decode prog_116_method_10_code 26 = .ok (.if_icmp .lt 28, 3) := by decide +kernel
theorem d13_29 : decode prog_116_method_10_code 29 = .ok (.aload_n 0, 1) := by decide +kernel
theorem d13_30 : decode prog_116_method_10_code 30 = .ok (.getfield 18, 3) := by decide +kernel
theorem d13_33 : decode prog_116_method_10_code 33 = .ok (.invokevirtual 25, 3) := by decide +kernel
theorem d13_36 : decode prog_116_method_10_code 36 = .ok (.ifCond .ne 32, 3) := by decide +kernel
theorem d13_39 : decode prog_116_method_10_code 39 = .ok (.aload_n 0, 1) := by decide +kernel
theorem d13_40 : decode prog_116_method_10_code 40 = .ok (.getfield 18, 3) := by decide +kernel
theorem d13_43 : decode prog_116_method_10_code 43 = .ok (.iload_n 3, 1) := by decide +kernel
theorem d13_44 : decode prog_116_method_10_code 44 = .ok (.invokevirtual 21, 3) := by decide +kernel
theorem d13_47 : decode prog_116_method_10_code 47 = .ok (.l2i, 1) := by decide +kernel
theorem d13_48 : decode prog_116_method_10_code 48 = .ok (.sipush 256, 3) := by decide +kernel
theorem d13_51 : decode prog_116_method_10_code 51 = .ok (.if_icmp .ge 17, 3) := by decide +kernel
theorem d13_68 : decode prog_116_method_10_code 68 = .ok (.aload 5, 2) := by decide +kernel
theorem d13_70 : decode prog_116_method_10_code 70 = .ok (.ifnonnull 24, 3) := by decide +kernel
theorem d13_73 : decode prog_116_method_10_code 73 = .ok (.aload_n 0, 1) := by decide +kernel
theorem d13_74 : decode prog_116_method_10_code 74 = .ok (.getfield 18, 3) := by decide +kernel
theorem d13_77 : decode prog_116_method_10_code 77 = .ok (.aload_n 0, 1) := by decide +kernel
theorem d13_78 : decode prog_116_method_10_code 78 = .ok (.getfield 18, 3) := by decide +kernel
theorem d13_81 : decode prog_116_method_10_code 81 = .ok (.iload_n 3, 1) := by decide +kernel
theorem d13_82 : decode prog_116_method_10_code 82 = .ok (.invokevirtual 21, 3) := by decide +kernel
theorem d13_85 : decode prog_116_method_10_code 85 = .ok (.iload_n 3, 1) := by decide +kernel
theorem d13_86 : decode prog_116_method_10_code 86 = .ok (.iload_n 3, 1) := by decide +kernel
theorem d13_87 : decode prog_116_method_10_code 87 = .ok (.aconst_null, 1) := by decide +kernel
theorem d13_88 : decode prog_116_method_10_code 88 = .ok (.invokevirtual 83, 3) := by decide +kernel
theorem d13_91 : decode prog_116_method_10_code 91 = .ok (.goto 16, 3) := by decide +kernel
theorem d13_94 : decode prog_116_method_10_code 94 = .ok (.aload_n 0, 1) := by decide +kernel
theorem d13_95 : decode prog_116_method_10_code 95 = .ok (.getfield 12, 3) := by decide +kernel
theorem d13_98 : decode prog_116_method_10_code 98 = .ok (.lload_n 1, 1) := by decide +kernel
theorem d13_99 : decode prog_116_method_10_code 99 = .ok (.iload_n 3, 1) := by decide +kernel
theorem d13_100 : decode prog_116_method_10_code 100 = .ok (.iload 4, 2) := by decide +kernel
theorem d13_102 : decode prog_116_method_10_code 102 = .ok (.aload 5, 2) := by decide +kernel
theorem d13_104 : decode prog_116_method_10_code 104 = .ok (.invokevirtual 83, 3) := by decide +kernel
theorem d13_107 : decode prog_116_method_10_code 107 = .ok (.return_, 1) := by decide +kernel
theorem d14_0 : decode prog_118_method_4_code 0 = .ok (.lload_n 1, 1) := by decide +kernel
theorem d14_1 : decode prog_118_method_4_code 1 = .ok (.bipush 32, 2) := by decide +kernel
theorem d14_3 : decode prog_118_method_4_code 3 = .ok (.lushr, 1) := by decide +kernel
theorem d14_4 : decode prog_118_method_4_code 4 = .ok (.l2i, 1) := by decide +kernel
theorem d14_5 : decode prog_118_method_4_code 5 = .ok (.istore 4, 2) := by decide +kernel
theorem d14_7 : decode prog_118_method_4_code 7 = .ok (.lload_n 1, 1) := by decide +kernel
theorem d14_8 : decode prog_118_method_4_code 8 = .ok (.l2i, 1) := by decide +kernel
theorem d14_9 : decode prog_118_method_4_code 9 = .ok (.sipush 256, 3) := by decide +kernel
theorem d14_12 : decode prog_118_method_4_code 12 = .ok (.isub, 1) := by decide +kernel
theorem d14_13 : decode prog_118_method_4_code 13 = .ok (.istore 5, 2) := by decide +kernel
theorem d14_15 : decode prog_118_method_4_code 15 = .ok (.iload 4, 2) := by decide +kernel
theorem d14_17 : decode prog_118_method_4_code 17 = .ok (.ifCond .lt 32, 3) := by decide +kernel
theorem d14_20 : decode prog_118_method_4_code 20 = .ok (.iload 4, 2) := by decide +kernel
theorem d14_22 : decode prog_118_method_4_code 22 = .ok (.aload_n 0, 1) := by decide +kernel
theorem d14_23 : decode prog_118_method_4_code 23 = .ok (.getfield 15, 3) := by decide +kernel
theorem d14_26 : decode prog_118_method_4_code 26 = .ok (.if_icmp .ge 23, 3) := by decide +kernel
theorem d14_29 : decode prog_118_method_4_code 29 = .ok (.iload 5, 2) := by decide +kernel
theorem d14_31 : decode prog_118_method_4_code 31 = .ok (.ifCond .lt 18, 3) := by decide +kernel
theorem d14_34 : decode prog_118_method_4_code 34 = .ok (.iload 5, 2) := by decide +kernel
theorem d14_36 : decode prog_118_method_4_code 36 = .ok (.aload_n 0, 1) := by decide +kernel
theorem d14_37 : decode prog_118_method_4_code 37 = .ok (.getfield 28, 3) := by decide +kernel
theorem d14_40 : decode prog_118_method_4_code 40 = .ok (.iload 4, 2) := by decide +kernel
theorem d14_42 : decode prog_118_method_4_code 42 = .ok (.aaload, 1) := by decide +kernel
theorem d14_43 : decode prog_118_method_4_code 43 = .ok (.getfield 32, 3) := by decide +kernel
theorem d14_46 : decode prog_118_method_4_code 46 = .ok (.if_icmp .le 5, 3) := by decide +kernel
theorem d14_51 : decode prog_118_method_4_code 51 = .ok (.aload_n 0, 1) := by decide +kernel
theorem d14_52 : decode prog_118_method_4_code 52 = .ok (.getfield 28, 3) := by decide +kernel
theorem d14_55 : decode prog_118_method_4_code 55 = .ok (.iload 4, 2) := by decide +kernel
theorem d14_57 : decode prog_118_method_4_code 57 = .ok (.aaload, 1) := by decide +kernel
theorem d14_58 : decode prog_118_method_4_code 58 = .ok (.astore 6, 2) := by decide +kernel
theorem d14_60 : decode prog_118_method_4_code 60 = .ok (.iload 5, 2) := by decide +kernel
theorem d14_62 : decode prog_118_method_4_code 62 = .ok (.ifCond .le 25, 3) := by decide +kernel
theorem d14_65 : decode prog_118_method_4_code 65 = .ok (.aload 6, 2) := by decide +kernel
theorem d14_67 : decode prog_118_method_4_code 67 = .ok (.getfield 35, 3) := by decide +kernel
theorem d14_70 : decode prog_118_method_4_code 70 = .ok (.iload 5, 2) := by decide +kernel
theorem d14_72 : decode prog_118_method_4_code 72 = .ok (.iconst 1, 1) := by decide +kernel
theorem d14_73 : decode prog_118_method_4_code 73 = .ok (.isub, 1) := by decide +kernel
theorem d14_74 : decode prog_118_method_4_code 74 = .ok (.iaload, 1) := by decide +kernel
theorem d14_75 : decode prog_118_method_4_code 75 = .ok (.iload_n 3, 1) := by decide +kernel
theorem d14_76 : decode prog_118_method_4_code 76 = .ok (.if_icmp .ge 7, 3) := by decide +kernel
theorem d14_79 : decode prog_118_method_4_code 79 = .ok (.iconst 1, 1) := by decide +kernel
theorem d14_80 : decode prog_118_method_4_code 80 = .ok (.goto 48, 3) := by decide +kernel
theorem d14_87 : decode prog_118_method_4_code 87 = .ok (.iload 4, 2) := by decide +kernel
theorem d14_89 : decode prog_118_method_4_code 89 = .ok (.ifCond .eq 34, 3) := by decide +kernel
theorem d14_123 : decode prog_118_method_4_code 123 = .ok (.iconst 1, 1) := by decide +kernel
theorem d14_124 : decode prog_118_method_4_code 124 = .ok (.goto 4, 3) := by decide +kernel
theorem d14_128 : decode prog_118_method_4_code 128 = .ok (.istore 7, 2) := by decide +kernel
theorem d14_130 : decode prog_118_method_4_code 130 = .ok (.iload 5, 2) := by decide +kernel
theorem d14_132 : decode prog_118_method_4_code 132 = .ok (.aload 6, 2) := by decide +kernel
theorem d14_134 : decode prog_118_method_4_code 134 = .ok (.getfield 32, 3) := by decide +kernel
theorem d14_137 : decode prog_118_method_4_code 137 = .ok (.if_icmp .ge 23, 3) := by decide +kernel
theorem d14_140 : decode prog_118_method_4_code 140 = .ok (.aload 6, 2) := by decide +kernel
theorem d14_142 : decode prog_118_method_4_code 142 = .ok (.getfield 35, 3) := by decide +kernel
theorem d14_145 : decode prog_118_method_4_code 145 = .ok (.iload 5, 2) := by decide +kernel
theorem d14_147 : decode prog_118_method_4_code 147 = .ok (.iaload, 1) := by decide +kernel
theorem d14_148 : decode prog_118_method_4_code 148 = .ok (.iload_n 3, 1) := by decide +kernel
theorem d14_149 : decode prog_118_method_4_code 149 = .ok (.if_icmp .le 7, 3) := by decide +kernel
theorem d14_152 : decode prog_118_method_4_code 152 = .ok (.iconst 1, 1) := by decide +kernel
theorem d14_153 : decode prog_118_method_4_code 153 = .ok (.goto 41, 3) := by decide +kernel
theorem d14_160 : decode prog_118_method_4_code 160 = .ok (.iload 4, 2) := by decide +kernel
theorem d14_162 : decode prog_118_method_4_code 162 = .ok (.aload_n 0, 1) := by decide +kernel
theorem d14_163 : decode prog_118_method_4_code 163 = .ok (.getfield 15, 3) := by decide +kernel
theorem d14_166 : decode prog_118_method_4_code 166 = .ok (.iconst 1, 1) := by decide +kernel
theorem d14_167 : decode prog_118_method_4_code 167 = .ok (.isub, 1) := by decide +kernel
theorem d14_168 : decode prog_118_method_4_code 168 = .ok (.if_icmp .eq 21, 3) := by decide +kernel
theorem d14_189 : decode prog_118_method_4_code 189 = .ok (.iconst 1, 1) := by decide +kernel
theorem d14_190 : decode prog_118_method_4_code 190 = .ok (.goto 4, 3) := by decide +kernel
theorem d14_194 : decode prog_118_method_4_code 194 = .ok (.istore 8, 2) := by decide +kernel
theorem d14_196 : decode prog_118_method_4_code 196 = .ok (.iload 7, 2) := by decide +kernel
theorem d14_198 : decode prog_118_method_4_code 198 = .ok (.ifCond .eq 12, 3) := by decide +kernel
theorem d14_201 : decode prog_118_method_4_code 201 = .ok (.iload 8, 2) := by decide +kernel
theorem d14_203 : decode prog_118_method_4_code 203 = .ok (.ifCond .eq 7, 3) := by decide +kernel
theorem d14_206 : decode prog_118_method_4_code 206 = .ok (.iconst 1, 1) := by decide +kernel
theorem d14_207 : decode prog_118_method_4_code 207 = .ok (.goto 4, 3) := by decide +kernel
theorem d14_211 : decode prog_118_method_4_code 211 = .ok (.ireturn, 1) := by decide +kernel
theorem d15_0 : decode prog_118_method_6_code 0 = .ok (.lload_n 1, 1) := by decide +kernel
theorem d15_1 : decode prog_118_method_6_code 1 = .ok (.bipush 32, 2) := by decide +kernel
theorem d15_3 : decode prog_118_method_6_code 3 = .ok (.lushr, 1) := by decide +kernel
theorem d15_4 : decode prog_118_method_6_code 4 = .ok (.l2i, 1) := by decide +kernel
theorem d15_5 : decode prog_118_method_6_code 5 = .ok (.istore 6, 2) := by decide +kernel
theorem d15_7 : decode prog_118_method_6_code 7 = .ok (.lload_n 1, 1) := by decide +kernel
theorem d15_8 : decode prog_118_method_6_code 8 = .ok (.l2i, 1) := by decide +kernel
theorem d15_9 : decode prog_118_method_6_code 9 = .ok (.sipush 256, 3) := by decide +kernel
theorem d15_12 : decode prog_118_method_6_code 12 = .ok (.isub, 1) := by decide +kernel
theorem d15_13 : decode prog_118_method_6_code 13 = .ok (.istore 7, 2) := by decide +kernel
theorem d15_15 : decode prog_118_method_6_code 15 = .ok (.aload_n 0, 1) := by decide +kernel
theorem d15_16 : decode prog_118_method_6_code 16 = .ok (.getfield 28, 3) := by decide +kernel
theorem d15_19 : decode prog_118_method_6_code 19 = .ok (.iload 6, 2) := by decide +kernel
theorem d15_21 : decode prog_118_method_6_code 21 = .ok (.aaload, 1) := by decide +kernel
theorem d15_22 : decode prog_118_method_6_code 22 = .ok (.astore 8, 2) := by decide +kernel
theorem d15_24 : decode prog_118_method_6_code 24 = .ok (.aload 8, 2) := by decide +kernel
theorem d15_26 : decode prog_118_method_6_code 26 = .ok (.getfield 32, 3) := by decide +kernel
theorem d15_29 : decode prog_118_method_6_code 29 = .ok (.sipush 256, 3) := by decide +kernel
theorem d15_32 : decode prog_118_method_6_code 32 = .ok (.if_icmp .ne 70, 3) := by decide +kernel
theorem d15_102 : decode prog_118_method_6_code 102 = .ok (.aload 8, 2) := by decide +kernel
theorem d15_104 : decode prog_118_method_6_code 104 = .ok (.getfield 32, 3) := by decide +kernel
theorem d15_107 : decode prog_118_method_6_code 107 = .ok (.iload 7, 2) := by decide +kernel
theorem d15_109 : decode prog_118_method_6_code 109 = .ok (.isub, 1) := by decide +kernel
theorem d15_110 : decode prog_118_method_6_code 110 = .ok (.istore 9, 2) := by decide +kernel
theorem d15_112 : decode prog_118_method_6_code 112 = .ok (.aload 8, 2) := by decide +kernel
theorem d15_114 : decode prog_118_method_6_code 114 = .ok (.getfield 35, 3) := by decide +kernel
theorem d15_117 : decode prog_118_method_6_code 117 = .ok (.iload 7, 2) := by decide +kernel
theorem d15_119 : decode prog_118_method_6_code 119 = .ok (.aload 8, 2) := by decide +kernel
theorem d15_121 : decode prog_118_method_6_code 121 = .ok (.getfield 35, 3) := by decide +kernel
theorem d15_124 : decode prog_118_method_6_code 124 = .ok (.iload 7, 2) := by decide +kernel
theorem d15_126 : decode prog_118_method_6_code 126 = .ok (.iconst 1, 1) := by decide +kernel
theorem d15_127 : decode prog_118_method_6_code 127 = .ok (.iadd, 1) := by decide +kernel
theorem d15_128 : decode prog_118_method_6_code 128 = .ok (.iload 9, 2) := by decide +kernel
theorem d15_130 : decode prog_118_method_6_code 130 = .ok (.invokestatic 67, 3) := by decide +kernel
theorem d15_133 : decode prog_118_method_6_code 133 = .ok (.aload 8, 2) := by decide +kernel
theorem d15_135 : decode prog_118_method_6_code 135 = .ok (.getfield 35, 3) := by decide +kernel
theorem d15_138 : decode prog_118_method_6_code 138 = .ok (.iload 7, 2) := by decide +kernel
theorem d15_140 : decode prog_118_method_6_code 140 = .ok (.iload_n 3, 1) := by decide +kernel
theorem d15_141 : decode prog_118_method_6_code 141 = .ok (.iastore, 1) := by decide +kernel
theorem d15_142 : decode prog_118_method_6_code 142 = .ok (.aload_n 0, 1) := by decide +kernel
theorem d15_143 : decode prog_118_method_6_code 143 = .ok (.getfield 19, 3) := by decide +kernel
theorem d15_146 : decode prog_118_method_6_code 146 = .ok (.ifCond .eq 65, 3) := by decide +kernel
theorem d15_149 : decode prog_118_method_6_code 149 = .ok (.aload 8, 2) := by decide +kernel
theorem d15_151 : decode prog_118_method_6_code 151 = .ok (.getfield 56, 3) := by decide +kernel
theorem d15_154 : decode prog_118_method_6_code 154 = .ok (.iload 7, 2) := by decide +kernel
theorem d15_156 : decode prog_118_method_6_code 156 = .ok (.aload 8, 2) := by decide +kernel
theorem d15_158 : decode prog_118_method_6_code 158 = .ok (.getfield 56, 3) := by decide +kernel
theorem d15_161 : decode prog_118_method_6_code 161 = .ok (.iload 7, 2) := by decide +kernel
theorem d15_163 : decode prog_118_method_6_code 163 = .ok (.iconst 1, 1) := by decide +kernel
theorem d15_164 : decode prog_118_method_6_code 164 = .ok (.iadd, 1) := by decide +kernel
theorem d15_165 : decode prog_118_method_6_code 165 = .ok (.iload 9, 2) := by decide +kernel
theorem d15_167 : decode prog_118_method_6_code 167 = .ok (.invokestatic 67, 3) := by decide +kernel
theorem d15_170 : decode prog_118_method_6_code 170 = .ok (.aload 8, 2) := by decide +kernel
theorem d15_172 : decode prog_118_method_6_code 172 = .ok (.getfield 59, 3) := by decide +kernel
theorem d15_175 : decode prog_118_method_6_code 175 = .ok (.iload 7, 2) := by decide +kernel
theorem d15_177 : decode prog_118_method_6_code 177 = .ok (.aload 8, 2) := by decide +kernel
theorem d15_179 : decode prog_118_method_6_code 179 = .ok (.getfield 59, 3) := by decide +kernel
theorem d15_182 : decode prog_118_method_6_code 182 = .ok (.iload 7, 2) := by decide +kernel
theorem d15_184 : decode prog_118_method_6_code 184 = .ok (.iconst 1, 1) := by decide +kernel
theorem d15_185 : decode prog_118_method_6_code 185 = .ok (.iadd, 1) := by decide +kernel
theorem d15_186 : decode prog_118_method_6_code 186 = .ok (.iload 9, 2) := by decide +kernel
theorem d15_188 : decode prog_118_method_6_code 188 = .ok (.invokestatic 67, 3) := by decide +kernel
theorem d15_191 : decode prog_118_method_6_code 191 = .ok (.aload 8, 2) := by decide +kernel
theorem d15_193 : decode prog_118_method_6_code 193 = .ok (.getfield 56, 3) := by decide +kernel
theorem d15_196 : decode prog_118_method_6_code 196 = .ok (.iload 7, 2) := by decide +kernel
theorem d15_198 : decode prog_118_method_6_code 198 = .ok (.iload 4, 2) := by decide +kernel
theorem d15_200 : decode prog_118_method_6_code 200 = .ok (.iastore, 1) := by decide +kernel
theorem d15_201 : decode prog_118_method_6_code 201 = .ok (.aload 8, 2) := by decide +kernel
theorem d15_203 : decode prog_118_method_6_code 203 = .ok (.getfield 59, 3) := by decide +kernel
theorem d15_206 : decode prog_118_method_6_code 206 = .ok (.iload 7, 2) := by decide +kernel
theorem d15_208 : decode prog_118_method_6_code 208 = .ok (.aload 5, 2) := by decide +kernel
theorem d15_210 : decode prog_118_method_6_code 210 = .ok (.aastore, 1) := by decide +kernel
theorem d15_211 : decode prog_118_method_6_code 211 = .ok (.aload 8, 2) := by decide +kernel
theorem d15_213 : decode prog_118_method_6_code 213 = .ok (.dup, 1) := by decide +kernel
theorem d15_214 : decode prog_118_method_6_code 214 = .ok (.getfield 32, 3) := by decide +kernel
theorem d15_217 : decode prog_118_method_6_code 217 = .ok (.iconst 1, 1) := by decide +kernel
theorem d15_218 : decode prog_118_method_6_code 218 = .ok (.iadd, 1) := by decide +kernel
theorem d15_219 : decode prog_118_method_6_code 219 = .ok (.putfield 32, 3) := by decide +kernel
theorem d15_222 : decode prog_118_method_6_code 222 = .ok (.aload_n 0, 1) := by decide +kernel
theorem d15_223 : decode prog_118_method_6_code 223 = .ok (.getfield 9, 3) := by decide +kernel
theorem d15_226 : decode prog_118_method_6_code 226 = .ok (.iload 6, 2) := by decide +kernel
theorem d15_228 : decode prog_118_method_6_code 228 = .ok (.aload 8, 2) := by decide +kernel
theorem d15_230 : decode prog_118_method_6_code 230 = .ok (.getfield 35, 3) := by decide +kernel
theorem d15_233 : decode prog_118_method_6_code 233 = .ok (.iconst 0, 1) := by decide +kernel
theorem d15_234 : decode prog_118_method_6_code 234 = .ok (.iaload, 1) := by decide +kernel
theorem d15_235 : decode prog_118_method_6_code 235 = .ok (.iastore, 1) := by decide +kernel
theorem d15_236 : decode prog_118_method_6_code 236 = .ok (.return_, 1) := by decide +kernel
theorem d16_0 : decode jdk_65_method_58_code 0 = .ok (.aload_n 0, 1) := by decide +kernel
theorem d16_1 : decode jdk_65_method_58_code 1 = .ok (.arraylength, 1) := by decide +kernel
theorem d16_2 : decode jdk_65_method_58_code 2 = .ok (.iload_n 1, 1) := by decide +kernel
theorem d16_3 : decode jdk_65_method_58_code 3 = .ok (.iload_n 2, 1) := by decide +kernel
theorem d16_4 : decode jdk_65_method_58_code 4 = .ok (.invokestatic 13, 3) := by decide +kernel
theorem d16_7 : decode jdk_65_method_58_code 7 = .ok (.aload_n 0, 1) := by decide +kernel
theorem d16_8 : decode jdk_65_method_58_code 8 = .ok (.iload_n 1, 1) := by decide +kernel
theorem d16_9 : decode jdk_65_method_58_code 9 = .ok (.iload_n 2, 1) := by decide +kernel
theorem d16_10 : decode jdk_65_method_58_code 10 = .ok (.iload_n 3, 1) := by decide +kernel
theorem d16_11 : decode jdk_65_method_58_code 11 = .ok (.invokestatic 209, 3) := by decide +kernel
theorem d16_14 : decode jdk_65_method_58_code 14 = .ok (.ireturn, 1) := by decide +kernel
theorem d17_0 : decode jdk_65_method_30_code 0 = .ok (.iload_n 1, 1) := by decide +kernel
theorem d17_1 : decode jdk_65_method_30_code 1 = .ok (.iload_n 2, 1) := by decide +kernel
theorem d17_2 : decode jdk_65_method_30_code 2 = .ok (.if_icmp .le 44, 3) := by decide +kernel
theorem d17_46 : decode jdk_65_method_30_code 46 = .ok (.iload_n 1, 1) := by decide +kernel
theorem d17_47 : decode jdk_65_method_30_code 47 = .ok (.ifCond .ge 12, 3) := by decide +kernel
theorem d17_59 : decode jdk_65_method_30_code 59 = .ok (.iload_n 2, 1) := by decide +kernel
theorem d17_60 : decode jdk_65_method_30_code 60 = .ok (.iload_n 0, 1) := by decide +kernel
theorem d17_61 : decode jdk_65_method_30_code 61 = .ok (.if_icmp .le 12, 3) := by decide +kernel
theorem d17_73 : decode jdk_65_method_30_code 73 = .ok (.return_, 1) := by decide +kernel
theorem d18_0 : decode jdk_65_method_59_code 0 = .ok (.iload_n 1, 1) := by decide +kernel
theorem d18_1 : decode jdk_65_method_59_code 1 = .ok (.istore 4, 2) := by decide +kernel
theorem d18_3 : decode jdk_65_method_59_code 3 = .ok (.iload_n 2, 1) := by decide +kernel
theorem d18_4 : decode jdk_65_method_59_code 4 = .ok (.iconst 1, 1) := by decide +kernel
theorem d18_5 : decode jdk_65_method_59_code 5 = .ok (.isub, 1) := by decide +kernel
theorem d18_6 : decode jdk_65_method_59_code 6 = .ok (.istore 5, 2) := by decide +kernel
theorem d18_8 : decode jdk_65_method_59_code 8 = .ok (.iload 4, 2) := by decide +kernel
theorem d18_10 : decode jdk_65_method_59_code 10 = .ok (.iload 5, 2) := by decide +kernel
theorem d18_12 : decode jdk_65_method_59_code 12 = .ok (.if_icmp .gt 54, 3) := by decide +kernel
theorem d18_15 : decode jdk_65_method_59_code 15 = .ok (.iload 4, 2) := by decide +kernel
theorem d18_17 : decode jdk_65_method_59_code 17 = .ok (.iload 5, 2) := by decide +kernel
theorem d18_19 : decode jdk_65_method_59_code 19 = .ok (.iadd, 1) := by decide +kernel
theorem d18_20 : decode jdk_65_method_59_code 20 = .ok (.iconst 1, 1) := by decide +kernel
theorem d18_21 : decode jdk_65_method_59_code 21 = .ok (.iushr, 1) := by decide +kernel
theorem d18_22 : decode jdk_65_method_59_code 22 = .ok (.istore 6, 2) := by decide +kernel
theorem d18_24 : decode jdk_65_method_59_code 24 = .ok (.aload_n 0, 1) := by decide +kernel
theorem d18_25 : decode jdk_65_method_59_code 25 = .ok (.iload 6, 2) := by decide +kernel
theorem d18_27 : decode jdk_65_method_59_code 27 = .ok (.iaload, 1) := by decide +kernel
theorem d18_28 : decode jdk_65_method_59_code 28 = .ok (.istore 7, 2) := by decide +kernel
theorem d18_30 : decode jdk_65_method_59_code 30 = .ok (.iload 7, 2) := by decide +kernel
theorem d18_32 : decode jdk_65_method_59_code 32 = .ok (.iload_n 3, 1) := by decide +kernel
theorem d18_33 : decode jdk_65_method_59_code 33 = .ok (.if_icmp .ge 12, 3) := by decide +kernel
theorem d18_36 : decode jdk_65_method_59_code 36 = .ok (.iload 6, 2) := by decide +kernel
theorem d18_38 : decode jdk_65_method_59_code 38 = .ok (.iconst 1, 1) := by decide +kernel
theorem d18_39 : decode jdk_65_method_59_code 39 = .ok (.iadd, 1) := by decide +kernel
theorem d18_40 : decode jdk_65_method_59_code 40 = .ok (.istore 4, 2) := by decide +kernel
theorem d18_42 : decode jdk_65_method_59_code 42 = .ok (.goto 21, 3) := by decide +kernel
theorem d18_45 : decode jdk_65_method_59_code 45 = .ok (.iload 7, 2) := by decide +kernel
theorem d18_47 : decode jdk_65_method_59_code 47 = .ok (.iload_n 3, 1) := by decide +kernel
theorem d18_48 : decode jdk_65_method_59_code 48 = .ok (.if_icmp .le 12, 3) := by decide +kernel
theorem d18_51 : decode jdk_65_method_59_code 51 = .ok (.iload 6, 2) := by decide +kernel
theorem d18_53 : decode jdk_65_method_59_code 53 = .ok (.iconst 1, 1) := by decide +kernel
theorem d18_54 : decode jdk_65_method_59_code 54 = .ok (.isub, 1) := by decide +kernel
theorem d18_55 : decode jdk_65_method_59_code 55 = .ok (.istore 5, 2) := by decide +kernel
theorem d18_57 : decode jdk_65_method_59_code 57 = .ok (.goto 6, 3) := by decide +kernel
theorem d18_60 : decode jdk_65_method_59_code 60 = .ok (.iload 6, 2) := by decide +kernel
theorem d18_62 : decode jdk_65_method_59_code 62 = .ok (.ireturn, 1) := by decide +kernel
theorem d18_63 : decode jdk_65_method_59_code 63 = .ok (.goto (-55), 3) := by decide +kernel
theorem d18_66 : decode jdk_65_method_59_code 66 = .ok (.iload 4, 2) := by decide +kernel
theorem d18_68 : decode jdk_65_method_59_code 68 = .ok (.iconst 1, 1) := by decide +kernel
theorem d18_69 : decode jdk_65_method_59_code 69 = .ok (.iadd, 1) := by decide +kernel
theorem d18_70 : decode jdk_65_method_59_code 70 = .ok (.ineg, 1) := by decide +kernel
theorem d18_71 : decode jdk_65_method_59_code 71 = .ok (.ireturn, 1) := by decide +kernel
theorem d19_0 : decode jdk_29_method_65_code 0 = .ok (.iload_n 0, 1) := by decide +kernel
theorem d19_1 : decode jdk_29_method_65_code 1 = .ok (.iload_n 1, 1) := by decide +kernel
theorem d19_2 : decode jdk_29_method_65_code 2 = .ok (.if_icmp .lt 7, 3) := by decide +kernel
theorem d19_5 : decode jdk_29_method_65_code 5 = .ok (.iload_n 0, 1) := by decide +kernel
theorem d19_6 : decode jdk_29_method_65_code 6 = .ok (.goto 4, 3) := by decide +kernel
theorem d19_9 : decode jdk_29_method_65_code 9 = .ok (.iload_n 1, 1) := by decide +kernel
theorem d19_10 : decode jdk_29_method_65_code 10 = .ok (.ireturn, 1) := by decide +kernel
theorem d20_0 : decode prog_118_method_5_code 0 = .ok (.aload_n 0, 1) := by decide +kernel
theorem d20_1 : decode prog_118_method_5_code 1 = .ok (.getfield 28, 3) := by decide +kernel
theorem d20_4 : decode prog_118_method_5_code 4 = .ok (.aload_n 0, 1) := by decide +kernel
theorem d20_5 : decode prog_118_method_5_code 5 = .ok (.getfield 15, 3) := by decide +kernel
theorem d20_8 : decode prog_118_method_5_code 8 = .ok (.iconst 1, 1) := by decide +kernel
theorem d20_9 : decode prog_118_method_5_code 9 = .ok (.isub, 1) := by decide +kernel
theorem d20_10 : decode prog_118_method_5_code 10 = .ok (.aaload, 1) := by decide +kernel
theorem d20_11 : decode prog_118_method_5_code 11 = .ok (.astore 4, 2) := by decide +kernel
theorem d20_13 : decode prog_118_method_5_code 13 = .ok (.aload 4, 2) := by decide +kernel
theorem d20_15 : decode prog_118_method_5_code 15 = .ok (.getfield 32, 3) := by decide +kernel
theorem d20_18 : decode prog_118_method_5_code 18 = .ok (.istore 5, 2) := by decide +kernel
theorem d20_20 : decode prog_118_method_5_code 20 = .ok (.iload 5, 2) := by decide +kernel
theorem d20_22 : decode prog_118_method_5_code 22 = .ok (.ifCond .le 19, 3) := by decide +kernel
theorem d20_25 : decode prog_118_method_5_code 25 = .ok (.iload_n 1, 1) := by decide +kernel
theorem d20_26 : decode prog_118_method_5_code 26 = .ok (.aload 4, 2) := by decide +kernel
theorem d20_28 : decode prog_118_method_5_code 28 = .ok (.getfield 35, 3) := by decide +kernel
theorem d20_31 : decode prog_118_method_5_code 31 = .ok (.iload 5, 2) := by decide +kernel
theorem d20_33 : decode prog_118_method_5_code 33 = .ok (.iconst 1, 1) := by decide +kernel
theorem d20_34 : decode prog_118_method_5_code 34 = .ok (.isub, 1) := by decide +kernel
theorem d20_35 : decode prog_118_method_5_code 35 = .ok (.iaload, 1) := by decide +kernel
theorem d20_36 : decode prog_118_method_5_code 36 = .ok (.if_icmp .gt 5, 3) := by decide +kernel
theorem d20_39 : decode prog_118_method_5_code 39 = .ok (.iconst 0, 1) := by decide +kernel
theorem d20_40 : decode prog_118_method_5_code 40 = .ok (.ireturn, 1) := by decide +kernel
theorem d20_41 : decode prog_118_method_5_code 41 = .ok (.iload 5, 2) := by decide +kernel
theorem d20_43 : decode prog_118_method_5_code 43 = .ok (.sipush 256, 3) := by decide +kernel
theorem d20_46 : decode prog_118_method_5_code 46 = .ok (.if_icmp .ne 16, 3) := by decide +kernel
theorem d20_62 : decode prog_118_method_5_code 62 = .ok (.aload 4, 2) := by decide +kernel
theorem d20_64 : decode prog_118_method_5_code 64 = .ok (.getfield 35, 3) := by decide +kernel
theorem d20_67 : decode prog_118_method_5_code 67 = .ok (.iload 5, 2) := by decide +kernel
theorem d20_69 : decode prog_118_method_5_code 69 = .ok (.iload_n 1, 1) := by decide +kernel
theorem d20_70 : decode prog_118_method_5_code 70 = .ok (.iastore, 1) := by decide +kernel
theorem d20_71 : decode prog_118_method_5_code 71 = .ok (.aload_n 0, 1) := by decide +kernel
theorem d20_72 : decode prog_118_method_5_code 72 = .ok (.getfield 19, 3) := by decide +kernel
theorem d20_75 : decode prog_118_method_5_code 75 = .ok (.ifCond .eq 21, 3) := by decide +kernel
theorem d20_78 : decode prog_118_method_5_code 78 = .ok (.aload 4, 2) := by decide +kernel
theorem d20_80 : decode prog_118_method_5_code 80 = .ok (.getfield 56, 3) := by decide +kernel
theorem d20_83 : decode prog_118_method_5_code 83 = .ok (.iload 5, 2) := by decide +kernel
theorem d20_85 : decode prog_118_method_5_code 85 = .ok (.iload_n 2, 1) := by decide +kernel
theorem d20_86 : decode prog_118_method_5_code 86 = .ok (.iastore, 1) := by decide +kernel
theorem d20_87 : decode prog_118_method_5_code 87 = .ok (.aload 4, 2) := by decide +kernel
theorem d20_89 : decode prog_118_method_5_code 89 = .ok (.getfield 59, 3) := by decide +kernel
theorem d20_92 : decode prog_118_method_5_code 92 = .ok (.iload 5, 2) := by decide +kernel
theorem d20_94 : decode prog_118_method_5_code 94 = .ok (.aload_n 3, 1) := by decide +kernel
theorem d20_95 : decode prog_118_method_5_code 95 = .ok (.aastore, 1) := by decide +kernel
theorem d20_96 : decode prog_118_method_5_code 96 = .ok (.aload 4, 2) := by decide +kernel
theorem d20_98 : decode prog_118_method_5_code 98 = .ok (.iload 5, 2) := by decide +kernel
theorem d20_100 : decode prog_118_method_5_code 100 = .ok (.iconst 1, 1) := by decide +kernel
theorem d20_101 : decode prog_118_method_5_code 101 = .ok (.iadd, 1) := by decide +kernel
theorem d20_102 : decode prog_118_method_5_code 102 = .ok (.putfield 32, 3) := by decide +kernel
theorem d20_105 : decode prog_118_method_5_code 105 = .ok (.aload_n 0, 1) := by decide +kernel
theorem d20_106 : decode prog_118_method_5_code 106 = .ok (.getfield 9, 3) := by decide +kernel
theorem d20_109 : decode prog_118_method_5_code 109 = .ok (.aload_n 0, 1) := by decide +kernel
theorem d20_110 : decode prog_118_method_5_code 110 = .ok (.getfield 15, 3) := by decide +kernel
theorem d20_113 : decode prog_118_method_5_code 113 = .ok (.iconst 1, 1) := by decide +kernel
theorem d20_114 : decode prog_118_method_5_code 114 = .ok (.isub, 1) := by decide +kernel
theorem d20_115 : decode prog_118_method_5_code 115 = .ok (.aload 4, 2) := by decide +kernel
theorem d20_117 : decode prog_118_method_5_code 117 = .ok (.getfield 35, 3) := by decide +kernel
theorem d20_120 : decode prog_118_method_5_code 120 = .ok (.iconst 0, 1) := by decide +kernel
theorem d20_121 : decode prog_118_method_5_code 121 = .ok (.iaload, 1) := by decide +kernel
theorem d20_122 : decode prog_118_method_5_code 122 = .ok (.iastore, 1) := by decide +kernel
theorem d20_123 : decode prog_118_method_5_code 123 = .ok (.iconst 1, 1) := by decide +kernel
theorem d20_124 : decode prog_118_method_5_code 124 = .ok (.ireturn, 1) := by decide +kernel
theorem d21_0 : decode jdk_29_method_70_code 0 = .ok (.lload_n 0, 1) := by decide +kernel
theorem d21_1 : decode jdk_29_method_70_code 1 = .ok (.lload_n 2, 1) := by decide +kernel
theorem d21_2 : decode jdk_29_method_70_code 2 = .ok (.lcmp, 1) := by decide +kernel
theorem d21_3 : decode jdk_29_method_70_code 3 = .ok (.ifCond .gt 7, 3) := by decide +kernel
theorem d21_6 : decode jdk_29_method_70_code 6 = .ok (.lload_n 0, 1) := by decide +kernel
theorem d21_7 : decode jdk_29_method_70_code 7 = .ok (.goto 4, 3) := by decide +kernel
theorem d21_10 : decode jdk_29_method_70_code 10 = .ok (.lload_n 2, 1) := by decide +kernel
theorem d21_11 : decode jdk_29_method_70_code 11 = .ok (.lreturn, 1) := by decide +kernel
theorem pn_0 : plainName "com/example/theuth/theuth/io/Followed$Chunk" = true := by first | (simp [plainName, overriddenIn]; done) | decide +kernel
theorem pn_1 : plainName "com/example/theuth/theuth/io/Followed$Offsets" = true := by first | (simp [plainName, overriddenIn]; done) | decide +kernel
theorem pd_2 : parseMethodDescriptor "(Z)V" = some ⟨[.boolean], none⟩ := by decide +kernel
theorem pn_3 : plainName "java/util/Arrays" = true := by first | (simp [plainName, overriddenIn]; done) | decide +kernel
theorem pd_4 : parseMethodDescriptor "(III)V" = some ⟨[.int, .int, .int], none⟩ := by decide +kernel
theorem pd_5 : parseMethodDescriptor "([IIII)I" = some ⟨[(.array .int), .int, .int, .int], some .int⟩ := by decide +kernel
theorem pd_6 : parseMethodDescriptor "(II)I" = some ⟨[.int, .int], some .int⟩ := by decide +kernel
theorem pn_7 : plainName "com/example/theuth/theuth/io/Followed" = true := by first | (simp [plainName, overriddenIn]; done) | decide +kernel
theorem pd_8 : parseMethodDescriptor "(I)J" = some ⟨[.int], some .long⟩ := by decide +kernel
theorem pd_9 : parseMethodDescriptor "()Z" = some ⟨[], some .boolean⟩ := by decide +kernel
theorem pd_10 : parseMethodDescriptor "(JI)Z" = some ⟨[.long, .int], some .boolean⟩ := by decide +kernel
theorem pd_11 : parseMethodDescriptor "(JIILjava/lang/Object;)V" = some ⟨[.long, .int, .int, (.object "java/lang/Object")], none⟩ := by decide +kernel
theorem pd_12 : parseMethodDescriptor "(IILjava/lang/Object;)Z" = some ⟨[.int, .int, (.object "java/lang/Object")], some .boolean⟩ := by decide +kernel
theorem pn_13 : plainName "com/example/theuth/theuth/io/FollowedFirstReadWithinPinLaw" = true := by first | (simp [plainName, overriddenIn]; done) | decide +kernel
theorem pd_14 : parseMethodDescriptor "(JJ)J" = some ⟨[.long, .long], some .long⟩ := by decide +kernel
theorem pn_15 : plainName "java/lang/Integer" = true := by first | (simp [plainName, overriddenIn]; done) | decide +kernel
theorem pd_16 : parseMethodDescriptor "()V" = some ⟨[], none⟩ := by decide +kernel
theorem pd_17 : parseMethodDescriptor "(I)Ljava/lang/Integer;" = some ⟨[.int], some (.object "java/lang/Integer")⟩ := by decide +kernel
theorem pd_18 : parseMethodDescriptor "(J)Z" = some ⟨[.long], some .boolean⟩ := by decide +kernel
theorem pd_19 : parseMethodDescriptor "(ZIIJ)J" = some ⟨[.boolean, .int, .int, .long], some .long⟩ := by decide +kernel
theorem pd_20 : parseMethodDescriptor "(JI)I" = some ⟨[.long, .int], some .int⟩ := by decide +kernel
def own_b (P : Prop) [Decidable P] : Int32 := if P then 1 else 0
theorem own_asym {x y : Int32} (h : x < y) : ¬ y < x := by
  rw [Int32.lt_iff_toInt_lt] at h ⊢
  omega
theorem own_len {args : Array Value} {Z : State} {t : Term} {x : Addr} {cl : Cell} {ty : FieldType} {v : Int32} (ht : t.eval args Z none [] Z = some (.ref x)) (ha : Arr Z Z.heap x cl ty) (h : (Term.length t).eval args Z none [] Z = some (.int v)) : cl.slots.size < 2 ^ 31 ∧ cl.slots.size.toInt32 = v := by
  have q := ha.fin (Vm.Alike.refl _)
  simpa [Term.eval, ht, q] using h
theorem own_arv {Z : State} {a : Addr} {cl : Cell} {ty : FieldType} {z : Int32} {dv : Value} (hf : Fit Z) (A : Arr Z Z.heap a cl ty) (q : cl.slots.size < 2 ^ 31) (e : cl.slots.size.toInt32 = z) (hz : ¬ z < 0) : Arv Z Z.heap a cl.cls ty z cl.slots.toList dv := by
  refine Arv.start hf A q e hz ?_ ?_
  · rw [← e, Array.length_toList, Int32.toNatClampNeg, len_toInt q]
    simp
  · have g : ∀ (l : List Value) (i : Nat), (∀ j, j < l.length → cl.slots[i + j]? = l[j]?) → HasL cl i l := by
      intro l
      induction l with
      | nil => intro i _; trivial
      | cons v r ih =>
        intro i h
        refine ⟨by simpa using h 0 (by simp), ih (i + 1) (fun j hj => ?_)⟩
        have := h (j + 1) (by simpa using hj)
        rw [show i + 1 + j = i + (j + 1) from by omega]
        simpa using this
    refine g _ 0 (fun j hj => ?_)
    simp
theorem own_box {args : Array Value} {Z : State} {t : Term} {a : Addr} {c : Cell} {K : String} {B : Jvm.Cond} (et : ∀ idx, t.eval args Z none idx Z = some (.ref a)) (A : Arr Z Z.heap a c (.object K)) (n : c.slots.size.toInt32 = 256) (q : c.slots.size < 2 ^ 31) (h : (Jvm.Cond.all t (.and (.exactly (.elem t (.index 0)) K) B)).value args Z none Z [] = some true) : ∃ b, c.slots.toList.getD (128 : Int32).toNatClampNeg .null = .ref b ∧ Exa Z Z.heap b K := by
  have hs : c.slots.size = 256 := by
    have e := len_toInt q
    rw [n] at e
    have z : (256 : Int32).toInt = 256 := rfl
    omega
  obtain ⟨u1, u2⟩ := and_e (Cond.all_elim (et []) (A.fin (Vm.Alike.refl _)) h (128 : Int32).toNatClampNeg (by rw [hs]; decide))
  obtain ⟨box, eb⟩ := exa_v u1
  have g := (elem_f (et _) (idx_at (j := (128 : Int32)) (by decide)) (A.fin (Vm.Alike.refl _)) (by decide)).symm.trans eb
  refine ⟨box, ?_, exa_at eb u1⟩
  rw [List.getD_eq_getElem?_getD, Array.getElem?_toList, g]
  rfl

def own_n : List Int32 → Int32
  | [] => 0
  | [_] => 1
  | [_, _] => 2
  | _ :: _ :: _ :: _ => 3
def own_v : List Int32 → List Value
  | [] => [.int 0, .int 0, .int 0]
  | [a] => [.int a, .int 0, .int 0]
  | [a, b] => [.int a, .int b, .int 0]
  | a :: b :: d :: _ => [.int a, .int b, .int d]
def own_e : List Int32 → List Value
  | [] => [.int 0, .int 0, .int 0]
  | [a] => [.int (a + 1), .int 0, .int 0]
  | [a, b] => [.int (a + 1), .int (b + 1), .int 0]
  | a :: b :: d :: _ => [.int (a + 1), .int (b + 1), .int (d + 1)]
def own_i (v : Addr) : List Int32 → List Value
  | [] => [.null, .null, .null]
  | [_] => [.ref v, .null, .null]
  | [_, _] => [.ref v, .ref v, .null]
  | _ :: _ :: _ :: _ => [.ref v, .ref v, .ref v]
def own_h : List Int32 → Int32
  | [] => 0
  | a :: _ => a
def own_la : List Int32 → Int32
  | [] => 0
  | [a] => a
  | [_, b] => b
  | _ :: _ :: d :: _ => d
def own_p : List Int32 → Int32 → Int64
  | [], _ => 256
  | [a], q => if a < q then 257 else 256
  | [a, b], q => if b < q then 258 else if a < q then 257 else 256
  | a :: b :: d :: _, q => if d < q then 259 else if b < q then 258 else if a < q then 257 else 256
def own_c : List Int32 → Int32 → Int32
  | [], _ => 0
  | [a], q => if a < q then 1 else 0
  | [a, b], q => if b < q then 2 else if a < q then 1 else 0
  | a :: b :: d :: _, q => if d < q then 3 else if b < q then 2 else if a < q then 1 else 0
def own_x : List Int32 → Int32 → Int32
  | [], _ => 0
  | [a], q => if a < q then 0 else a
  | [a, b], q => if b < q then 0 else if a < q then b else a
  | a :: b :: d :: _, q => if d < q then 0 else if b < q then d else if a < q then b else a
def own_y : List Int32 → Int32 → Int32
  | [], _ => 0
  | [a], _ => a
  | [a, b], q => if b < q then b else a
  | a :: b :: d :: _, q => if d < q then d else if b < q then b else a
def own_so : List Int32 → Prop
  | [] => True
  | [_] => True
  | [a, b] => a < b
  | a :: b :: d :: _ => a < b ∧ b < d
def own_ap : List Int32 → Int32 → Prop
  | [], _ => True
  | [a], q => a < q
  | [_, b], q => b < q
  | _ :: _ :: d :: _, q => d < q
def own_ins (q : Int32) : List Int32 → List Int32
  | [] => [q]
  | [a] => if a < q then [a, q] else [q, a]
  | a :: b :: _ => if b < q then [a, b, q] else if a < q then [a, q, b] else [q, a, b]
def own_g (a r : Int32) : Int32 := if a < r then a else -1
def own_fr (xs : List Int32) (q r : Int32) : Int32 := if own_c xs q = own_n xs then -1 else own_g (own_x xs q) r
def own_mx (a b : Int32) : Int32 := if a < b then b else a
def own_mn (a b : Int64) : Int64 := if b < a then b else a
def own_af (w x o : Int32) (b : Int64) : Int64 := if w = 0 then b else if o < x then own_mn b x.toInt64 else b
def own_if (v : Int64) : Int32 := if v.toInt32 < 256 then 1 else if (v.toInt32 &&& 1073741824) = 0 then 0 else 1
def own_ie (xs : List Int32) : Int32 := if own_n xs = 0 then 1 else 0
def own_pl (xs : List Int32) (q : Int32) (v : Int64) : Prop := (q ∈ xs ∧ v.toInt32 < 256) ∨ (q ∉ xs ∧ v = own_p xs q)
def own_ff (rs us : List Int32) (q : Int32) (v : Int64) : Prop := (q ∉ rs → q ∉ us → v = own_p rs q) ∧ (q ∈ rs ∨ q ∈ us → ¬ own_if v = 0)
def own_br1 (a q r : Int32) : Prop := (r = 0 ∧ q = a) ∨ (r = -1 ∧ q < a) ∨ (r = -2 ∧ a < q)
def own_br2 (a b q r : Int32) : Prop := (r = 0 ∧ q = a) ∨ (r = 1 ∧ q = b) ∨ (r = -1 ∧ q < a) ∨ (r = -2 ∧ a < q ∧ q < b) ∨ (r = -3 ∧ b < q)
def own_br3 (a b d q r : Int32) : Prop := (r = 0 ∧ q = a) ∨ (r = 1 ∧ q = b) ∨ (r = 2 ∧ q = d) ∨ (r = -1 ∧ q < a) ∨ (r = -2 ∧ a < q ∧ q < b) ∨ (r = -3 ∧ b < q ∧ q < d) ∨ (r = -4 ∧ d < q)
def own_brg (xs : List Int32) (q r : Int32) : Prop :=
  match xs with
  | [] => True
  | [a] => own_br1 a q r
  | [a, b] => own_br2 a b q r
  | a :: b :: d :: _ => own_br3 a b d q r
def own_ax (n r x : Int32) : Int32 := if n < 1 then 0 else if r = 0 then 1 else if x = 2147483647 then 0 else 1
def own_ay (n r y w x : Int32) : Int32 := if n < 2 then 0 else if r = 0 then (if w = 0 then 1 else if y = x then 0 else 1) else if y = 2147483647 then 0 else (if w = 0 then 1 else if y = x then 0 else 1)
def own_az (n r z w x u y : Int32) : Int32 := if n < 3 then 0 else if r = 0 then (if w = 0 then (if u = 0 then 1 else if z = y then 0 else 1) else if z = x then 0 else (if u = 0 then 1 else if z = y then 0 else 1)) else if z = 2147483647 then 0 else (if w = 0 then (if u = 0 then 1 else if z = y then 0 else 1) else if z = x then 0 else (if u = 0 then 1 else if z = y then 0 else 1))
def own_pr (a r : Int32) : Int32 := if a = 0 then 0 else if r = 0 then 0 else 1
def own_ex (b : Int64) (r : Int32) : Int32 := if b = 9223372036854775807 then -1 else if b < r.toInt64 then b.toInt32 else -1
def own_sr (a r x : Int32) (R : List Int32) : List Int32 := if a = 0 then R else if r = 0 then R else own_ins x R
def own_su (a r x : Int32) (U : List Int32) : List Int32 := if a = 0 then U else if r = 0 then own_ins x U else U
def own_inv (n : Nat) (R U : List Int32) : Prop := R.length + U.length ≤ n ∧ own_so R ∧ own_so U
def own_bt : List Int32 → Int32 → Int64
  | [], _ => 9223372036854775807
  | [a], o => if o < a then a.toInt64 else 9223372036854775807
  | [a, b], o => if o < a then a.toInt64 else if o < b then b.toInt64 else 9223372036854775807
  | a :: b :: d :: _, o => if o < a then a.toInt64 else if o < b then b.toInt64 else if o < d then d.toInt64 else 9223372036854775807
theorem own_eq {x q : Int32} (h1 : ¬ x < q) (h2 : ¬ q < x) : q = x := by
  rw [← Int32.toInt_inj]; simp only [Int32.lt_iff_toInt_lt] at h1 h2; omega
theorem own_sh3 {xs : List Int32} (h : xs.length ≤ 3) : xs = [] ∨ (∃ a, xs = [a]) ∨ (∃ a b, xs = [a, b]) ∨ ∃ a b d, xs = [a, b, d] := by
  rcases xs with _ | ⟨a, _ | ⟨b, _ | ⟨d, _ | ⟨u, w⟩⟩⟩⟩ <;> simp at h ⊢
theorem own_sh2 {xs : List Int32} (h : xs.length ≤ 2) : xs = [] ∨ (∃ a, xs = [a]) ∨ (∃ a b, xs = [a, b]) := by
  rcases xs with _ | ⟨a, _ | ⟨b, _ | ⟨d, w⟩⟩⟩ <;> simp at h ⊢
theorem own_q1 {a q : Int32} (h : q ∉ [a]) : q < a ∨ a < q := by
  simp only [List.mem_cons, List.not_mem_nil, or_false, ← Int32.toInt_inj] at h
  simp only [Int32.lt_iff_toInt_lt]; omega
theorem own_q2 {a b q : Int32} (hs : own_so [a, b]) (h : q ∉ [a, b]) : (q < a ∧ q < b) ∨ (a < q ∧ q < b) ∨ (a < q ∧ b < q) := by
  have hs : a < b := hs
  simp only [List.mem_cons, List.not_mem_nil, or_false, ← Int32.toInt_inj] at h
  simp only [Int32.lt_iff_toInt_lt] at hs ⊢; omega
theorem own_pv (xs : List Int32) (q : Int32) : (own_p xs q = 256 ∧ own_c xs q = 0) ∨ (own_p xs q = 257 ∧ own_c xs q = 1) ∨ (own_p xs q = 258 ∧ own_c xs q = 2) ∨ (own_p xs q = 259 ∧ own_c xs q = 3) := by
  rcases xs with _ | ⟨a, _ | ⟨b, _ | ⟨d, w⟩⟩⟩
  · simp [own_p, own_c]
  · by_cases h : a < q <;> simp [own_p, own_c, h]
  · by_cases h : b < q <;> by_cases g : a < q <;> simp [own_p, own_c, h, g]
  · by_cases h : d < q <;> by_cases g : b < q <;> by_cases f : a < q <;> simp [own_p, own_c, h, g, f]
theorem own_sh32 (xs : List Int32) (q : Int32) : ((((own_p xs q).toUInt64 >>> ((32 : Int32) &&& 0x3f).toInt64.toUInt64).toInt64).toInt32) = (0 : Int32) := by
  rcases own_pv xs q with ⟨h, -⟩ | ⟨h, -⟩ | ⟨h, -⟩ | ⟨h, -⟩ <;> rw [h] <;> decide
theorem own_pc (xs : List Int32) (q : Int32) : ((own_p xs q).toInt32 - (256 : Int32)) = own_c xs q := by
  rcases own_pv xs q with ⟨h, g⟩ | ⟨h, g⟩ | ⟨h, g⟩ | ⟨h, g⟩ <;> rw [h, g] <;> decide
theorem own_p256 (xs : List Int32) (q : Int32) : ¬ ((own_p xs q).toInt32) < (256 : Int32) := by
  rcases own_pv xs q with ⟨h, -⟩ | ⟨h, -⟩ | ⟨h, -⟩ | ⟨h, -⟩ <;> rw [h] <;> decide
theorem own_cb (xs : List Int32) (q : Int32) : ¬ own_c xs q < (0 : Int32) ∧ own_c xs q < (256 : Int32) := by
  rcases own_pv xs q with ⟨-, h⟩ | ⟨-, h⟩ | ⟨-, h⟩ | ⟨-, h⟩ <;> rw [h] <;> decide
theorem own_cb1 {xs : List Int32} {q : Int32} (hp : (0 : Int32) < own_c xs q) : ¬ (own_c xs q - (1 : Int32)) < 0 ∧ (own_c xs q - (1 : Int32)) < (256 : Int32) := by
  revert hp; rcases own_pv xs q with ⟨-, h⟩ | ⟨-, h⟩ | ⟨-, h⟩ | ⟨-, h⟩ <;> rw [h] <;> decide
theorem own_cn (xs : List Int32) (q : Int32) : ¬ own_n xs < own_c xs q := by
  rcases xs with _ | ⟨a, _ | ⟨b, _ | ⟨d, w⟩⟩⟩
  · simp [own_n, own_c]
  · by_cases h : a < q <;> simp [own_n, own_c, h]
  · by_cases h : b < q <;> by_cases g : a < q <;> simp [own_n, own_c, h, g]
  · by_cases h : d < q <;> by_cases g : b < q <;> by_cases f : a < q <;> simp [own_n, own_c, h, g, f]
theorem own_va (xs : List Int32) (q : Int32) : (own_v xs).getD (own_c xs q).toNatClampNeg (.int 0) = .int (own_x xs q) := by
  rcases xs with _ | ⟨a, _ | ⟨b, _ | ⟨d, w⟩⟩⟩
  · rfl
  · by_cases h : a < q <;> simp only [own_v, own_c, own_x, h, if_true, if_false] <;> rfl
  · by_cases h : b < q <;> by_cases g : a < q <;> simp only [own_v, own_c, own_x, h, g, if_true, if_false] <;> rfl
  · by_cases h : d < q <;> by_cases g : b < q <;> by_cases f : a < q <;> simp only [own_v, own_c, own_x, h, g, f, if_true, if_false] <;> rfl
theorem own_vy {xs : List Int32} {q : Int32} (hp : (0 : Int32) < own_c xs q) : (own_v xs).getD (own_c xs q - (1 : Int32)).toNatClampNeg (.int 0) = .int (own_y xs q) := by
  rcases xs with _ | ⟨a, _ | ⟨b, _ | ⟨d, w⟩⟩⟩
  · exact absurd hp (show ¬ (0 : Int32) < 0 by decide)
  · by_cases h : a < q <;> simp only [own_v, own_c, own_y, h, if_true, if_false] <;> rfl
  · by_cases h : b < q <;> by_cases g : a < q <;> simp only [own_v, own_c, own_y, h, g, if_true, if_false] <;> rfl
  · by_cases h : d < q <;> by_cases g : b < q <;> by_cases f : a < q <;> simp only [own_v, own_c, own_y, h, g, f, if_true, if_false] <;> rfl
theorem own_yl {xs : List Int32} {q : Int32} (hp : (0 : Int32) < own_c xs q) : own_y xs q < q := by
  rcases xs with _ | ⟨a, _ | ⟨b, _ | ⟨d, w⟩⟩⟩
  · exact absurd hp (show ¬ (0 : Int32) < 0 by decide)
  · by_cases h : a < q <;> simp [own_c, own_y, h] at hp ⊢
  · by_cases h : b < q <;> by_cases g : a < q <;> simp [own_c, own_y, h, g] at hp ⊢
  · by_cases h : d < q <;> by_cases g : b < q <;> by_cases f : a < q <;> simp [own_c, own_y, h, g, f] at hp ⊢
theorem own_xg {xs : List Int32} {q : Int32} (hl : xs.length ≤ 2) (hs : own_so xs) (hq : q ∉ xs) (hn : own_c xs q < own_n xs) : q < own_x xs q := by
  rcases own_sh2 hl with rfl | ⟨a, rfl⟩ | ⟨a, b, rfl⟩
  · exact absurd hn (show ¬ (0 : Int32) < 0 by decide)
  · rcases own_q1 hq with h | h
    · simp [own_x, own_asym h, h]
    · simp [own_c, own_n, h] at hn
  · rcases own_q2 hs hq with ⟨h, g⟩ | ⟨h, g⟩ | ⟨h, g⟩
    · simp [own_x, own_asym h, own_asym g, h]
    · simp [own_x, h, own_asym g, g]
    · simp [own_c, own_n, h, g] at hn
theorem own_nv (xs : List Int32) : own_n xs = 0 ∨ own_n xs = 1 ∨ own_n xs = 2 ∨ own_n xs = 3 := by
  rcases xs with _ | ⟨a, _ | ⟨b, _ | ⟨d, w⟩⟩⟩ <;> simp [own_n]
theorem own_nb {xs : List Int32} (h0 : ¬ own_n xs = 0) : ¬ (own_n xs - (1 : Int32)) < 0 ∧ (own_n xs - (1 : Int32)) < (256 : Int32) := by
  revert h0; rcases own_nv xs with h | h | h | h <;> rw [h] <;> decide
theorem own_vl (xs : List Int32) : (own_v xs).getD (own_n xs - (1 : Int32)).toNatClampNeg (.int 0) = .int (own_la xs) := by
  rcases xs with _ | ⟨a, _ | ⟨b, _ | ⟨d, w⟩⟩⟩ <;> simp only [own_v, own_n, own_la] <;> rfl
theorem own_n0 (xs : List Int32) : ¬ own_n xs < (0 : Int32) := by rcases own_nv xs with h | h | h | h <;> rw [h] <;> decide
theorem own_n256 (xs : List Int32) : ¬ (256 : Int32) < own_n xs := by rcases own_nv xs with h | h | h | h <;> rw [h] <;> decide
theorem own_ck0 {a q r : Int32} (hb : own_br1 a q r) (h : ¬ r < (0 : Int32)) : (0 : Int32) = r := by
  rcases hb with ⟨rfl, -⟩ | ⟨rfl, -⟩ | ⟨rfl, -⟩
  · rfl
  · exact absurd (by decide) h
  · exact absurd (by decide) h
theorem own_ck1 {a q r : Int32} (hb : own_br1 a q r) (h : r < (0 : Int32)) : (0 : Int32) = own_mx (0 : Int32) ((-r) - (2 : Int32)) := by
  rcases hb with ⟨rfl, -⟩ | ⟨rfl, -⟩ | ⟨rfl, -⟩
  · exact absurd h (by decide)
  · decide
  · decide
theorem own_nil {xs : List Int32} (h : own_n xs = 0) : xs = [] := by
  rcases xs with _ | ⟨a, _ | ⟨b, _ | ⟨d, w⟩⟩⟩
  · rfl
  · exact absurd h (show ¬ (1 : Int32) = 0 by decide)
  · exact absurd h (show ¬ (2 : Int32) = 0 by decide)
  · exact absurd h (show ¬ (3 : Int32) = 0 by decide)
theorem own_ien {us : List Int32} (h : ¬ own_ie us = 0) : us = [] := by
  by_cases g : own_n us = 0
  · exact own_nil g
  · exact absurd (by simp [own_ie, g]) h
theorem own_plN {us : List Int32} {q : Int32} {v : Int64} (h : own_pl us q v) (hq : q ∉ us) : ¬ (v.toInt32) < (256 : Int32) := by
  rcases h with ⟨h, -⟩ | ⟨-, rfl⟩
  · exact absurd h hq
  · exact own_p256 us q
theorem own_plV {us : List Int32} {q : Int32} {v : Int64} (h : own_pl us q v) (hq : q ∉ us) : v = own_p us q := by
  rcases h with ⟨h, -⟩ | ⟨-, h⟩
  · exact absurd h hq
  · exact h
theorem own_plA {us : List Int32} {q : Int32} {v : Int64} (h : own_pl us q v) (g : v.toInt32 < 256) : q ∈ us := by
  rcases h with ⟨h, -⟩ | ⟨-, rfl⟩
  · exact h
  · exact absurd g (own_p256 us q)
theorem own_plB {us : List Int32} {q : Int32} {v : Int64} (h : own_pl us q v) (g : ¬ v.toInt32 < 256) : q ∉ us ∧ v = own_p us q := by
  rcases h with ⟨-, h⟩ | h
  · exact absurd h g
  · exact h
theorem own_ffA {rs us : List Int32} {q : Int32} {v : Int64} (h : own_pl rs q v) (g : v.toInt32 < (256 : Int32)) : own_ff rs us q v := ⟨fun n => absurd (own_plA h g) n, fun _ => by simp [own_if, g]⟩
theorem own_ffB {rs us : List Int32} {q : Int32} {v : Int64} (h : own_pl rs q v) (g : ¬ v.toInt32 < (256 : Int32)) (k : ¬ own_ie us = (0 : Int32)) : own_ff rs us q v := by
  refine ⟨fun _ _ => (own_plB h g).2, fun n => ?_⟩
  rcases n with n | n
  · exact absurd n (own_plB h g).1
  · rw [own_ien k] at n; exact nomatch n
theorem own_ffC {rs us : List Int32} {q : Int32} {v w : Int64} (h : own_pl rs q v) (g : ¬ v.toInt32 < (256 : Int32)) (h' : own_pl us q w) (k : w.toInt32 < (256 : Int32)) : own_ff rs us q (v ||| (1073741824 : Int64)) := by
  refine ⟨fun _ n => absurd (own_plA h' k) n, fun _ => ?_⟩
  rw [(own_plB h g).2]
  rcases own_pv rs q with ⟨z, -⟩ | ⟨z, -⟩ | ⟨z, -⟩ | ⟨z, -⟩ <;> rw [z] <;> decide
theorem own_ffD {rs us : List Int32} {q : Int32} {v w : Int64} (h : own_pl rs q v) (g : ¬ v.toInt32 < (256 : Int32)) (h' : own_pl us q w) (k : ¬ w.toInt32 < (256 : Int32)) : own_ff rs us q v := by
  refine ⟨fun _ _ => (own_plB h g).2, fun n => ?_⟩
  rcases n with n | n
  · exact absurd n (own_plB h g).1
  · exact absurd n (own_plB h' k).1
theorem own_nf {rs us : List Int32} {q : Int32} {v : Int64} (h : own_ff rs us q v) (g : own_if v = (0 : Int32)) : q ∉ rs ∧ v = own_p rs q := by
  have n1 : q ∉ rs := fun z => h.2 (Or.inl z) g
  have n2 : q ∉ us := fun z => h.2 (Or.inr z) g
  exact ⟨n1, h.1 n1 n2⟩
theorem own_ne1 {rs us : List Int32} (h : rs.length + us.length ≤ 2) (g : own_ie us = (0 : Int32)) : rs.length ≤ 1 := by
  rcases us with _ | ⟨a, w⟩
  · exact absurd g (by decide)
  · simp at h; omega
theorem own_tot {n : Nat} {R U : List Int32} (h : own_inv n R U) (k : n ≤ 2) : R.length + U.length ≤ 2 := Nat.le_trans h.1 k
theorem own_lR3 {n : Nat} {R U : List Int32} (h : own_inv n R U) (k : n ≤ 3 := by decide) : R.length ≤ 3 := by have := h.1; omega
theorem own_lU3 {n : Nat} {R U : List Int32} (h : own_inv n R U) (k : n ≤ 3 := by decide) : U.length ≤ 3 := by have := h.1; omega
theorem own_lR2 {n : Nat} {R U : List Int32} (h : own_inv n R U) (k : n ≤ 2 := by decide) : R.length ≤ 2 := by have := h.1; omega
theorem own_lU2 {n : Nat} {R U : List Int32} (h : own_inv n R U) (k : n ≤ 2 := by decide) : U.length ≤ 2 := by have := h.1; omega
theorem own_ayn {v n r y w x : Int32} (h : v = own_ay n r y w x) (g : ¬ v = 0) (z : ¬ w = 0 ∧ y = x) : False := by
  apply g; rw [h]; obtain ⟨z1, rfl⟩ := z; unfold own_ay; simp [z1]
theorem own_azn {v n r z w x u y : Int32} (h : v = own_az n r z w x u y) (g : ¬ v = 0) (k : (¬ w = 0 ∧ z = x) ∨ (¬ u = 0 ∧ z = y)) : False := by
  apply g; rw [h]
  rcases k with ⟨k1, rfl⟩ | ⟨k1, rfl⟩ <;> unfold own_az <;> simp [k1]
theorem own_sr0 {a r x : Int32} {R : List Int32} (h : a = (0 : Int32)) : R = own_sr a r x R := by simp [own_sr, h]
theorem own_su0 {a r x : Int32} {R : List Int32} (h : a = (0 : Int32)) : R = own_su a r x R := by simp [own_su, h]
theorem own_sr1 {a r x : Int32} {R : List Int32} (h : ¬ a = (0 : Int32)) (g : ¬ r = (0 : Int32)) : own_ins x R = own_sr a r x R := by simp [own_sr, h, g]
theorem own_su1 {a r x : Int32} {R : List Int32} (h : ¬ a = (0 : Int32)) (g : ¬ r = (0 : Int32)) : R = own_su a r x R := by simp [own_su, h, g]
theorem own_sr2 {a r x : Int32} {R : List Int32} (h : ¬ a = (0 : Int32)) (g : r = (0 : Int32)) : R = own_sr a r x R := by simp [own_sr, h, g]
theorem own_su2 {a r x : Int32} {R : List Int32} (h : ¬ a = (0 : Int32)) (g : r = (0 : Int32)) : own_ins x R = own_su a r x R := by simp [own_su, h, g]
theorem own_insl {x : Int32} {R : List Int32} (h : R.length ≤ 2) : (own_ins x R).length = R.length + 1 := by
  rcases own_sh2 h with rfl | ⟨a, rfl⟩ | ⟨a, b, rfl⟩
  · rfl
  · by_cases g : a < x <;> simp [own_ins, g]
  · by_cases g : a < x <;> by_cases f : b < x <;> simp [own_ins, g, f]
theorem own_insm {v x : Int32} {R : List Int32} (h : R.length ≤ 2) (g : v ∈ own_ins x R) : v ∈ R ∨ v = x := by
  rcases own_sh2 h with rfl | ⟨a, rfl⟩ | ⟨a, b, rfl⟩
  · exact Or.inr (by simpa [own_ins] using g)
  · by_cases f : a < x <;> simp [own_ins, f] at g ⊢ <;> rcases g with g | g <;> simp [g]
  · by_cases f : b < x <;> by_cases k : a < x <;> simp [own_ins, f, k] at g ⊢ <;> rcases g with g | g | g <;> simp [g]
theorem own_inss {x : Int32} {R : List Int32} (h : R.length ≤ 2) (hs : own_so R) (n : x ∉ R) : own_so (own_ins x R) := by
  rcases own_sh2 h with rfl | ⟨a, rfl⟩ | ⟨a, b, rfl⟩
  · trivial
  · rcases own_q1 n with f | f
    · simp [own_ins, own_asym f]; exact f
    · simp [own_ins, f]; exact f
  · have hb : a < b := hs
    rcases own_q2 hs n with ⟨f, k⟩ | ⟨f, k⟩ | ⟨f, k⟩
    · simp [own_ins, own_asym f, own_asym k]; exact ⟨f, hb⟩
    · simp [own_ins, f, own_asym k]; exact ⟨f, k⟩
    · simp [own_ins, k]; exact ⟨hb, k⟩
theorem own_invS {n : Nat} {a r x : Int32} {R U R' U' : List Int32} (h : own_inv n R U) (k : n ≤ 2) (hn : ¬ a = (0 : Int32) → x ∉ R ∧ x ∉ U) (e1 : R' = own_sr a r x R) (e2 : U' = own_su a r x U) : own_inv (n + 1) R' U' := by
  obtain ⟨h1, h2, h3⟩ := h
  by_cases f : a = 0
  · rw [e1, e2, ← own_sr0 f, ← own_su0 f]; exact ⟨by omega, h2, h3⟩
  · by_cases g : r = 0
    · rw [e1, e2, ← own_sr2 f g, ← own_su2 f g]; exact ⟨by rw [own_insl (by omega)]; omega, h2, own_inss (by omega) h3 (hn f).2⟩
    · rw [e1, e2, ← own_sr1 f g, ← own_su1 f g]; exact ⟨by rw [own_insl (by omega)]; omega, own_inss (by omega) h2 (hn f).1, h3⟩
theorem own_mR {a r x v : Int32} {R R' : List Int32} (e : R' = own_sr a r x R) (h : R.length ≤ 2) (g : v ∈ R') : v ∈ R ∨ (¬ a = 0 ∧ v = x) := by
  by_cases f : a = 0
  · rw [e, ← own_sr0 f] at g; exact Or.inl g
  · by_cases k : r = 0
    · rw [e, ← own_sr2 f k] at g; exact Or.inl g
    · rw [e, ← own_sr1 f k] at g; exact (own_insm h g).imp id fun z => ⟨f, z⟩
theorem own_mU {a r x v : Int32} {R R' : List Int32} (e : R' = own_su a r x R) (h : R.length ≤ 2) (g : v ∈ R') : v ∈ R ∨ (¬ a = 0 ∧ v = x) := by
  by_cases f : a = 0
  · rw [e, ← own_su0 f] at g; exact Or.inl g
  · by_cases k : r = 0
    · rw [e, ← own_su2 f k] at g; exact (own_insm h g).imp id fun z => ⟨f, z⟩
    · rw [e, ← own_su1 f k] at g; exact Or.inl g
theorem own_pe0_0 (q : Int32) : own_p [] q = (256 : Int64) := by simp [own_p]
theorem own_pN0_0 (q : Int32) : own_pl [] q (256 : Int64) := by
  refine Or.inr ⟨?_, ?_⟩
  · simp only [List.mem_cons, List.not_mem_nil, or_false, ← Int32.toInt_inj, not_false_eq_true]
  · rfl
theorem own_in0_0 (q : Int32) : own_ins q [] = [q] := by simp [own_ins]
theorem own_pe1_0 {a q : Int32} (h0 : q < a) : own_p [a] q = (256 : Int64) := by simp [own_p, own_asym h0]
theorem own_pN1_0 {a q : Int32} (h0 : q < a) : own_pl [a] q (256 : Int64) := by
  simp only [Int32.lt_iff_toInt_lt] at h0
  refine Or.inr ⟨?_, ?_⟩
  · simp only [List.mem_cons, List.not_mem_nil, or_false, ← Int32.toInt_inj]; omega
  · simp only [own_p, Int32.lt_iff_toInt_lt]
    (repeat' split) <;> first | rfl | (exfalso; omega)
theorem own_in1_0 {a q : Int32} (h0 : q < a) : own_ins q [a] = [q, a] := by simp [own_ins, own_asym h0]
theorem own_pe1_1 {a q : Int32} (h0 : a < q) : own_p [a] q = (257 : Int64) := by simp [own_p, h0]
theorem own_pN1_1 {a q : Int32} (h0 : a < q) : own_pl [a] q (257 : Int64) := by
  simp only [Int32.lt_iff_toInt_lt] at h0
  refine Or.inr ⟨?_, ?_⟩
  · simp only [List.mem_cons, List.not_mem_nil, or_false, ← Int32.toInt_inj]; omega
  · simp only [own_p, Int32.lt_iff_toInt_lt]
    (repeat' split) <;> first | rfl | (exfalso; omega)
theorem own_in1_1 {a q : Int32} (h : a < q) : own_ins q [a] = [a, q] := by simp [own_ins, h]
theorem own_pF1_0 {a q : Int32} (h : q = a) : own_pl [a] q (0 : Int64) := Or.inl ⟨by simp [h], by decide⟩
theorem own_pe2_0 {a b q : Int32} (h0 : q < a) (h1 : q < b) : own_p [a, b] q = (256 : Int64) := by simp [own_p, own_asym h0, own_asym h1]
theorem own_pN2_0 {a b q : Int32} (hs : own_so [a, b]) (h0 : q < a) : own_pl [a, b] q (256 : Int64) := by
  have hs : a < b := hs
  simp only [Int32.lt_iff_toInt_lt] at hs h0
  refine Or.inr ⟨?_, ?_⟩
  · simp only [List.mem_cons, List.not_mem_nil, or_false, ← Int32.toInt_inj]; omega
  · simp only [own_p, Int32.lt_iff_toInt_lt]
    (repeat' split) <;> first | rfl | (exfalso; omega)
theorem own_in2_0 {a b q : Int32} (h0 : q < a) (h1 : q < b) : own_ins q [a, b] = [q, a, b] := by simp [own_ins, own_asym h0, own_asym h1]
theorem own_pe2_1 {a b q : Int32} (h0 : a < q) (h1 : q < b) : own_p [a, b] q = (257 : Int64) := by simp [own_p, h0, own_asym h1]
theorem own_pN2_1 {a b q : Int32} (hs : own_so [a, b]) (h0 : a < q) (h1 : q < b) : own_pl [a, b] q (257 : Int64) := by
  have hs : a < b := hs
  simp only [Int32.lt_iff_toInt_lt] at hs h0 h1
  refine Or.inr ⟨?_, ?_⟩
  · simp only [List.mem_cons, List.not_mem_nil, or_false, ← Int32.toInt_inj]; omega
  · simp only [own_p, Int32.lt_iff_toInt_lt]
    (repeat' split) <;> first | rfl | (exfalso; omega)
theorem own_in2_1 {a b q : Int32} (h0 : a < q) (h1 : q < b) : own_ins q [a, b] = [a, q, b] := by simp [own_ins, h0, own_asym h1]
theorem own_pe2_2 {a b q : Int32} (h0 : a < q) (h1 : b < q) : own_p [a, b] q = (258 : Int64) := by simp [own_p, h0, h1]
theorem own_pN2_2 {a b q : Int32} (hs : own_so [a, b]) (h1 : b < q) : own_pl [a, b] q (258 : Int64) := by
  have hs : a < b := hs
  simp only [Int32.lt_iff_toInt_lt] at hs h1
  refine Or.inr ⟨?_, ?_⟩
  · simp only [List.mem_cons, List.not_mem_nil, or_false, ← Int32.toInt_inj]; omega
  · simp only [own_p, Int32.lt_iff_toInt_lt]
    (repeat' split) <;> first | rfl | (exfalso; omega)
theorem own_in2_2 {a b q : Int32} (h : b < q) : own_ins q [a, b] = [a, b, q] := by simp [own_ins, h]
theorem own_pF2_0 {a b q : Int32} (h : q = a) : own_pl [a, b] q (0 : Int64) := Or.inl ⟨by simp [h], by decide⟩
theorem own_pF2_1 {a b q : Int32} (h : q = b) : own_pl [a, b] q (1 : Int64) := Or.inl ⟨by simp [h], by decide⟩
theorem own_pe3_0 {a b d q : Int32} (h0 : q < a) (h1 : q < b) (h2 : q < d) : own_p [a, b, d] q = (256 : Int64) := by simp [own_p, own_asym h0, own_asym h1, own_asym h2]
theorem own_pN3_0 {a b d q : Int32} (hs : own_so [a, b, d]) (h0 : q < a) : own_pl [a, b, d] q (256 : Int64) := by
  have hs : a < b ∧ b < d := hs
  simp only [Int32.lt_iff_toInt_lt] at hs h0
  refine Or.inr ⟨?_, ?_⟩
  · simp only [List.mem_cons, List.not_mem_nil, or_false, ← Int32.toInt_inj]; omega
  · simp only [own_p, Int32.lt_iff_toInt_lt]
    (repeat' split) <;> first | rfl | (exfalso; omega)
theorem own_pe3_1 {a b d q : Int32} (h0 : a < q) (h1 : q < b) (h2 : q < d) : own_p [a, b, d] q = (257 : Int64) := by simp [own_p, h0, own_asym h1, own_asym h2]
theorem own_pN3_1 {a b d q : Int32} (hs : own_so [a, b, d]) (h0 : a < q) (h1 : q < b) : own_pl [a, b, d] q (257 : Int64) := by
  have hs : a < b ∧ b < d := hs
  simp only [Int32.lt_iff_toInt_lt] at hs h0 h1
  refine Or.inr ⟨?_, ?_⟩
  · simp only [List.mem_cons, List.not_mem_nil, or_false, ← Int32.toInt_inj]; omega
  · simp only [own_p, Int32.lt_iff_toInt_lt]
    (repeat' split) <;> first | rfl | (exfalso; omega)
theorem own_pe3_2 {a b d q : Int32} (h0 : a < q) (h1 : b < q) (h2 : q < d) : own_p [a, b, d] q = (258 : Int64) := by simp [own_p, h0, h1, own_asym h2]
theorem own_pN3_2 {a b d q : Int32} (hs : own_so [a, b, d]) (h1 : b < q) (h2 : q < d) : own_pl [a, b, d] q (258 : Int64) := by
  have hs : a < b ∧ b < d := hs
  simp only [Int32.lt_iff_toInt_lt] at hs h1 h2
  refine Or.inr ⟨?_, ?_⟩
  · simp only [List.mem_cons, List.not_mem_nil, or_false, ← Int32.toInt_inj]; omega
  · simp only [own_p, Int32.lt_iff_toInt_lt]
    (repeat' split) <;> first | rfl | (exfalso; omega)
theorem own_pe3_3 {a b d q : Int32} (h0 : a < q) (h1 : b < q) (h2 : d < q) : own_p [a, b, d] q = (259 : Int64) := by simp [own_p, h0, h1, h2]
theorem own_pN3_3 {a b d q : Int32} (hs : own_so [a, b, d]) (h2 : d < q) : own_pl [a, b, d] q (259 : Int64) := by
  have hs : a < b ∧ b < d := hs
  simp only [Int32.lt_iff_toInt_lt] at hs h2
  refine Or.inr ⟨?_, ?_⟩
  · simp only [List.mem_cons, List.not_mem_nil, or_false, ← Int32.toInt_inj]; omega
  · simp only [own_p, Int32.lt_iff_toInt_lt]
    (repeat' split) <;> first | rfl | (exfalso; omega)
theorem own_pF3_0 {a b d q : Int32} (h : q = a) : own_pl [a, b, d] q (0 : Int64) := Or.inl ⟨by simp [h], by decide⟩
theorem own_pF3_1 {a b d q : Int32} (h : q = b) : own_pl [a, b, d] q (1 : Int64) := Or.inl ⟨by simp [h], by decide⟩
theorem own_pF3_2 {a b d q : Int32} (h : q = d) : own_pl [a, b, d] q (2 : Int64) := Or.inl ⟨by simp [h], by decide⟩
theorem own_fast0 {xs : List Int32} (q : Int32) (h : own_n xs = (0 : Int32)) : own_pl xs q ((0 : Int64) ||| (((256 : Int32) + (own_n xs)).toInt64)) := by
  rw [h, own_nil h]; exact own_pN0_0 q
theorem own_fast1 {xs : List Int32} {q : Int32} (hl : xs.length ≤ 3) (hs : own_so xs) (h0 : ¬ own_n xs = (0 : Int32)) (h : own_la xs < q) : own_pl xs q ((0 : Int64) ||| (((256 : Int32) + (own_n xs)).toInt64)) := by
  rcases own_sh3 hl with rfl | ⟨a, rfl⟩ | ⟨a, b, rfl⟩ | ⟨a, b, d, rfl⟩
  · exact absurd rfl h0
  · exact (show own_pl [a] q ((0 : Int64) ||| (((256 : Int32) + 1).toInt64)) from own_pN1_1 (show a < q from h))
  · exact (show own_pl [a, b] q ((0 : Int64) ||| (((256 : Int32) + 2).toInt64)) from own_pN2_2 hs h)
  · exact (show own_pl [a, b, d] q ((0 : Int64) ||| (((256 : Int32) + 3).toInt64)) from own_pN3_3 hs h)
theorem own_bsN {xs : List Int32} {q r : Int32} (hl : xs.length ≤ 3) (hs : own_so xs) (h0 : ¬ own_n xs = (0 : Int32)) (hb : own_brg xs q r) (h : r < (0 : Int32)) : own_pl xs q ((0 : Int64) ||| (((256 : Int32) + ((-r) - (1 : Int32))).toInt64)) := by
  rcases own_sh3 hl with rfl | ⟨a, rfl⟩ | ⟨a, b, rfl⟩ | ⟨a, b, d, rfl⟩
  · exact absurd rfl h0
  · rcases hb with ⟨rfl, g⟩ | ⟨rfl, g⟩ | ⟨rfl, g⟩
    · exact absurd h (by decide)
    · exact own_pN1_0 g
    · exact own_pN1_1 g
  · rcases hb with ⟨rfl, g⟩ | ⟨rfl, g⟩ | ⟨rfl, g⟩ | ⟨rfl, f, g⟩ | ⟨rfl, g⟩
    · exact absurd h (by decide)
    · exact absurd h (by decide)
    · exact own_pN2_0 hs g
    · exact own_pN2_1 hs f g
    · exact own_pN2_2 hs g
  · rcases hb with ⟨rfl, g⟩ | ⟨rfl, g⟩ | ⟨rfl, g⟩ | ⟨rfl, g⟩ | ⟨rfl, f, g⟩ | ⟨rfl, f, g⟩ | ⟨rfl, g⟩
    · exact absurd h (by decide)
    · exact absurd h (by decide)
    · exact absurd h (by decide)
    · exact own_pN3_0 hs g
    · exact own_pN3_1 hs f g
    · exact own_pN3_2 hs f g
    · exact own_pN3_3 hs g
theorem own_bsF {xs : List Int32} {q r : Int32} (hl : xs.length ≤ 3) (hs : own_so xs) (h0 : ¬ own_n xs = (0 : Int32)) (hb : own_brg xs q r) (h : ¬ r < (0 : Int32)) : own_pl xs q ((0 : Int64) ||| (r.toInt64)) := by
  rcases own_sh3 hl with rfl | ⟨a, rfl⟩ | ⟨a, b, rfl⟩ | ⟨a, b, d, rfl⟩
  · exact absurd rfl h0
  · rcases hb with ⟨rfl, g⟩ | ⟨rfl, g⟩ | ⟨rfl, g⟩
    · exact own_pF1_0 g
    · exact absurd (by decide) h
    · exact absurd (by decide) h
  · rcases hb with ⟨rfl, g⟩ | ⟨rfl, g⟩ | ⟨rfl, g⟩ | ⟨rfl, f, g⟩ | ⟨rfl, g⟩
    · exact own_pF2_0 g
    · exact own_pF2_1 g
    · exact absurd (by decide) h
    · exact absurd (by decide) h
    · exact absurd (by decide) h
  · rcases hb with ⟨rfl, g⟩ | ⟨rfl, g⟩ | ⟨rfl, g⟩ | ⟨rfl, g⟩ | ⟨rfl, f, g⟩ | ⟨rfl, f, g⟩ | ⟨rfl, g⟩
    · exact own_pF3_0 g
    · exact own_pF3_1 g
    · exact own_pF3_2 g
    · exact absurd (by decide) h
    · exact absurd (by decide) h
    · exact absurd (by decide) h
    · exact absurd (by decide) h
theorem own_mxl (x : Int32) : ¬ x.toInt64 = (9223372036854775807 : Int64) ∧ ¬ (9223372036854775807 : Int64) < x.toInt64 := by
  have h := Int32.toInt_lt x
  have g := Int32.toInt_toInt64 x
  have z : (9223372036854775807 : Int64).toInt = 9223372036854775807 := rfl
  rw [← Int64.toInt_inj, Int64.lt_iff_toInt_lt, g, z]; omega
theorem own_lL {x y : Int32} : x.toInt64 < y.toInt64 ↔ x < y := by
  rw [Int64.lt_iff_toInt_lt, Int32.lt_iff_toInt_lt, Int32.toInt_toInt64, Int32.toInt_toInt64]
theorem own_tr {x y z : Int32} (h : x < y) (g : y < z) : x < z := by
  rw [Int32.lt_iff_toInt_lt] at *; omega
theorem own_mnM (x : Int32) : own_mn (9223372036854775807 : Int64) x.toInt64 = x.toInt64 := by
  unfold own_mn; by_cases h : x.toInt64 < (9223372036854775807 : Int64)
  · simp [h]
  · exact absurd (Int64.toInt_inj.mp (by have a := (own_mxl x).2; rw [Int64.lt_iff_toInt_lt] at a h; omega)) (own_mxl x).1
theorem own_btI {x o : Int32} {R : List Int32} (hl : R.length ≤ 2) (hs : own_so R) (hn : x ∉ R) : own_bt (own_ins x R) o = if o < x then own_mn (own_bt R o) x.toInt64 else own_bt R o := by
  rcases own_sh2 hl with rfl | ⟨a, rfl⟩ | ⟨a, b, rfl⟩
  · simp only [own_ins, own_bt, own_mnM]
  · rcases own_q1 hn with f | f
    · simp only [own_ins, own_asym f, if_false, own_bt]
      by_cases g : o < x
      · simp [g, own_tr g f, own_mn, own_lL, f]
      · simp [g]
    · simp only [own_ins, f, if_true, own_bt]
      by_cases g : o < a
      · simp [g, own_tr g f, own_mn, own_lL, own_asym f]
      · by_cases k : o < x <;> simp [g, k, own_mnM]
  · have hb : a < b := hs
    rcases own_q2 hs hn with ⟨f, k⟩ | ⟨f, k⟩ | ⟨f, k⟩
    · simp only [own_ins, own_asym f, own_asym k, if_false, own_bt]
      by_cases g : o < x
      · simp [g, own_tr g f, own_mn, own_lL, f]
      · simp [g]
    · simp only [own_ins, f, own_asym k, if_true, if_false, own_bt]
      by_cases g : o < a
      · simp [g, own_tr g f, own_mn, own_lL, own_asym f]
      · by_cases j : o < x
        · simp [g, j, own_tr j k, own_mn, own_lL, k]
        · simp [g, j]
    · simp only [own_ins, k, if_true, own_bt]
      by_cases g : o < a
      · simp [g, own_tr g f, own_mn, own_lL, own_asym f]
      · by_cases j : o < b
        · simp [g, j, own_tr j k, own_mn, own_lL, own_asym k]
        · by_cases i : o < x <;> simp [g, j, i, own_mnM]
theorem own_btS {a r x o : Int32} {R R' : List Int32} (hl : R.length ≤ 2) (hs : own_so R) (hn : ¬ a = (0 : Int32) → x ∉ R) (e : R' = own_sr a r x R) : own_bt R' o = own_af (own_pr a r) x o (own_bt R o) := by
  by_cases f : a = 0
  · rw [e, ← own_sr0 f]; simp [own_af, own_pr, f]
  · by_cases g : r = 0
    · rw [e, ← own_sr2 f g]; simp [own_af, own_pr, f, g]
    · rw [e, ← own_sr1 f g, own_btI hl hs (hn f)]; simp [own_af, own_pr, f, g]
theorem own_fx {x r : Int32} : own_g x r = own_ex x.toInt64 r := by
  have h := (own_mxl x).1
  simp [own_g, own_ex, h, own_lL]
theorem own_frx {o : Int32} {R : List Int32} (hl : R.length ≤ 3) (hs : own_so R) (ho : o ∉ R) (r : Int32) : own_fr R o r = own_ex (own_bt R o) r := by
  have nx : own_ex (9223372036854775807 : Int64) r = -1 := by simp [own_ex]
  rcases own_sh3 hl with rfl | ⟨a, rfl⟩ | ⟨a, b, rfl⟩ | ⟨a, b, d, rfl⟩
  · simp [own_fr, own_c, own_n, own_bt, nx]
  · rcases own_q1 ho with f | f
    · simp [own_fr, own_c, own_n, own_x, own_bt, f, own_asym f, own_fx]
    · simp [own_fr, own_c, own_n, own_bt, f, own_asym f, nx]
  · rcases own_q2 hs ho with ⟨f, k⟩ | ⟨f, k⟩ | ⟨f, k⟩
    · simp [own_fr, own_c, own_n, own_x, own_bt, f, k, own_asym f, own_asym k, own_fx]
    · simp [own_fr, own_c, own_n, own_x, own_bt, f, k, own_asym f, own_asym k, own_fx]
    · simp [own_fr, own_c, own_n, own_bt, f, k, own_asym f, own_asym k, nx]
  · have hs : a < b ∧ b < d := hs
    have q : (o < a ∧ o < b ∧ o < d) ∨ (a < o ∧ o < b ∧ o < d) ∨ (a < o ∧ b < o ∧ o < d) ∨ (a < o ∧ b < o ∧ d < o) := by
      simp only [List.mem_cons, List.not_mem_nil, or_false, ← Int32.toInt_inj] at ho
      simp only [Int32.lt_iff_toInt_lt] at hs ⊢; omega
    rcases q with ⟨f, k, j⟩ | ⟨f, k, j⟩ | ⟨f, k, j⟩ | ⟨f, k, j⟩
    · simp [own_fr, own_c, own_n, own_x, own_bt, f, own_asym f, own_asym k, own_asym j, own_fx]
    · simp [own_fr, own_c, own_n, own_x, own_bt, f, k, own_asym f, own_asym k, own_asym j, own_fx]
    · simp [own_fr, own_c, own_n, own_x, own_bt, f, k, j, own_asym f, own_asym k, own_asym j, own_fx]
    · simp [own_fr, own_c, own_n, own_bt, j, own_asym f, own_asym k, own_asym j, nx]
theorem own_law {ax ay az rx ry rz p1 p2 p3 p4 : Int32} {r1 u1 r2 u2 r3 u3 : List Int32} {b : Int64} (h0 : own_inv 0 [] []) (h1 : own_inv 1 r1 u1) (h2 : own_inv 2 r2 u2) (h3 : own_inv 3 r3 u3) (n1 : ¬ ax = (0 : Int32) → p1 ∉ ([] : List Int32) ∧ p1 ∉ ([] : List Int32)) (n2 : ¬ ay = (0 : Int32) → p2 ∉ r1 ∧ p2 ∉ u1) (n3 : ¬ az = (0 : Int32) → p3 ∉ r2 ∧ p3 ∉ u2) (e1 : r1 = own_sr ax rx p1 []) (e2 : r2 = own_sr ay ry p2 r1) (e3 : r3 = own_sr az rz p3 r2) (ho : p4 ∉ r3)
    (hb : b = own_af (own_pr az rz) p3 p4 (own_af (own_pr ay ry) p2 p4 (own_af (own_pr ax rx) p1 p4 (9223372036854775807 : Int64)))) (p5 : Int32) : own_fr r3 p4 p5 = own_ex b p5 := by
  rw [own_frx (own_lR3 h3) h3.2.1 ho p5, hb, own_btS (own_lR2 h2) h2.2.1 (fun z => (n3 z).1) e3, own_btS (own_lR2 h1) h1.2.1 (fun z => (n2 z).1) e2, own_btS (own_lR2 h0) h0.2.1 (fun z => (n1 z).1) e1]
  rfl
theorem own_gF {p : Program} {l : Launch} {e : Env} {R : Room} {s : State} {m : MethodId} {args : Array Value} {below : List Frame} {meth : Method} {c : Code} {T : State} {locs : List Loc} {cells slots : Nat} {Z : State} {a0 : Array Value} {h : Heap} {g : JFrame} {T0 : State} {f0 : JFrame} (Rk : ∀ t, own_S p e below T g t → own_S p e below T0 f0 t) (X : Stand p l e R s m args below meth c T locs cells slots) (hx : p.tables.exec = Jvm.exec) (hZ : Z.Warmed39 s.vm) {own R0 O n d host : String} {index : Nat} (hown : s.vm.findClass own = some m.cls) (w : (Cond.fieldLink own index R0 n d).before a0 Z = true ∨ (Cond.fieldLinkNest own index R0 n d host).before a0 Z = true) (via : Via Z R0 O n d)
    (eT : T.heap = h) {a : Addr} {v : Value} (F : Fld Z h a O n d v) (hg : g.method = m) {rest : List Value} (hs : g.stack = .ref a :: rest) (hd : decode c.code g.pc = .ok (.getfield index, 3)) : ∃ T', Stand p l e R s m args below meth c T' locs cells slots ∧ T'.heap = h ∧ ∀ t, own_S p e below T' { g with pc := g.pc + 3, stack := v :: rest } t → own_S p e below T0 f0 t := by
  obtain ⟨T', X', e', st⟩ := getF X hx hZ hown w via eT F hg hs hd
  exact ⟨T', X', e', fun t k => Rk t (st t k)⟩
abbrev own_R (p : Program) (e : Env) (below : List Frame) (T : State) (f : JFrame) (T0 : State) (f0 : JFrame) : Prop := ∀ t, own_S p e below T f t → own_S p e below T0 f0 t
abbrev fA0 (ax : Int32) (ay : Int32) (az : Int32) (b22 : Addr) (fl : Int32) (iv_ : Addr) (p0 : Int32) (p1 : Int32) (p2 : Int32) (p3 : Int32) (p4 : Int32) (p5 : Int32) (rx : Int32) (ry : Int32) (rz : Int32) : Array Slot := #[iv p0, iv p1, iv p2, iv p3, iv p4, iv p5, iv fl, iv rx, iv ry, iv rz, iv ax, iv ay, iv az, rv b22, rv iv_, .unset, .unset, .unset, .unset, .unset]
abbrev fA1 (iv_ : Addr) (kkR : Addr) (oR : Addr) (p3 : Int32) : Array Slot := #[rv oR, own_l (256 : Int64), .second, iv p3, iv (p3 + (1 : Int32)), rv iv_, iv 0, iv 0, rv kkR, iv 0]
abbrev fA2 (iv_ : Addr) (kkR : Addr) (oR : Addr) (p3 : Int32) : Array Slot := #[rv oR, own_l (256 : Int64), .second, iv p3, iv (p3 + (1 : Int32)), rv iv_, iv 0, iv 0, rv kkR, iv 1]
abbrev fA3 (iv_ : Addr) (kkR : Addr) (oR : Addr) (p3 : Int32) : Array Slot := #[rv oR, own_l (257 : Int64), .second, iv p3, iv (p3 + (1 : Int32)), rv iv_, iv 0, iv 1, rv kkR, iv 0]
abbrev fA4 (iv_ : Addr) (kkR : Addr) (oR : Addr) (p3 : Int32) : Array Slot := #[rv oR, own_l (256 : Int64), .second, iv p3, iv (p3 + (1 : Int32)), rv iv_, iv 0, iv 0, rv kkR, iv 2]
abbrev fA5 (iv_ : Addr) (kkR : Addr) (oR : Addr) (p3 : Int32) : Array Slot := #[rv oR, own_l (257 : Int64), .second, iv p3, iv (p3 + (1 : Int32)), rv iv_, iv 0, iv 1, rv kkR, iv 1]
abbrev fA6 (a1 : Addr) (iv_ : Addr) (p2 : Int32) (rs : List Int32) : Array Slot := #[rv a1, own_l (own_p rs p2), .second, iv p2, iv (p2 + (1 : Int32)), rv iv_]
abbrev fA7 (iv_ : Addr) (kkR : Addr) (oR : Addr) (p2 : Int32) : Array Slot := #[rv oR, iv p2, iv (p2 + (1 : Int32)), rv iv_, rv kkR, iv 1]
abbrev fA8 (iv_ : Addr) (kkR : Addr) (oR : Addr) (p2 : Int32) : Array Slot := #[rv oR, iv p2, iv (p2 + (1 : Int32)), rv iv_, rv kkR, iv 2]
abbrev fA9 (iv_ : Addr) (oR : Addr) (p2 : Int32) : Array Slot := #[rv oR, iv p2, iv (p2 + (1 : Int32)), rv iv_, .unset, .unset]
abbrev fA10 (iv_ : Addr) (oR : Addr) (p3 : Int32) : Array Slot := #[rv oR, own_l (256 : Int64), .second, iv p3, iv (p3 + (1 : Int32)), rv iv_, .unset, .unset, .unset, .unset]
abbrev fA11 (iv_ : Addr) (oR : Addr) (p3 : Int32) : Array Slot := #[rv oR, own_l (256 : Int64), .second, iv p3, iv (p3 + (1 : Int32)), rv iv_, iv 0, iv 0, .unset, .unset]
abbrev fA12 (iv_ : Addr) (kkR : Addr) (oR : Addr) (p2 : Int32) : Array Slot := #[rv oR, iv p2, iv (p2 + (1 : Int32)), rv iv_, rv kkR, iv 0]
abbrev fA13 (kkR : Addr) (oR : Addr) (p2 : Int32) : Array Slot := #[rv oR, iv p2, rv kkR, .unset, .unset, .unset]
abbrev fA14 (kkR : Addr) (oR : Addr) (p3 : Int32) (xs : List Int32) : Array Slot := #[rv oR, own_l (own_p xs p3), .second, iv p3, iv 0, iv (own_c xs p3), rv kkR, iv 1, .unset]
abbrev fA15 (ax : Int32) (ay : Int32) (az : Int32) (b22 : Addr) (fl : Int32) (iv_ : Addr) (p0 : Int32) (p1 : Int32) (p2 : Int32) (p3 : Int32) (p4 : Int32) (p5 : Int32) (rs3 : List Int32) (rx : Int32) (ry : Int32) (rz : Int32) : Array Slot := #[iv p0, iv p1, iv p2, iv p3, iv p4, iv p5, iv fl, iv rx, iv ry, iv rz, iv ax, iv ay, iv az, rv b22, rv iv_, own_l (own_p rs3 p4), .second, own_l (own_af (own_pr ay ry) p2 p4 (own_af (own_pr ax rx) p1 p4 (9223372036854775807 : Int64))), .second, .unset]
abbrev fA16 (ax : Int32) (ay : Int32) (az : Int32) (b22 : Addr) (fl : Int32) (iv_ : Addr) (p0 : Int32) (p1 : Int32) (p2 : Int32) (p3 : Int32) (p4 : Int32) (p5 : Int32) (rs3 : List Int32) (rx : Int32) (ry : Int32) (rz : Int32) : Array Slot := #[iv p0, iv p1, iv p2, iv p3, iv p4, iv p5, iv fl, iv rx, iv ry, iv rz, iv ax, iv ay, iv az, rv b22, rv iv_, own_l (own_p rs3 p4), .second, own_l (own_af (own_pr ax rx) p1 p4 (9223372036854775807 : Int64)), .second, .unset]
abbrev fA17 (iv_ : Addr) (oR : Addr) (p3 : Int32) : Array Slot := #[rv oR, own_l (257 : Int64), .second, iv p3, iv (p3 + (1 : Int32)), rv iv_, .unset, .unset, .unset, .unset]
abbrev fA18 (kkR : Addr) (oR : Addr) (p3 : Int32) (xs : List Int32) : Array Slot := #[rv oR, own_l (own_p xs p3), .second, iv p3, iv 0, iv (own_c xs p3), rv kkR, iv 1, iv 1]
abbrev fA19 (iv_ : Addr) (oR : Addr) (p3 : Int32) : Array Slot := #[rv oR, own_l (257 : Int64), .second, iv p3, iv (p3 + (1 : Int32)), rv iv_, iv 0, iv 1, .unset, .unset]
abbrev fA20 (ax : Int32) (ay : Int32) (az : Int32) (b22 : Addr) (fl : Int32) (iv_ : Addr) (p0 : Int32) (p1 : Int32) (p2 : Int32) (p3 : Int32) (p4 : Int32) (p5 : Int32) (rs3 : List Int32) (rx : Int32) (ry : Int32) (rz : Int32) : Array Slot := #[iv p0, iv p1, iv p2, iv p3, iv p4, iv p5, iv fl, iv rx, iv ry, iv rz, iv ax, iv ay, iv az, rv b22, rv iv_, own_l (own_p rs3 p4), .second, own_l (9223372036854775807 : Int64), .second, .unset]
abbrev fA21 (iv_ : Addr) (oR : Addr) (p3 : Int32) : Array Slot := #[rv oR, own_l (256 : Int64), .second, iv p3, iv (p3 + (1 : Int32)), rv iv_, iv 0, .unset, .unset, .unset]
abbrev fA22 (iv_ : Addr) (kkR : Addr) (oR : Addr) (p3 : Int32) : Array Slot := #[rv oR, own_l (256 : Int64), .second, iv p3, iv (p3 + (1 : Int32)), rv iv_, iv 0, iv 0, rv kkR, .unset]
abbrev fA23 (oR : Addr) (p3 : Int32) (xs : List Int32) : Array Slot := #[rv oR, own_l (own_p xs p3), .second, iv p3, iv 0, iv (own_c xs p3), .unset, .unset, .unset]
abbrev fA24 (ax : Int32) (ay : Int32) (az : Int32) (b22 : Addr) (fl : Int32) (iv_ : Addr) (p0 : Int32) (p1 : Int32) (p2 : Int32) (p3 : Int32) (p4 : Int32) (p5 : Int32) (pv_73 : Int64) (rx : Int32) (ry : Int32) (rz : Int32) : Array Slot := #[iv p0, iv p1, iv p2, iv p3, iv p4, iv p5, iv fl, iv rx, iv ry, iv rz, iv ax, iv ay, iv az, rv b22, rv iv_, own_l pv_73, .second, .unset, .unset, .unset]
abbrev fA25 (ax : Int32) (ay : Int32) (az : Int32) (b22 : Addr) (bst : Int64) (fl : Int32) (iv_ : Addr) (p0 : Int32) (p1 : Int32) (p2 : Int32) (p3 : Int32) (p4 : Int32) (p5 : Int32) (rs3 : List Int32) (rx : Int32) (ry : Int32) (rz : Int32) : Array Slot := #[iv p0, iv p1, iv p2, iv p3, iv p4, iv p5, iv fl, iv rx, iv ry, iv rz, iv ax, iv ay, iv az, rv b22, rv iv_, own_l (own_p rs3 p4), .second, own_l bst, .second, iv (own_ex bst p5)]
abbrev fA26 (fl : Int32) (p0 : Int32) (p1 : Int32) (p2 : Int32) (p3 : Int32) (p4 : Int32) (p5 : Int32) (rx : Int32) (ry : Int32) (rz : Int32) : Array Slot := #[iv p0, iv p1, iv p2, iv p3, iv p4, iv p5, iv fl, iv rx, iv ry, iv rz, .unset, .unset, .unset, .unset, .unset, .unset, .unset, .unset, .unset, .unset]
abbrev fA27 (ax : Int32) (fl : Int32) (p0 : Int32) (p1 : Int32) (p2 : Int32) (p3 : Int32) (p4 : Int32) (p5 : Int32) (rx : Int32) (ry : Int32) (rz : Int32) : Array Slot := #[iv p0, iv p1, iv p2, iv p3, iv p4, iv p5, iv fl, iv rx, iv ry, iv rz, iv ax, .unset, .unset, .unset, .unset, .unset, .unset, .unset, .unset, .unset]
abbrev fA28 (ax : Int32) (ay : Int32) (fl : Int32) (p0 : Int32) (p1 : Int32) (p2 : Int32) (p3 : Int32) (p4 : Int32) (p5 : Int32) (rx : Int32) (ry : Int32) (rz : Int32) : Array Slot := #[iv p0, iv p1, iv p2, iv p3, iv p4, iv p5, iv fl, iv rx, iv ry, iv rz, iv ax, iv ay, .unset, .unset, .unset, .unset, .unset, .unset, .unset, .unset]
abbrev fA29 (ax : Int32) (ay : Int32) (az : Int32) (fl : Int32) (p0 : Int32) (p1 : Int32) (p2 : Int32) (p3 : Int32) (p4 : Int32) (p5 : Int32) (rx : Int32) (ry : Int32) (rz : Int32) : Array Slot := #[iv p0, iv p1, iv p2, iv p3, iv p4, iv p5, iv fl, iv rx, iv ry, iv rz, iv ax, iv ay, iv az, .unset, .unset, .unset, .unset, .unset, .unset, .unset]
abbrev fA30 (iv_ : Addr) (oR : Addr) (p3 : Int32) : Array Slot := #[rv oR, own_l (257 : Int64), .second, iv p3, iv (p3 + (1 : Int32)), rv iv_, iv 0, .unset, .unset, .unset]
abbrev fA31 (iv_ : Addr) (kkR : Addr) (oR : Addr) (p3 : Int32) : Array Slot := #[rv oR, own_l (257 : Int64), .second, iv p3, iv (p3 + (1 : Int32)), rv iv_, iv 0, iv 1, rv kkR, .unset]
abbrev fA32 (iv_ : Addr) (kkR : Addr) (oR : Addr) (p2 : Int32) : Array Slot := #[rv oR, iv p2, iv (p2 + (1 : Int32)), rv iv_, rv kkR, .unset]
abbrev fA33 (p0 : Int32) (p1 : Int32) (p2 : Int32) (p3 : Int32) (p4 : Int32) (p5 : Int32) : Array Slot := #[iv p0, iv p1, iv p2, iv p3, iv p4, iv p5, .unset, .unset, .unset, .unset, .unset, .unset, .unset, .unset, .unset, .unset, .unset, .unset, .unset, .unset]
abbrev fA34 (fl : Int32) (p0 : Int32) (p1 : Int32) (p2 : Int32) (p3 : Int32) (p4 : Int32) (p5 : Int32) : Array Slot := #[iv p0, iv p1, iv p2, iv p3, iv p4, iv p5, iv fl, .unset, .unset, .unset, .unset, .unset, .unset, .unset, .unset, .unset, .unset, .unset, .unset, .unset]
abbrev fA35 (a1 : Addr) (p2 : Int32) (pr_5 : Int64) : Array Slot := #[rv a1, iv p2, own_l pr_5, .second]
abbrev fA36 (fl : Int32) (p0 : Int32) (p1 : Int32) (p2 : Int32) (p3 : Int32) (p4 : Int32) (p5 : Int32) (rx : Int32) : Array Slot := #[iv p0, iv p1, iv p2, iv p3, iv p4, iv p5, iv fl, iv rx, .unset, .unset, .unset, .unset, .unset, .unset, .unset, .unset, .unset, .unset, .unset, .unset]
abbrev fA37 (fl : Int32) (p0 : Int32) (p1 : Int32) (p2 : Int32) (p3 : Int32) (p4 : Int32) (p5 : Int32) (rx : Int32) (ry : Int32) : Array Slot := #[iv p0, iv p1, iv p2, iv p3, iv p4, iv p5, iv fl, iv rx, iv ry, .unset, .unset, .unset, .unset, .unset, .unset, .unset, .unset, .unset, .unset, .unset]
abbrev fA38 (kkR : Addr) (oR : Addr) (p3 : Int32) (xs : List Int32) : Array Slot := #[rv oR, own_l (own_p xs p3), .second, iv p3, iv 0, iv (own_c xs p3), rv kkR, .unset, .unset]
abbrev fA39 (a1 : Addr) (p4 : Int32) (x0 : Int32) : Array Slot := #[rv a1, iv 0, iv 1, iv p4, iv 0, iv (-1), iv 0, iv x0]
abbrev fA40 (a1 : Addr) (p4 : Int32) (x0 : Int32) : Array Slot := #[rv a1, iv 0, iv 1, iv p4, iv 0, iv 0, iv 0, iv x0]
abbrev fA41 (a1 : Addr) (p4 : Int32) (x0 : Int32) : Array Slot := #[rv a1, iv 0, iv 1, iv p4, iv 1, iv 0, iv 0, iv x0]
abbrev fA42 (p1 : Int32) (p2 : Int32) (p3 : Int32) (p4 : Int64) : Array Slot := #[iv p1, iv p2, iv p3, own_l p4, .second]
abbrev fA43 (a1 : Addr) (p4 : Int32) : Array Slot := #[rv a1, iv 0, iv 1, iv p4, iv 0, iv 0, .unset, .unset]
abbrev fA44 (a1 : Addr) (p4 : Int32) : Array Slot := #[rv a1, iv 0, iv 1, iv p4, iv 0, iv 0, iv 0, .unset]
abbrev fA45 (p1 : Int64) : Array Slot := #[own_l p1, .second, iv (p1.toInt32)]
abbrev fA46 (kkR : Addr) (oR : Addr) (p2 : Int32) (r_76 : Int32) : Array Slot := #[rv oR, iv p2, rv kkR, iv 0, rv kkR, iv r_76]
abbrev fA47 (oR : Addr) (p3 : Int32) (xs : List Int32) : Array Slot := #[rv oR, own_l (own_p xs p3), .second, iv p3, .unset, .unset, .unset, .unset, .unset]
abbrev fA48 (oR : Addr) (p2 : Int32) : Array Slot := #[rv oR, iv p2, .unset, .unset, .unset, .unset]
abbrev fA49 (kkR : Addr) (oR : Addr) (p2 : Int32) : Array Slot := #[rv oR, iv p2, rv kkR, iv 0, .unset, .unset]
abbrev fA50 (a1 : Addr) (p4 : Int32) (x0 : Int32) : Array Slot := #[rv a1, iv 0, iv 3, iv p4, iv 0, iv (-1), iv 0, iv x0]
abbrev fA51 (a1 : Addr) (p4 : Int32) (x0 : Int32) : Array Slot := #[rv a1, iv 0, iv 2, iv p4, iv 0, iv (-1), iv 0, iv x0]
abbrev fA52 (p1 : Int64) (p2 : Int64) : Array Slot := #[own_l p1, .second, own_l p2, .second]
abbrev fA53 (a1 : Addr) (p4 : Int32) (x1 : Int32) : Array Slot := #[rv a1, iv 0, iv 3, iv p4, iv 0, iv 2, iv 1, iv x1]
abbrev fA54 (a1 : Addr) (p4 : Int32) (x2 : Int32) : Array Slot := #[rv a1, iv 0, iv 3, iv p4, iv 2, iv 2, iv 2, iv x2]
abbrev fA55 (a1 : Addr) (p4 : Int32) (x2 : Int32) : Array Slot := #[rv a1, iv 0, iv 3, iv p4, iv 3, iv 2, iv 2, iv x2]
abbrev fA56 (a1 : Addr) (p4 : Int32) (x2 : Int32) : Array Slot := #[rv a1, iv 0, iv 3, iv p4, iv 2, iv 1, iv 2, iv x2]
abbrev fA57 (a1 : Addr) (p4 : Int32) (x0 : Int32) : Array Slot := #[rv a1, iv 0, iv 3, iv p4, iv 0, iv 0, iv 0, iv x0]
abbrev fA58 (a1 : Addr) (p4 : Int32) (x0 : Int32) : Array Slot := #[rv a1, iv 0, iv 3, iv p4, iv 1, iv 0, iv 0, iv x0]
abbrev fA59 (a1 : Addr) (p4 : Int32) (x0 : Int32) : Array Slot := #[rv a1, iv 0, iv 2, iv p4, iv 0, iv 1, iv 0, iv x0]
abbrev fA60 (a1 : Addr) (p4 : Int32) (x1 : Int32) : Array Slot := #[rv a1, iv 0, iv 2, iv p4, iv 1, iv 1, iv 1, iv x1]
abbrev fA61 (a1 : Addr) (p4 : Int32) (x1 : Int32) : Array Slot := #[rv a1, iv 0, iv 2, iv p4, iv 2, iv 1, iv 1, iv x1]
abbrev fA62 (a1 : Addr) (p4 : Int32) (x1 : Int32) : Array Slot := #[rv a1, iv 0, iv 2, iv p4, iv 1, iv 0, iv 1, iv x1]
abbrev fA63 (x0 : Addr) (x1 : Int32) (x2 : Int32) (x3 : Int32) : Array Slot := #[rv x0, iv x1, iv x2, iv x3, .unset, .unset, .unset, .unset]
abbrev fA64 (kkR : Addr) (oR : Addr) (p2 : Int32) (r_52 : Int32) : Array Slot := #[rv oR, iv p2, rv kkR, iv r_52, .unset, .unset]
abbrev fA65 (a1 : Addr) (p4 : Int32) : Array Slot := #[rv a1, iv 0, iv 1, iv p4, .unset, .unset, .unset, .unset]
abbrev fA66 (kkR : Addr) (oR : Addr) (p2 : Int32) : Array Slot := #[rv oR, iv p2, rv kkR, iv 0, rv kkR, .unset]
abbrev fA67 (a1 : Addr) (p4 : Int32) : Array Slot := #[rv a1, iv 0, iv 3, iv p4, iv 0, iv 2, .unset, .unset]
abbrev fA68 (a1 : Addr) (p4 : Int32) : Array Slot := #[rv a1, iv 0, iv 2, iv p4, iv 0, iv 1, .unset, .unset]
abbrev fA69 (a1 : Addr) (p4 : Int32) : Array Slot := #[rv a1, iv 0, iv 3, iv p4, iv 0, iv 2, iv 1, .unset]
abbrev fA70 (a1 : Addr) (p4 : Int32) : Array Slot := #[rv a1, iv 0, iv 2, iv p4, iv 0, iv 1, iv 0, .unset]
abbrev fA71 (a1 : Addr) (p4 : Int32) (x1 : Int32) : Array Slot := #[rv a1, iv 0, iv 3, iv p4, iv 2, iv 2, iv 1, iv x1]
abbrev fA72 (a1 : Addr) (p4 : Int32) (x1 : Int32) : Array Slot := #[rv a1, iv 0, iv 3, iv p4, iv 2, iv 2, iv 2, iv x1]
abbrev fA73 (a1 : Addr) (p4 : Int32) (x1 : Int32) : Array Slot := #[rv a1, iv 0, iv 3, iv p4, iv 0, iv 0, iv 1, iv x1]
abbrev fA74 (a1 : Addr) (p4 : Int32) (x1 : Int32) : Array Slot := #[rv a1, iv 0, iv 3, iv p4, iv 0, iv 0, iv 0, iv x1]
abbrev fA75 (a1 : Addr) (p4 : Int32) (x0 : Int32) : Array Slot := #[rv a1, iv 0, iv 2, iv p4, iv 1, iv 1, iv 0, iv x0]
abbrev fA76 (a1 : Addr) (p4 : Int32) (x0 : Int32) : Array Slot := #[rv a1, iv 0, iv 2, iv p4, iv 1, iv 1, iv 1, iv x0]
abbrev yN0 : MethodName := ⟨"com/example/theuth/theuth/io/Followed", "add", "(JIILjava/lang/Object;)V"⟩
abbrev yN1 : MethodName := ⟨"java/util/Arrays", "binarySearch0", "([IIII)I"⟩
abbrev yN2 : MethodName := ⟨"com/example/theuth/theuth/io/Followed", "find", "(I)J"⟩
abbrev yN3 : MethodName := ⟨"com/example/theuth/theuth/io/Followed$Offsets", "find", "(I)J"⟩
abbrev yN4 : MethodName := ⟨"com/example/theuth/theuth/io/Followed$Offsets", "isEmpty", "()Z"⟩
abbrev yN5 : MethodName := ⟨"com/example/theuth/theuth/io/Followed$Offsets", "append", "(IILjava/lang/Object;)Z"⟩
abbrev yN6 : MethodName := ⟨"com/example/theuth/theuth/io/Followed$Offsets", "insert", "(JIILjava/lang/Object;)V"⟩
abbrev yN7 : MethodName := ⟨"com/example/theuth/theuth/io/Followed", "insert", "(JIILjava/lang/Object;)V"⟩
abbrev yN8 : MethodName := ⟨"com/example/theuth/theuth/io/Followed$Chunk", "<init>", "(Z)V"⟩
abbrev yN9 : MethodName := ⟨"com/example/theuth/theuth/io/Followed$Offsets", "<init>", "(Z)V"⟩
abbrev yN10 : MethodName := ⟨"com/example/theuth/theuth/io/Followed$Offsets", "holds", "(JI)Z"⟩
abbrev yN11 : MethodName := ⟨"com/example/theuth/theuth/io/FollowedFirstReadWithinPinLaw", "after", "(ZIIJ)J"⟩
abbrev yN12 : MethodName := ⟨"java/util/Arrays", "binarySearch", "([IIII)I"⟩
abbrev yN13 : MethodName := ⟨"com/example/theuth/theuth/io/Followed", "firstReadWithin", "(JI)I"⟩
abbrev yN14 : MethodName := ⟨"java/util/Arrays", "rangeCheck", "(III)V"⟩
abbrev yN15 : MethodName := ⟨"java/lang/Math", "max", "(II)I"⟩
abbrev yN16 : MethodName := ⟨"com/example/theuth/theuth/io/Followed", "isFollowed", "(J)Z"⟩
abbrev yN17 : MethodName := ⟨"java/lang/Math", "min", "(JJ)J"⟩
abbrev yN18 : MethodName := ⟨"com/example/theuth/theuth/io/Followed", "<init>", "()V"⟩
abbrev yN19 : MethodName := ⟨"java/lang/Integer", "valueOf", "(I)Ljava/lang/Integer;"⟩
abbrev sN0 : String := "com/example/theuth/theuth/io/Followed$Chunk"
abbrev sN1 : String := "com/example/theuth/theuth/io/Followed$Offsets"
abbrev sN2 : String := "[Lcom/example/theuth/theuth/io/Followed$Chunk;"
abbrev sN3 : String := "com/example/theuth/theuth/io/Followed"
abbrev sN4 : String := "Lcom/example/theuth/theuth/io/Followed$Offsets;"
theorem ef_rmChunk1 (m : MethodId) (x0 : Addr) (x1 : Int32) : entryFrame m #[(.ref x0), (.int x1)] 2 = mkF m 0 #[rv x0, iv x1] [] := by first | (simp [entryFrame, mkF, argsToLocals, Value.category]; done) | rfl
def Q_rmChunk1 (Z : State) (a1 : Addr) (u1 : Value) (u2 : Value) (u3 : Value) (h0 : Heap) (n0 : Nat) (v : Option Value) (h : Heap) (L : List Loc) : Prop := ∃ sa : Addr, ∃ kst : ClassId, ∃ en : Addr, ∃ ken : ClassId, ∃ it : Addr, ∃ kit : ClassId, v = none ∧ Fr n0 L ∧ Keep h0 h [a1] ∧ (Fld Z h a1 sN0 "starts" "[I" (.ref sa)) ∧ (Fld Z h a1 sN0 "ends" "[I" (.ref en)) ∧ (Fld Z h a1 sN0 "items" "[Ljava/lang/Object;" (.ref it)) ∧ (Fld Z h a1 sN0 "size" "I" (.int 0)) ∧ (Arv Z h sa kst .int 256 [(.int 0), (.int 0), (.int 0)] (.int 0)) ∧ (h0.size ≤ sa) ∧ (Arv Z h en ken .int 256 [(.int 0), (.int 0), (.int 0)] (.int 0)) ∧ (Arv Z h it kit (.object "java/lang/Object") (256 : Int32) [.null, .null, .null] .null) ∧ (h0.size ≤ en) ∧ (h0.size ≤ it) ∧ (sa ≠ en) ∧ (sa ≠ it) ∧ (en ≠ it) ∧ (Ovr Z kit "java/lang/Object")
set_option maxRecDepth 65536 in
set_option maxHeartbeats 40000000 in
theorem rmChunk1 (l : Launch) (Z : State) (a0 : Array Value) (hw : ∀ d ∈ tables_1, d.before a0 Z = true) (ws : List Jvm.Cond) (a1 : Addr) (u1 : Value) (u2 : Value) (u3 : Value) (h0 : Heap) (n0 : Nat) (Z0 : n0 ≤ h0.size) (E_a1 : Exa Z h0 a1 sN0) (F_starts_a1 : Fld Z h0 a1 sN0 "starts" "[I" u1) (F_ends_a1 : Fld Z h0 a1 sN0 "ends" "[I" u2) (F_items_a1 : Fld Z h0 a1 sN0 "items" "[Ljava/lang/Object;" u3) (F_size_a1 : Fld Z h0 a1 sN0 "size" "I" (.int 0)) (g_a1 : n0 ≤ a1) :
  own_M l yN8 (Jvm.Cond.code yN8 prog_117_method_1_code 2 none :: ws) ({ frames := 1, cells := 3, slots := 768, locals := 12 } : Room) #[(.ref a1), (.int 1)] Z h0 (Q_rmChunk1 Z a1 u1 u2 u3 h0 n0) := by
 refine MetFree.of_bodySF (plainFor_of_name pn_0) hisR ?_
 intro p e s m args below meth c s₁ Bd hml0 hP hK
 obtain ⟨rfl, hZ, hh⟩ := hP
 have hx := Bd.exec
 have hby := Bd.bytes
 have hml : c.maxLocals = 2 := hml0
 have hown : s.vm.findClass sN0 = some m.cls := findClass_of_methodNamed Bd.named
 have hnm := (name_of_methodNamed Bd.named Bd.method).1
 have X0 : Stand p l e ({ frames := 1, cells := 3, slots := 768, locals := 12 } : Room) s m #[(.ref a1), (.int 1)] below meth c s₁ [] 0 0 := Stand.of_body Bd
 have hU : ∀ (i : Nat) (d : Jvm.Cond), tables_1[i]? = some d → d.before a0 Z = true := fun i d h => hw d (List.mem_of_getElem? h)
 have e0 : s₁.heap = h0 := by rw [← hh, Bd.state]; rfl
 have N0 := Fr.nil n0
 obtain ⟨f0, hf0⟩ : ∃ f : JFrame, f = mkF m 0 #[rv a1, iv 1] [] := ⟨_, rfl⟩
 have pre0 : ∀ t, own_S p e below s₁ f0 t → Steps p.tables e below (s₁.setTop (entryFrame m #[(.ref a1), (.int 1)] 2)) t := fun t k => castTop ((ef_rmChunk1 m a1 (1 : Int32)).trans hf0.symm) k
 have R0 : own_R p e below s₁ (mkF m 0 #[rv a1, iv 1] []) s₁ f0 := by rw [hf0]; exact fun t k => k
 have R1 : own_R p e below s₁ (mkF m 1 #[rv a1, iv 1] [(.ref a1)]) s₁ f0 := fun t k => R0 t (by
  refine XS.aloadN X0.here hx rfl (hb hby d4_0) rfl rfl ?_
  exact k)
 obtain ⟨T2, X2, e2, st2⟩ := initO X0 hx hZ hown (hU 30 _ rfl) (hU 7 _ rfl) (hU 8 _ rfl) e0 (g := (mkF m 1 #[rv a1, iv 1] [(.ref a1)])) rfl (by rw [hml]; rfl) rfl (hb hby d4_1) (by decide) (W := 0) (Nat.le_of_eq rfl) (by decide)
 have R3 := fun t k => R1 t (st2 t k)
 have R4 : own_R p e below T2 (mkF m 8 #[rv a1, iv 1] [(.int 256), (.ref a1)]) s₁ f0 := fun t k => R3 t (by
  refine XS.aloadN X2.here hx rfl (hb hby d4_4) rfl rfl ?_
  refine XS.sipush X2.here hx rfl (hb hby d4_5) ?_
  exact k)
 obtain ⟨T5, h5, k5, X5, e5, E5, A5, st5⟩ := newP X2 hx hZ (hU 16 _ rfl) e2 (g := (mkF m 8 #[rv a1, iv 1] [(.int 256), (.ref a1)])) rfl (hb hby d4_8) rfl (by decide) (cap := 256) (by decide) (by decide) (by decide) (by decide)
 obtain ⟨b5, g5⟩ : ∃ z, z = h0.size := ⟨_, rfl⟩
 rw [← g5] at A5 st5
 have g_b5 : n0 ≤ b5 := Nat.le_trans Z0 (Nat.le_of_eq g5.symm)
 have sz_b5 : h0.size ≤ b5 := Nat.le_trans (Keep.refl h0 [a1]).1 (Nat.le_of_eq g5.symm)
 have ne_a1_b5 : a1 ≠ b5 := Nat.ne_of_lt (Nat.lt_of_lt_of_le E_a1.lt (Nat.le_of_eq g5.symm))
 have f5_E_a1 := E_a1.ext E5
 have f5_F_starts_a1 := F_starts_a1.ext E5
 have f5_F_ends_a1 := F_ends_a1.ext E5
 have f5_F_items_a1 := F_items_a1.ext E5
 have f5_F_size_a1 := F_size_a1.ext E5
 have z5 : n0 ≤ h5.size := Nat.le_trans Z0 E5.1
 have K5 : Keep h0 h5 [a1] := (Keep.refl h0 [a1]).ext E5
 have v5 : Arv Z h5 b5 k5 .int 256 [(.int 0), (.int 0), (.int 0)] (.int 0) := (Arv.new A5 (by decide)).pad (pad_rep [] (.int 0) 3)
 have R6 := fun t k => R4 t (st5 t k)
 obtain ⟨T7, h7, X7, e7, W7, st7⟩ := putF X5 hx hZ hown (host := "") (Or.inl (hU 31 _ rfl)) Via.refl e5 f5_F_starts_a1 f5_E_a1 (Or.inr ⟨(hU 32 _ rfl), rfl, hnm⟩) (hU 25 _ rfl) (ty := (.array .int)) (by decide) rfl rfl (g := (mkF m 10 #[rv a1, iv 1] [(.ref b5), (.ref a1)])) rfl rfl (hb hby d4_10)
 have fw7 : Fld Z h7 a1 sN0 "starts" "[I" (.ref b5) := f5_F_starts_a1.same W7
 have f7_E_a1 := f5_E_a1.wr W7
 have f7_F_ends_a1 := f5_F_ends_a1.other W7 (Or.inr (slot_ne (Or.inr (hU 34 _ rfl)) (Or.inr (hU 32 _ rfl)) (by decide) (t := (.array .int)) (t' := (.array .int)) (by decide) (by decide)))
 have f7_F_items_a1 := f5_F_items_a1.other W7 (Or.inr (slot_ne (Or.inr (hU 38 _ rfl)) (Or.inr (hU 32 _ rfl)) (by decide) (t := (.array (.object "java/lang/Object"))) (t' := (.array .int)) (by decide) (by decide)))
 have f7_F_size_a1 := f5_F_size_a1.other W7 (Or.inr (slot_ne (Or.inl (hU 64 _ rfl)) (Or.inr (hU 32 _ rfl)) (by decide) (t := .int) (t' := (.array .int)) (by decide) (by decide)))
 have f7_A_b5 := v5.other W7 (Ne.symm ne_a1_b5)
 have z7 : n0 ≤ h7.size := by rw [W7.size]; exact z5
 have K7 : Keep h0 h7 [a1] := K5.wr W7 (Or.inl (List.mem_of_getElem? (i := 0) rfl))
 have N7 := Fr.snoc X7 N0 g_a1
 have R8 := fun t k => R6 t (st7 t k)
 have R9 : own_R p e below T7 (mkF m 21 #[rv a1, iv 1] [(.int 256), (.ref a1)]) s₁ f0 := fun t k => R8 t (by
  refine XS.aloadN X7.here hx rfl (hb hby d4_13) rfl rfl ?_
  refine XS.iloadN X7.here hx rfl (hb hby d4_14) rfl ?_
  refine XS.ifNo X7.here hx rfl (hb hby d4_15) rfl ((if0 _ _).trans (feq (by decide : ¬ ((1 : Int32) = (0 : Int32)))).1) ?_
  refine XS.sipush X7.here hx rfl (hb hby d4_18) ?_
  exact k)
 obtain ⟨T10, h10, k10, X10, e10, E10, A10, st10⟩ := newP X7 hx hZ (hU 16 _ rfl) e7 (g := (mkF m 21 #[rv a1, iv 1] [(.int 256), (.ref a1)])) rfl (hb hby d4_21) rfl (by decide) (cap := 256) (by decide) (by decide) (by decide) (by decide)
 obtain ⟨b10, g10⟩ : ∃ z, z = h7.size := ⟨_, rfl⟩
 rw [← g10] at A10 st10
 have g_b10 : n0 ≤ b10 := Nat.le_trans z7 (Nat.le_of_eq g10.symm)
 have sz_b10 : h0.size ≤ b10 := Nat.le_trans K7.1 (Nat.le_of_eq g10.symm)
 have ne_a1_b10 : a1 ≠ b10 := Nat.ne_of_lt (Nat.lt_of_lt_of_le f7_E_a1.lt (Nat.le_of_eq g10.symm))
 have ne_b5_b10 : b5 ≠ b10 := Nat.ne_of_lt (Nat.lt_of_lt_of_le f7_A_b5.lt (Nat.le_of_eq g10.symm))
 have f10_E_a1 := f7_E_a1.ext E10
 have f10_F_starts_a1 := fw7.ext E10
 have f10_F_ends_a1 := f7_F_ends_a1.ext E10
 have f10_F_items_a1 := f7_F_items_a1.ext E10
 have f10_F_size_a1 := f7_F_size_a1.ext E10
 have f10_A_b5 := f7_A_b5.ext E10
 have z10 : n0 ≤ h10.size := Nat.le_trans z7 E10.1
 have K10 : Keep h0 h10 [a1] := K7.ext E10
 have v10 : Arv Z h10 b10 k10 .int 256 [(.int 0), (.int 0), (.int 0)] (.int 0) := (Arv.new A10 (by decide)).pad (pad_rep [] (.int 0) 3)
 have R11 := fun t k => R9 t (st10 t k)
 have R12 : own_R p e below T10 (mkF m 27 #[rv a1, iv 1] [(.ref b10), (.ref a1)]) s₁ f0 := fun t k => R11 t (by
  refine XS.goto X10.here hx rfl (pc0 := 23) (pc' := 27) rfl (hb hby d4_23) (by decide) (by decide) ?_
  exact k)
 obtain ⟨T13, h13, X13, e13, W13, st13⟩ := putF X10 hx hZ hown (host := "") (Or.inl (hU 33 _ rfl)) Via.refl e10 f10_F_ends_a1 f10_E_a1 (Or.inr ⟨(hU 34 _ rfl), rfl, hnm⟩) (hU 25 _ rfl) (ty := (.array .int)) (by decide) rfl rfl (g := (mkF m 27 #[rv a1, iv 1] [(.ref b10), (.ref a1)])) rfl rfl (hb hby d4_27)
 have fw13 : Fld Z h13 a1 sN0 "ends" "[I" (.ref b10) := f10_F_ends_a1.same W13
 have f13_E_a1 := f10_E_a1.wr W13
 have f13_F_starts_a1 := f10_F_starts_a1.other W13 (Or.inr (slot_ne (Or.inr (hU 32 _ rfl)) (Or.inr (hU 34 _ rfl)) (by decide) (t := (.array .int)) (t' := (.array .int)) (by decide) (by decide)))
 have f13_F_items_a1 := f10_F_items_a1.other W13 (Or.inr (slot_ne (Or.inr (hU 38 _ rfl)) (Or.inr (hU 34 _ rfl)) (by decide) (t := (.array (.object "java/lang/Object"))) (t' := (.array .int)) (by decide) (by decide)))
 have f13_F_size_a1 := f10_F_size_a1.other W13 (Or.inr (slot_ne (Or.inl (hU 64 _ rfl)) (Or.inr (hU 34 _ rfl)) (by decide) (t := .int) (t' := (.array .int)) (by decide) (by decide)))
 have f13_A_b5 := f10_A_b5.other W13 (Ne.symm ne_a1_b5)
 have f13_A_b10 := v10.other W13 (Ne.symm ne_a1_b10)
 have z13 : n0 ≤ h13.size := by rw [W13.size]; exact z10
 have K13 : Keep h0 h13 [a1] := K10.wr W13 (Or.inl (List.mem_of_getElem? (i := 0) rfl))
 have N13 := Fr.snoc X13 N7 g_a1
 have R14 := fun t k => R12 t (st13 t k)
 have R15 : own_R p e below T13 (mkF m 38 #[rv a1, iv 1] [(.int 256), (.ref a1)]) s₁ f0 := fun t k => R14 t (by
  refine XS.aloadN X13.here hx rfl (hb hby d4_30) rfl rfl ?_
  refine XS.iloadN X13.here hx rfl (hb hby d4_31) rfl ?_
  refine XS.ifNo X13.here hx rfl (hb hby d4_32) rfl ((if0 _ _).trans (feq (by decide : ¬ ((1 : Int32) = (0 : Int32)))).1) ?_
  refine XS.sipush X13.here hx rfl (hb hby d4_35) ?_
  exact k)
 obtain ⟨T16, h16, k16, X16, e16, E16, A16, O16, st16⟩ := newR X13 hx hZ hown (hU 35 _ rfl) (hU 36 _ rfl) e13 (g := (mkF m 38 #[rv a1, iv 1] [(.int 256), (.ref a1)])) rfl (hb hby d4_38) rfl (by decide) (cap := 256) (by decide) (by decide) (by decide) (by decide)
 obtain ⟨b16, g16⟩ : ∃ z, z = h13.size := ⟨_, rfl⟩
 rw [← g16] at A16 st16
 have g_b16 : n0 ≤ b16 := Nat.le_trans z13 (Nat.le_of_eq g16.symm)
 have sz_b16 : h0.size ≤ b16 := Nat.le_trans K13.1 (Nat.le_of_eq g16.symm)
 have ne_a1_b16 : a1 ≠ b16 := Nat.ne_of_lt (Nat.lt_of_lt_of_le f13_E_a1.lt (Nat.le_of_eq g16.symm))
 have ne_b5_b16 : b5 ≠ b16 := Nat.ne_of_lt (Nat.lt_of_lt_of_le f13_A_b5.lt (Nat.le_of_eq g16.symm))
 have ne_b10_b16 : b10 ≠ b16 := Nat.ne_of_lt (Nat.lt_of_lt_of_le f13_A_b10.lt (Nat.le_of_eq g16.symm))
 have f16_E_a1 := f13_E_a1.ext E16
 have f16_F_starts_a1 := f13_F_starts_a1.ext E16
 have f16_F_ends_a1 := fw13.ext E16
 have f16_F_items_a1 := f13_F_items_a1.ext E16
 have f16_F_size_a1 := f13_F_size_a1.ext E16
 have f16_A_b5 := f13_A_b5.ext E16
 have f16_A_b10 := f13_A_b10.ext E16
 have z16 : n0 ≤ h16.size := Nat.le_trans z13 E16.1
 have K16 : Keep h0 h16 [a1] := K13.ext E16
 have v16 : Arv Z h16 b16 k16 (.object "java/lang/Object") (256 : Int32) [.null, .null, .null] .null := (Arv.new A16 (by decide)).pad (pad_rep [] .null 3)
 have R17 := fun t k => R15 t (st16 t k)
 have R18 : own_R p e below T16 (mkF m 45 #[rv a1, iv 1] [(.ref b16), (.ref a1)]) s₁ f0 := fun t k => R17 t (by
  refine XS.goto X16.here hx rfl (pc0 := 41) (pc' := 45) rfl (hb hby d4_41) (by decide) (by decide) ?_
  exact k)
 obtain ⟨T19, h19, X19, e19, W19, st19⟩ := putF X16 hx hZ hown (host := "") (Or.inl (hU 37 _ rfl)) Via.refl e16 f16_F_items_a1 f16_E_a1 (Or.inr ⟨(hU 38 _ rfl), rfl, hnm⟩) (hU 25 _ rfl) (ty := (.array (.object "java/lang/Object"))) (by decide) rfl rfl (g := (mkF m 45 #[rv a1, iv 1] [(.ref b16), (.ref a1)])) rfl rfl (hb hby d4_45)
 have fw19 : Fld Z h19 a1 sN0 "items" "[Ljava/lang/Object;" (.ref b16) := f16_F_items_a1.same W19
 have f19_E_a1 := f16_E_a1.wr W19
 have f19_F_starts_a1 := f16_F_starts_a1.other W19 (Or.inr (slot_ne (Or.inr (hU 32 _ rfl)) (Or.inr (hU 38 _ rfl)) (by decide) (t := (.array .int)) (t' := (.array (.object "java/lang/Object"))) (by decide) (by decide)))
 have f19_F_ends_a1 := f16_F_ends_a1.other W19 (Or.inr (slot_ne (Or.inr (hU 34 _ rfl)) (Or.inr (hU 38 _ rfl)) (by decide) (t := (.array .int)) (t' := (.array (.object "java/lang/Object"))) (by decide) (by decide)))
 have f19_F_size_a1 := f16_F_size_a1.other W19 (Or.inr (slot_ne (Or.inl (hU 64 _ rfl)) (Or.inr (hU 38 _ rfl)) (by decide) (t := .int) (t' := (.array (.object "java/lang/Object"))) (by decide) (by decide)))
 have f19_A_b5 := f16_A_b5.other W19 (Ne.symm ne_a1_b5)
 have f19_A_b10 := f16_A_b10.other W19 (Ne.symm ne_a1_b10)
 have f19_A_b16 := v16.other W19 (Ne.symm ne_a1_b16)
 have z19 : n0 ≤ h19.size := by rw [W19.size]; exact z16
 have K19 : Keep h0 h19 [a1] := K16.wr W19 (Or.inl (List.mem_of_getElem? (i := 0) rfl))
 have N19 := Fr.snoc X19 N13 g_a1
 have R20 := fun t k => R18 t (st19 t k)
 obtain ⟨fs, hr, hrun, hended, hW, hsame⟩ := X19.leave (v := none) (fun _ => rfl)
 refine ⟨_, _, pre0 _ (R20 _ ?_), hrun, hended, _, _, rfl, ?_, ⟨_, rfl⟩, hW, hsame.mono (by decide) (by decide)⟩
 ·
  show own_S p e below T19 (mkF m 48 #[rv a1, iv 1] []) _
  exact X19.returnOut hx Bd.returns (hb hby d4_48) hr
 ·
  show Q_rmChunk1 Z a1 u1 u2 u3 h0 n0 _ T19.heap _
  rw [e19]
  exact ⟨b5, k5, b10, k10, b16, k16, rfl, N19, K19, f19_F_starts_a1, f19_F_ends_a1, fw19, f19_F_size_a1, f19_A_b5, sz_b5, f19_A_b10, f19_A_b16, sz_b10, sz_b16, ne_b5_b10, ne_b5_b16, ne_b10_b16, O16⟩
theorem ef_rmChunk0 (m : MethodId) (x0 : Addr) (x1 : Int32) : entryFrame m #[(.ref x0), (.int x1)] 2 = mkF m 0 #[rv x0, iv x1] [] := by first | (simp [entryFrame, mkF, argsToLocals, Value.category]; done) | rfl
def Q_rmChunk0 (Z : State) (a1 : Addr) (u1 : Value) (u2 : Value) (u3 : Value) (h0 : Heap) (n0 : Nat) (v : Option Value) (h : Heap) (L : List Loc) : Prop := ∃ sa : Addr, ∃ kst : ClassId, v = none ∧ Fr n0 L ∧ Keep h0 h [a1] ∧ (Fld Z h a1 sN0 "starts" "[I" (.ref sa)) ∧ (Fld Z h a1 sN0 "ends" "[I" .null) ∧ (Fld Z h a1 sN0 "items" "[Ljava/lang/Object;" .null) ∧ (Fld Z h a1 sN0 "size" "I" (.int 0)) ∧ (Arv Z h sa kst .int 256 [(.int 0), (.int 0), (.int 0)] (.int 0)) ∧ (h0.size ≤ sa)
set_option maxRecDepth 65536 in
set_option maxHeartbeats 40000000 in
theorem rmChunk0 (l : Launch) (Z : State) (a0 : Array Value) (hw : ∀ d ∈ tables_1, d.before a0 Z = true) (ws : List Jvm.Cond) (a1 : Addr) (u1 : Value) (u2 : Value) (u3 : Value) (h0 : Heap) (n0 : Nat) (Z0 : n0 ≤ h0.size) (E_a1 : Exa Z h0 a1 sN0) (F_starts_a1 : Fld Z h0 a1 sN0 "starts" "[I" u1) (F_ends_a1 : Fld Z h0 a1 sN0 "ends" "[I" u2) (F_items_a1 : Fld Z h0 a1 sN0 "items" "[Ljava/lang/Object;" u3) (F_size_a1 : Fld Z h0 a1 sN0 "size" "I" (.int 0)) (g_a1 : n0 ≤ a1) :
  own_M l yN8 (Jvm.Cond.code yN8 prog_117_method_1_code 2 none :: ws) ({ frames := 1, cells := 1, slots := 256, locals := 12 } : Room) #[(.ref a1), (.int 0)] Z h0 (Q_rmChunk0 Z a1 u1 u2 u3 h0 n0) := by
 refine MetFree.of_bodySF (plainFor_of_name pn_0) hisR ?_
 intro p e s m args below meth c s₁ Bd hml0 hP hK
 obtain ⟨rfl, hZ, hh⟩ := hP
 have hx := Bd.exec
 have hby := Bd.bytes
 have hml : c.maxLocals = 2 := hml0
 have hown : s.vm.findClass sN0 = some m.cls := findClass_of_methodNamed Bd.named
 have hnm := (name_of_methodNamed Bd.named Bd.method).1
 have X0 : Stand p l e ({ frames := 1, cells := 1, slots := 256, locals := 12 } : Room) s m #[(.ref a1), (.int 0)] below meth c s₁ [] 0 0 := Stand.of_body Bd
 have hU : ∀ (i : Nat) (d : Jvm.Cond), tables_1[i]? = some d → d.before a0 Z = true := fun i d h => hw d (List.mem_of_getElem? h)
 have e0 : s₁.heap = h0 := by rw [← hh, Bd.state]; rfl
 have N0 := Fr.nil n0
 obtain ⟨f0, hf0⟩ : ∃ f : JFrame, f = mkF m 0 #[rv a1, iv 0] [] := ⟨_, rfl⟩
 have pre0 : ∀ t, own_S p e below s₁ f0 t → Steps p.tables e below (s₁.setTop (entryFrame m #[(.ref a1), (.int 0)] 2)) t := fun t k => castTop ((ef_rmChunk0 m a1 (0 : Int32)).trans hf0.symm) k
 have R0 : own_R p e below s₁ (mkF m 0 #[rv a1, iv 0] []) s₁ f0 := by rw [hf0]; exact fun t k => k
 have R1 : own_R p e below s₁ (mkF m 1 #[rv a1, iv 0] [(.ref a1)]) s₁ f0 := fun t k => R0 t (by
  refine XS.aloadN X0.here hx rfl (hb hby d4_0) rfl rfl ?_
  exact k)
 obtain ⟨T2, X2, e2, st2⟩ := initO X0 hx hZ hown (hU 30 _ rfl) (hU 7 _ rfl) (hU 8 _ rfl) e0 (g := (mkF m 1 #[rv a1, iv 0] [(.ref a1)])) rfl (by rw [hml]; rfl) rfl (hb hby d4_1) (by decide) (W := 0) (Nat.le_of_eq rfl) (by decide)
 have R3 := fun t k => R1 t (st2 t k)
 have R4 : own_R p e below T2 (mkF m 8 #[rv a1, iv 0] [(.int 256), (.ref a1)]) s₁ f0 := fun t k => R3 t (by
  refine XS.aloadN X2.here hx rfl (hb hby d4_4) rfl rfl ?_
  refine XS.sipush X2.here hx rfl (hb hby d4_5) ?_
  exact k)
 obtain ⟨T5, h5, k5, X5, e5, E5, A5, st5⟩ := newP X2 hx hZ (hU 16 _ rfl) e2 (g := (mkF m 8 #[rv a1, iv 0] [(.int 256), (.ref a1)])) rfl (hb hby d4_8) rfl (by decide) (cap := 256) (by decide) (by decide) (by decide) (by decide)
 obtain ⟨b5, g5⟩ : ∃ z, z = h0.size := ⟨_, rfl⟩
 rw [← g5] at A5 st5
 have g_b5 : n0 ≤ b5 := Nat.le_trans Z0 (Nat.le_of_eq g5.symm)
 have sz_b5 : h0.size ≤ b5 := Nat.le_trans (Keep.refl h0 [a1]).1 (Nat.le_of_eq g5.symm)
 have ne_a1_b5 : a1 ≠ b5 := Nat.ne_of_lt (Nat.lt_of_lt_of_le E_a1.lt (Nat.le_of_eq g5.symm))
 have f5_E_a1 := E_a1.ext E5
 have f5_F_starts_a1 := F_starts_a1.ext E5
 have f5_F_ends_a1 := F_ends_a1.ext E5
 have f5_F_items_a1 := F_items_a1.ext E5
 have f5_F_size_a1 := F_size_a1.ext E5
 have z5 : n0 ≤ h5.size := Nat.le_trans Z0 E5.1
 have K5 : Keep h0 h5 [a1] := (Keep.refl h0 [a1]).ext E5
 have v5 : Arv Z h5 b5 k5 .int 256 [(.int 0), (.int 0), (.int 0)] (.int 0) := (Arv.new A5 (by decide)).pad (pad_rep [] (.int 0) 3)
 have R6 := fun t k => R4 t (st5 t k)
 obtain ⟨T7, h7, X7, e7, W7, st7⟩ := putF X5 hx hZ hown (host := "") (Or.inl (hU 31 _ rfl)) Via.refl e5 f5_F_starts_a1 f5_E_a1 (Or.inr ⟨(hU 32 _ rfl), rfl, hnm⟩) (hU 25 _ rfl) (ty := (.array .int)) (by decide) rfl rfl (g := (mkF m 10 #[rv a1, iv 0] [(.ref b5), (.ref a1)])) rfl rfl (hb hby d4_10)
 have fw7 : Fld Z h7 a1 sN0 "starts" "[I" (.ref b5) := f5_F_starts_a1.same W7
 have f7_E_a1 := f5_E_a1.wr W7
 have f7_F_ends_a1 := f5_F_ends_a1.other W7 (Or.inr (slot_ne (Or.inr (hU 34 _ rfl)) (Or.inr (hU 32 _ rfl)) (by decide) (t := (.array .int)) (t' := (.array .int)) (by decide) (by decide)))
 have f7_F_items_a1 := f5_F_items_a1.other W7 (Or.inr (slot_ne (Or.inr (hU 38 _ rfl)) (Or.inr (hU 32 _ rfl)) (by decide) (t := (.array (.object "java/lang/Object"))) (t' := (.array .int)) (by decide) (by decide)))
 have f7_F_size_a1 := f5_F_size_a1.other W7 (Or.inr (slot_ne (Or.inl (hU 64 _ rfl)) (Or.inr (hU 32 _ rfl)) (by decide) (t := .int) (t' := (.array .int)) (by decide) (by decide)))
 have f7_A_b5 := v5.other W7 (Ne.symm ne_a1_b5)
 have z7 : n0 ≤ h7.size := by rw [W7.size]; exact z5
 have K7 : Keep h0 h7 [a1] := K5.wr W7 (Or.inl (List.mem_of_getElem? (i := 0) rfl))
 have N7 := Fr.snoc X7 N0 g_a1
 have R8 := fun t k => R6 t (st7 t k)
 have R9 : own_R p e below T7 (mkF m 27 #[rv a1, iv 0] [.null, (.ref a1)]) s₁ f0 := fun t k => R8 t (by
  refine XS.aloadN X7.here hx rfl (hb hby d4_13) rfl rfl ?_
  refine XS.iloadN X7.here hx rfl (hb hby d4_14) rfl ?_
  refine XS.ifYes X7.here hx rfl (pc0 := 15) (pc' := 26) rfl (hb hby d4_15) rfl ((if0 _ _).trans (teq (by decide : (0 : Int32) = (0 : Int32))).1) (by decide) (by decide) ?_
  refine XS.aconstNull X7.here hx rfl (hb hby d4_26) ?_
  exact k)
 obtain ⟨T10, h10, X10, e10, W10, st10⟩ := putF X7 hx hZ hown (host := "") (Or.inl (hU 33 _ rfl)) Via.refl e7 f7_F_ends_a1 f7_E_a1 (Or.inr ⟨(hU 34 _ rfl), rfl, hnm⟩) (hU 25 _ rfl) (ty := (.array .int)) (by decide) rfl rfl (g := (mkF m 27 #[rv a1, iv 0] [.null, (.ref a1)])) rfl rfl (hb hby d4_27)
 have fw10 : Fld Z h10 a1 sN0 "ends" "[I" .null := f7_F_ends_a1.same W10
 have f10_E_a1 := f7_E_a1.wr W10
 have f10_F_starts_a1 := fw7.other W10 (Or.inr (slot_ne (Or.inr (hU 32 _ rfl)) (Or.inr (hU 34 _ rfl)) (by decide) (t := (.array .int)) (t' := (.array .int)) (by decide) (by decide)))
 have f10_F_items_a1 := f7_F_items_a1.other W10 (Or.inr (slot_ne (Or.inr (hU 38 _ rfl)) (Or.inr (hU 34 _ rfl)) (by decide) (t := (.array (.object "java/lang/Object"))) (t' := (.array .int)) (by decide) (by decide)))
 have f10_F_size_a1 := f7_F_size_a1.other W10 (Or.inr (slot_ne (Or.inl (hU 64 _ rfl)) (Or.inr (hU 34 _ rfl)) (by decide) (t := .int) (t' := (.array .int)) (by decide) (by decide)))
 have f10_A_b5 := f7_A_b5.other W10 (Ne.symm ne_a1_b5)
 have z10 : n0 ≤ h10.size := by rw [W10.size]; exact z7
 have K10 : Keep h0 h10 [a1] := K7.wr W10 (Or.inl (List.mem_of_getElem? (i := 0) rfl))
 have N10 := Fr.snoc X10 N7 g_a1
 have R11 := fun t k => R9 t (st10 t k)
 have R12 : own_R p e below T10 (mkF m 45 #[rv a1, iv 0] [.null, (.ref a1)]) s₁ f0 := fun t k => R11 t (by
  refine XS.aloadN X10.here hx rfl (hb hby d4_30) rfl rfl ?_
  refine XS.iloadN X10.here hx rfl (hb hby d4_31) rfl ?_
  refine XS.ifYes X10.here hx rfl (pc0 := 32) (pc' := 44) rfl (hb hby d4_32) rfl ((if0 _ _).trans (teq (by decide : (0 : Int32) = (0 : Int32))).1) (by decide) (by decide) ?_
  refine XS.aconstNull X10.here hx rfl (hb hby d4_44) ?_
  exact k)
 obtain ⟨T13, h13, X13, e13, W13, st13⟩ := putF X10 hx hZ hown (host := "") (Or.inl (hU 37 _ rfl)) Via.refl e10 f10_F_items_a1 f10_E_a1 (Or.inr ⟨(hU 38 _ rfl), rfl, hnm⟩) (hU 25 _ rfl) (ty := (.array (.object "java/lang/Object"))) (by decide) rfl rfl (g := (mkF m 45 #[rv a1, iv 0] [.null, (.ref a1)])) rfl rfl (hb hby d4_45)
 have fw13 : Fld Z h13 a1 sN0 "items" "[Ljava/lang/Object;" .null := f10_F_items_a1.same W13
 have f13_E_a1 := f10_E_a1.wr W13
 have f13_F_starts_a1 := f10_F_starts_a1.other W13 (Or.inr (slot_ne (Or.inr (hU 32 _ rfl)) (Or.inr (hU 38 _ rfl)) (by decide) (t := (.array .int)) (t' := (.array (.object "java/lang/Object"))) (by decide) (by decide)))
 have f13_F_ends_a1 := fw10.other W13 (Or.inr (slot_ne (Or.inr (hU 34 _ rfl)) (Or.inr (hU 38 _ rfl)) (by decide) (t := (.array .int)) (t' := (.array (.object "java/lang/Object"))) (by decide) (by decide)))
 have f13_F_size_a1 := f10_F_size_a1.other W13 (Or.inr (slot_ne (Or.inl (hU 64 _ rfl)) (Or.inr (hU 38 _ rfl)) (by decide) (t := .int) (t' := (.array (.object "java/lang/Object"))) (by decide) (by decide)))
 have f13_A_b5 := f10_A_b5.other W13 (Ne.symm ne_a1_b5)
 have z13 : n0 ≤ h13.size := by rw [W13.size]; exact z10
 have K13 : Keep h0 h13 [a1] := K10.wr W13 (Or.inl (List.mem_of_getElem? (i := 0) rfl))
 have N13 := Fr.snoc X13 N10 g_a1
 have R14 := fun t k => R12 t (st13 t k)
 obtain ⟨fs, hr, hrun, hended, hW, hsame⟩ := X13.leave (v := none) (fun _ => rfl)
 refine ⟨_, _, pre0 _ (R14 _ ?_), hrun, hended, _, _, rfl, ?_, ⟨_, rfl⟩, hW, hsame.mono (by decide) (by decide)⟩
 ·
  show own_S p e below T13 (mkF m 48 #[rv a1, iv 0] []) _
  exact X13.returnOut hx Bd.returns (hb hby d4_48) hr
 ·
  show Q_rmChunk0 Z a1 u1 u2 u3 h0 n0 _ T13.heap _
  rw [e13]
  exact ⟨b5, k5, rfl, N13, K13, f13_F_starts_a1, f13_F_ends_a1, fw13, f13_F_size_a1, f13_A_b5, sz_b5⟩
theorem ef_rmOffs1 (m : MethodId) (x0 : Addr) (x1 : Int32) : entryFrame m #[(.ref x0), (.int x1)] 2 = mkF m 0 #[rv x0, iv x1] [] := by first | (simp [entryFrame, mkF, argsToLocals, Value.category]; done) | rfl
def Q_rmOffs1 (Z : State) (a1 : Addr) (u1 : Value) (u2 : Value) (u3 : Value) (u4 : Value) (h0 : Heap) (n0 : Nat) (v : Option Value) (h : Heap) (L : List Loc) : Prop := ∃ fi : Addr, ∃ kfi : ClassId, ∃ ck : Addr, ∃ kck : ClassId, ∃ kk : Addr, ∃ sa : Addr, ∃ kst : ClassId, ∃ en : Addr, ∃ ken : ClassId, ∃ it : Addr, ∃ kit : ClassId, v = none ∧ Fr n0 L ∧ Keep h0 h [a1] ∧ (Fld Z h a1 sN1 "withItems" "Z" (.int 1)) ∧ (Fld Z h a1 sN1 "chunks" sN2 (.ref ck)) ∧ (Fld Z h a1 sN1 "firsts" "[I" (.ref fi)) ∧ (Fld Z h a1 sN1 "chunkCount" "I" (.int 1)) ∧ (Arv Z h fi kfi .int 1 [(.int 0)] (.int 0)) ∧ (Arv Z h ck kck (.object sN0) (1 : Int32) [(.ref kk)] .null) ∧ (Exa Z h kk sN0) ∧ (Fld Z h kk sN0 "starts" "[I" (.ref sa)) ∧ (Fld Z h kk sN0 "ends" "[I" (.ref en)) ∧ (Fld Z h kk sN0 "items" "[Ljava/lang/Object;" (.ref it)) ∧ (Fld Z h kk sN0 "size" "I" (.int 0)) ∧ (Arv Z h sa kst .int 256 [(.int 0), (.int 0), (.int 0)] (.int 0)) ∧ (Arv Z h en ken .int 256 [(.int 0), (.int 0), (.int 0)] (.int 0)) ∧ (Arv Z h it kit (.object "java/lang/Object") (256 : Int32) [.null, .null, .null] .null) ∧ (Ovr Z kit "java/lang/Object") ∧ (h0.size ≤ fi) ∧ (h0.size ≤ ck) ∧ (h0.size ≤ sa) ∧ (h0.size ≤ en) ∧ (h0.size ≤ it) ∧ (h0.size ≤ kk) ∧ (fi ≠ ck) ∧ (fi ≠ sa) ∧ (fi ≠ en) ∧ (fi ≠ it) ∧ (ck ≠ sa) ∧ (ck ≠ en) ∧ (ck ≠ it) ∧ (sa ≠ en) ∧ (sa ≠ it) ∧ (en ≠ it)
set_option maxRecDepth 65536 in
set_option maxHeartbeats 40000000 in
theorem rmOffs1 (l : Launch) (Z : State) (a0 : Array Value) (hw : ∀ d ∈ tables_1, d.before a0 Z = true) (ws : List Jvm.Cond) (a1 : Addr) (u1 : Value) (u2 : Value) (u3 : Value) (u4 : Value) (h0 : Heap) (n0 : Nat) (Z0 : n0 ≤ h0.size) (E_a1 : Exa Z h0 a1 sN1) (F_withItems_a1 : Fld Z h0 a1 sN1 "withItems" "Z" u1) (F_chunks_a1 : Fld Z h0 a1 sN1 "chunks" sN2 u2) (F_firsts_a1 : Fld Z h0 a1 sN1 "firsts" "[I" u3) (F_chunkCount_a1 : Fld Z h0 a1 sN1 "chunkCount" "I" u4) (g_a1 : n0 ≤ a1) :
  own_M l yN9 (Jvm.Cond.code yN9 prog_118_method_1_code 2 none :: ws) ({ frames := 2, cells := 6, slots := 774, locals := 30 } : Room) #[(.ref a1), (.int 1)] Z h0 (Q_rmOffs1 Z a1 u1 u2 u3 u4 h0 n0) := by
 refine MetFree.of_bodySF (plainFor_of_name pn_1) hisR ?_
 intro p e s m args below meth c s₁ Bd hml0 hP hK
 obtain ⟨rfl, hZ, hh⟩ := hP
 have hx := Bd.exec
 have hby := Bd.bytes
 have hml : c.maxLocals = 2 := hml0
 have hown : s.vm.findClass sN1 = some m.cls := findClass_of_methodNamed Bd.named
 have hnm := (name_of_methodNamed Bd.named Bd.method).1
 have X0 : Stand p l e ({ frames := 2, cells := 6, slots := 774, locals := 30 } : Room) s m #[(.ref a1), (.int 1)] below meth c s₁ [] 0 0 := Stand.of_body Bd
 have hU : ∀ (i : Nat) (d : Jvm.Cond), tables_1[i]? = some d → d.before a0 Z = true := fun i d h => hw d (List.mem_of_getElem? h)
 have e0 : s₁.heap = h0 := by rw [← hh, Bd.state]; rfl
 have N0 := Fr.nil n0
 obtain ⟨f0, hf0⟩ : ∃ f : JFrame, f = mkF m 0 #[rv a1, iv 1] [] := ⟨_, rfl⟩
 have pre0 : ∀ t, own_S p e below s₁ f0 t → Steps p.tables e below (s₁.setTop (entryFrame m #[(.ref a1), (.int 1)] 2)) t := fun t k => castTop ((ef_rmOffs1 m a1 (1 : Int32)).trans hf0.symm) k
 have R0 : own_R p e below s₁ (mkF m 0 #[rv a1, iv 1] []) s₁ f0 := by rw [hf0]; exact fun t k => k
 have R1 : own_R p e below s₁ (mkF m 1 #[rv a1, iv 1] [(.ref a1)]) s₁ f0 := fun t k => R0 t (by
  refine XS.aloadN X0.here hx rfl (hb hby d3_0) rfl rfl ?_
  exact k)
 obtain ⟨T2, X2, e2, st2⟩ := initO X0 hx hZ hown (hU 15 _ rfl) (hU 7 _ rfl) (hU 8 _ rfl) e0 (g := (mkF m 1 #[rv a1, iv 1] [(.ref a1)])) rfl (by rw [hml]; rfl) rfl (hb hby d3_1) (by decide) (W := 0) (Nat.le_of_eq rfl) (by decide)
 have R3 := fun t k => R1 t (st2 t k)
 have R4 : own_R p e below T2 (mkF m 6 #[rv a1, iv 1] [(.int 1), (.ref a1)]) s₁ f0 := fun t k => R3 t (by
  refine XS.aloadN X2.here hx rfl (hb hby d3_4) rfl rfl ?_
  refine XS.iconst X2.here hx rfl (hb hby d3_5) ?_
  exact k)
 obtain ⟨T5, h5, k5, X5, e5, E5, A5, st5⟩ := newP X2 hx hZ (hU 16 _ rfl) e2 (g := (mkF m 6 #[rv a1, iv 1] [(.int 1), (.ref a1)])) rfl (hb hby d3_6) rfl (by decide) (cap := 1) (by decide) (by decide) (by decide) (by decide)
 obtain ⟨b5, g5⟩ : ∃ z, z = h0.size := ⟨_, rfl⟩
 rw [← g5] at A5 st5
 have g_b5 : n0 ≤ b5 := Nat.le_trans Z0 (Nat.le_of_eq g5.symm)
 have sz_b5 : h0.size ≤ b5 := Nat.le_trans (Keep.refl h0 [a1]).1 (Nat.le_of_eq g5.symm)
 have ne_a1_b5 : a1 ≠ b5 := Nat.ne_of_lt (Nat.lt_of_lt_of_le E_a1.lt (Nat.le_of_eq g5.symm))
 have f5_E_a1 := E_a1.ext E5
 have f5_F_withItems_a1 := F_withItems_a1.ext E5
 have f5_F_chunks_a1 := F_chunks_a1.ext E5
 have f5_F_firsts_a1 := F_firsts_a1.ext E5
 have f5_F_chunkCount_a1 := F_chunkCount_a1.ext E5
 have z5 : n0 ≤ h5.size := Nat.le_trans Z0 E5.1
 have K5 : Keep h0 h5 [a1] := (Keep.refl h0 [a1]).ext E5
 have v5 : Arv Z h5 b5 k5 .int 1 [(.int 0)] (.int 0) := (Arv.new A5 (by decide)).pad (pad_rep [] (.int 0) 1)
 have R6 := fun t k => R4 t (st5 t k)
 obtain ⟨T7, h7, X7, e7, W7, st7⟩ := putF X5 hx hZ hown (host := "") (Or.inl (hU 17 _ rfl)) Via.refl e5 f5_F_firsts_a1 f5_E_a1 (Or.inl (hU 18 _ rfl)) (hU 10 _ rfl) (ty := (.array .int)) (by decide) rfl rfl (g := (mkF m 8 #[rv a1, iv 1] [(.ref b5), (.ref a1)])) rfl rfl (hb hby d3_8)
 have fw7 : Fld Z h7 a1 sN1 "firsts" "[I" (.ref b5) := f5_F_firsts_a1.same W7
 have f7_E_a1 := f5_E_a1.wr W7
 have f7_F_withItems_a1 := f5_F_withItems_a1.other W7 (Or.inr (slot_ne (Or.inr (hU 22 _ rfl)) (Or.inl (hU 18 _ rfl)) (by decide) (t := .boolean) (t' := (.array .int)) (by decide) (by decide)))
 have f7_F_chunks_a1 := f5_F_chunks_a1.other W7 (Or.inr (slot_ne (Or.inl (hU 41 _ rfl)) (Or.inl (hU 18 _ rfl)) (by decide) (t := (.array (.object sN0))) (t' := (.array .int)) (by decide) (by decide)))
 have f7_F_chunkCount_a1 := f5_F_chunkCount_a1.other W7 (Or.inr (slot_ne (Or.inl (hU 20 _ rfl)) (Or.inl (hU 18 _ rfl)) (by decide) (t := .int) (t' := (.array .int)) (by decide) (by decide)))
 have f7_A_b5 := v5.other W7 (Ne.symm ne_a1_b5)
 have z7 : n0 ≤ h7.size := by rw [W7.size]; exact z5
 have K7 : Keep h0 h7 [a1] := K5.wr W7 (Or.inl (List.mem_of_getElem? (i := 0) rfl))
 have N7 := Fr.snoc X7 N0 g_a1
 have R8 := fun t k => R6 t (st7 t k)
 have R9 : own_R p e below T7 (mkF m 13 #[rv a1, iv 1] [(.int 1), (.ref a1)]) s₁ f0 := fun t k => R8 t (by
  refine XS.aloadN X7.here hx rfl (hb hby d3_11) rfl rfl ?_
  refine XS.iconst X7.here hx rfl (hb hby d3_12) ?_
  exact k)
 obtain ⟨T10, h10, X10, e10, W10, st10⟩ := putF X7 hx hZ hown (host := "") (Or.inl (hU 19 _ rfl)) Via.refl e7 f7_F_chunkCount_a1 f7_E_a1 (Or.inl (hU 20 _ rfl)) (hU 10 _ rfl) (ty := .int) (by decide) rfl rfl (g := (mkF m 13 #[rv a1, iv 1] [(.int 1), (.ref a1)])) rfl rfl (hb hby d3_13)
 have fw10 : Fld Z h10 a1 sN1 "chunkCount" "I" (.int 1) := f7_F_chunkCount_a1.same W10
 have f10_E_a1 := f7_E_a1.wr W10
 have f10_F_withItems_a1 := f7_F_withItems_a1.other W10 (Or.inr (slot_ne (Or.inr (hU 22 _ rfl)) (Or.inl (hU 20 _ rfl)) (by decide) (t := .boolean) (t' := .int) (by decide) (by decide)))
 have f10_F_chunks_a1 := f7_F_chunks_a1.other W10 (Or.inr (slot_ne (Or.inl (hU 41 _ rfl)) (Or.inl (hU 20 _ rfl)) (by decide) (t := (.array (.object sN0))) (t' := .int) (by decide) (by decide)))
 have f10_F_firsts_a1 := fw7.other W10 (Or.inr (slot_ne (Or.inl (hU 18 _ rfl)) (Or.inl (hU 20 _ rfl)) (by decide) (t := (.array .int)) (t' := .int) (by decide) (by decide)))
 have f10_A_b5 := f7_A_b5.other W10 (Ne.symm ne_a1_b5)
 have z10 : n0 ≤ h10.size := by rw [W10.size]; exact z7
 have K10 : Keep h0 h10 [a1] := K7.wr W10 (Or.inl (List.mem_of_getElem? (i := 0) rfl))
 have N10 := Fr.snoc X10 N7 g_a1
 have R11 := fun t k => R9 t (st10 t k)
 have R12 : own_R p e below T10 (mkF m 18 #[rv a1, iv 1] [(.int 1), (.ref a1)]) s₁ f0 := fun t k => R11 t (by
  refine XS.aloadN X10.here hx rfl (hb hby d3_16) rfl rfl ?_
  refine XS.iloadN X10.here hx rfl (hb hby d3_17) rfl ?_
  exact k)
 obtain ⟨T13, h13, X13, e13, W13, st13⟩ := putFN X10 hx hZ hown (hU 21 _ rfl) Via.refl e10 f10_F_withItems_a1 f10_E_a1 (Or.inr ⟨(hU 22 _ rfl), rfl, hnm⟩) (hU 10 _ rfl) (ty := .boolean) (v' := (.int 1)) (by decide) rfl rfl (g := (mkF m 18 #[rv a1, iv 1] [(.int 1), (.ref a1)])) rfl rfl (hb hby d3_18)
 have fw13 : Fld Z h13 a1 sN1 "withItems" "Z" (.int 1) := f10_F_withItems_a1.same W13
 have f13_E_a1 := f10_E_a1.wr W13
 have f13_F_chunks_a1 := f10_F_chunks_a1.other W13 (Or.inr (slot_ne (Or.inl (hU 41 _ rfl)) (Or.inr (hU 22 _ rfl)) (by decide) (t := (.array (.object sN0))) (t' := .boolean) (by decide) (by decide)))
 have f13_F_firsts_a1 := f10_F_firsts_a1.other W13 (Or.inr (slot_ne (Or.inl (hU 18 _ rfl)) (Or.inr (hU 22 _ rfl)) (by decide) (t := (.array .int)) (t' := .boolean) (by decide) (by decide)))
 have f13_F_chunkCount_a1 := fw10.other W13 (Or.inr (slot_ne (Or.inl (hU 20 _ rfl)) (Or.inr (hU 22 _ rfl)) (by decide) (t := .int) (t' := .boolean) (by decide) (by decide)))
 have f13_A_b5 := f10_A_b5.other W13 (Ne.symm ne_a1_b5)
 have z13 : n0 ≤ h13.size := by rw [W13.size]; exact z10
 have K13 : Keep h0 h13 [a1] := K10.wr W13 (Or.inl (List.mem_of_getElem? (i := 0) rfl))
 have N13 := Fr.snoc X13 N10 g_a1
 have R14 := fun t k => R12 t (st13 t k)
 have R15 : own_R p e below T13 (mkF m 23 #[rv a1, iv 1] [(.int 1), (.ref a1)]) s₁ f0 := fun t k => R14 t (by
  refine XS.aloadN X13.here hx rfl (hb hby d3_21) rfl rfl ?_
  refine XS.iconst X13.here hx rfl (hb hby d3_22) ?_
  exact k)
 obtain ⟨T16, h16, k16, X16, e16, E16, A16, O16, st16⟩ := newR X13 hx hZ hown (hU 23 _ rfl) (hU 24 _ rfl) e13 (g := (mkF m 23 #[rv a1, iv 1] [(.int 1), (.ref a1)])) rfl (hb hby d3_23) rfl (by decide) (cap := 1) (by decide) (by decide) (by decide) (by decide)
 obtain ⟨b16, g16⟩ : ∃ z, z = h13.size := ⟨_, rfl⟩
 rw [← g16] at A16 st16
 have g_b16 : n0 ≤ b16 := Nat.le_trans z13 (Nat.le_of_eq g16.symm)
 have sz_b16 : h0.size ≤ b16 := Nat.le_trans K13.1 (Nat.le_of_eq g16.symm)
 have ne_a1_b16 : a1 ≠ b16 := Nat.ne_of_lt (Nat.lt_of_lt_of_le f13_E_a1.lt (Nat.le_of_eq g16.symm))
 have ne_b5_b16 : b5 ≠ b16 := Nat.ne_of_lt (Nat.lt_of_lt_of_le f13_A_b5.lt (Nat.le_of_eq g16.symm))
 have f16_E_a1 := f13_E_a1.ext E16
 have f16_F_withItems_a1 := fw13.ext E16
 have f16_F_chunks_a1 := f13_F_chunks_a1.ext E16
 have f16_F_firsts_a1 := f13_F_firsts_a1.ext E16
 have f16_F_chunkCount_a1 := f13_F_chunkCount_a1.ext E16
 have f16_A_b5 := f13_A_b5.ext E16
 have z16 : n0 ≤ h16.size := Nat.le_trans z13 E16.1
 have K16 : Keep h0 h16 [a1] := K13.ext E16
 have v16 : Arv Z h16 b16 k16 (.object sN0) (1 : Int32) [.null] .null := (Arv.new A16 (by decide)).pad (pad_rep [] .null 1)
 have R17 := fun t k => R15 t (st16 t k)
 have R18 : own_R p e below T16 (mkF m 28 #[rv a1, iv 1] [(.int 0), (.ref b16), (.ref b16), (.ref a1)]) s₁ f0 := fun t k => R17 t (by
  refine XS.dup X16.here hx rfl (hb hby d3_26) rfl rfl ?_
  refine XS.iconst X16.here hx rfl (hb hby d3_27) ?_
  exact k)
 obtain ⟨T19, h19, X19, e19, E19, A19, D19, -, st19⟩ := newO X16 hx hZ hown (hU 23 _ rfl) (hU 25 _ rfl) (hU 26 _ rfl) e16 (g := (mkF m 28 #[rv a1, iv 1] [(.int 0), (.ref b16), (.ref b16), (.ref a1)])) rfl (hb hby d3_28) (by decide) (by decide)
 obtain ⟨b19, g19⟩ : ∃ z, z = h16.size := ⟨_, rfl⟩
 rw [← g19] at A19 D19 st19
 have g_b19 : n0 ≤ b19 := Nat.le_trans z16 (Nat.le_of_eq g19.symm)
 have sz_b19 : h0.size ≤ b19 := Nat.le_trans K16.1 (Nat.le_of_eq g19.symm)
 have ne_a1_b19 : a1 ≠ b19 := Nat.ne_of_lt (Nat.lt_of_lt_of_le f16_E_a1.lt (Nat.le_of_eq g19.symm))
 have ne_b5_b19 : b5 ≠ b19 := Nat.ne_of_lt (Nat.lt_of_lt_of_le f16_A_b5.lt (Nat.le_of_eq g19.symm))
 have ne_b16_b19 : b16 ≠ b19 := Nat.ne_of_lt (Nat.lt_of_lt_of_le v16.lt (Nat.le_of_eq g19.symm))
 have f19_E_a1 := f16_E_a1.ext E19
 have f19_F_withItems_a1 := f16_F_withItems_a1.ext E19
 have f19_F_chunks_a1 := f16_F_chunks_a1.ext E19
 have f19_F_firsts_a1 := f16_F_firsts_a1.ext E19
 have f19_F_chunkCount_a1 := f16_F_chunkCount_a1.ext E19
 have f19_A_b5 := f16_A_b5.ext E19
 have f19_A_b16 := v16.ext E19
 have z19 : n0 ≤ h19.size := Nat.le_trans z16 E19.1
 have K19 : Keep h0 h19 [a1] := K16.ext E19
 have d19_starts : Fld Z h19 b19 sN0 "starts" "[I" .null := D19 (Or.inr (hU 32 _ rfl)) (ty := (.array .int)) (by decide)
 have d19_ends : Fld Z h19 b19 sN0 "ends" "[I" .null := D19 (Or.inr (hU 34 _ rfl)) (ty := (.array .int)) (by decide)
 have d19_items : Fld Z h19 b19 sN0 "items" "[Ljava/lang/Object;" .null := D19 (Or.inr (hU 38 _ rfl)) (ty := (.array (.object "java/lang/Object"))) (by decide)
 have d19_size : Fld Z h19 b19 sN0 "size" "I" (.int 0) := D19 (Or.inl (hU 64 _ rfl)) (ty := .int) (by decide)
 have R20 := fun t k => R18 t (st19 t k)
 have R21 : own_R p e below T19 (mkF m 33 #[rv a1, iv 1] [(.int 1), (.ref b19), (.ref b19), (.int 0), (.ref b16), (.ref b16), (.ref a1)]) s₁ f0 := fun t k => R20 t (by
  refine XS.dup X19.here hx rfl (hb hby d3_31) rfl rfl ?_
  refine XS.iloadN X19.here hx rfl (hb hby d3_32) rfl ?_
  exact k)
 obtain ⟨_, _, ⟨T22, L22, k22, n22⟩, -, X22, ⟨Lc22, hQ22, l22, y22, z22⟩, st22⟩ := X19.specialBack hx (y := yN8) rfl hown (mvT hZ (hU 27 _ rfl)) (mvT hZ (hU 28 _ rfl)) (mvT hZ (hU 29 _ rfl)) (by decide) (backOf (W := 5) (rmChunk1 l Z a0 hw [] b19 .null .null .null h19 n0 z19 A19 d19_starts d19_ends d19_items d19_size g_b19) hZ (hU 29 _ rfl) (hU 26 _ rfl) (by decide) (by decide)) (g := (mkF m 33 #[rv a1, iv 1] [(.int 1), (.ref b19), (.ref b19), (.int 0), (.ref b16), (.ref b16), (.ref a1)])) rfl (by rw [hml]; rfl) (Steps.refl _) (a := b19) (argsL := [(.int 1)]) (rest := [(.ref b19), (.int 0), (.ref b16), (.ref b16), (.ref a1)]) (lenOf pd_2 rfl) rfl (Nat.le_of_eq rfl) (hb hby d3_33) (fun _ _ => ⟨rfl, e19, (by decide : 3 + 3 ≤ _), (by decide : 6 + 768 ≤ _)⟩)
 dsimp only [Pt.U, Pt.locs, Pt.cells, Pt.slots] at X22 l22 y22 z22 st22 hQ22
 subst l22 y22 z22
 obtain ⟨sa_22, kst_22, en_22, ken_22, it_22, kit_22, rfl, N22q, p22_0, p22_1, p22_2, p22_3, p22_4, p22_5, p22_6, p22_7, p22_8, p22_9, p22_10, p22_11, p22_12, p22_13, p22_14⟩ := hQ22
 have N22 := Fr.app N13 N22q
 have f22_E_a1 := f19_E_a1.keep p22_0
 have f22_F_withItems_a1 := f19_F_withItems_a1.keep p22_0 (ninS ne_a1_b19 nin0)
 have f22_F_chunks_a1 := f19_F_chunks_a1.keep p22_0 (ninS ne_a1_b19 nin0)
 have f22_F_firsts_a1 := f19_F_firsts_a1.keep p22_0 (ninS ne_a1_b19 nin0)
 have f22_F_chunkCount_a1 := f19_F_chunkCount_a1.keep p22_0 (ninS ne_a1_b19 nin0)
 have f22_A_b5 := f19_A_b5.keep p22_0 (ninS ne_b5_b19 nin0)
 have f22_A_b16 := f19_A_b16.keep p22_0 (ninS ne_b16_b19 nin0)
 have f22_E_b19 := A19.keep p22_0
 have z22 : n0 ≤ T22.heap.size := Nat.le_trans z19 p22_0.1
 have K22 : Keep h0 T22.heap [a1] := K19.trans p22_0 (allS (Or.inr sz_b19) all0)
 have g_sa_22 : n0 ≤ sa_22 := Nat.le_trans z19 p22_6
 have sz_sa_22 : h0.size ≤ sa_22 := Nat.le_trans K19.1 p22_6
 have ne_a1_sa_22 : a1 ≠ sa_22 := Nat.ne_of_lt (Nat.lt_of_lt_of_le f19_F_withItems_a1.lt p22_6)
 have ne_b5_sa_22 : b5 ≠ sa_22 := Nat.ne_of_lt (Nat.lt_of_lt_of_le f19_A_b5.lt p22_6)
 have ne_b16_sa_22 : b16 ≠ sa_22 := Nat.ne_of_lt (Nat.lt_of_lt_of_le f19_A_b16.lt p22_6)
 have ne_b19_sa_22 : b19 ≠ sa_22 := Nat.ne_of_lt (Nat.lt_of_lt_of_le d19_starts.lt p22_6)
 have g_en_22 : n0 ≤ en_22 := Nat.le_trans z19 p22_9
 have sz_en_22 : h0.size ≤ en_22 := Nat.le_trans K19.1 p22_9
 have ne_a1_en_22 : a1 ≠ en_22 := Nat.ne_of_lt (Nat.lt_of_lt_of_le f19_F_withItems_a1.lt p22_9)
 have ne_b5_en_22 : b5 ≠ en_22 := Nat.ne_of_lt (Nat.lt_of_lt_of_le f19_A_b5.lt p22_9)
 have ne_b16_en_22 : b16 ≠ en_22 := Nat.ne_of_lt (Nat.lt_of_lt_of_le f19_A_b16.lt p22_9)
 have ne_b19_en_22 : b19 ≠ en_22 := Nat.ne_of_lt (Nat.lt_of_lt_of_le d19_starts.lt p22_9)
 have g_it_22 : n0 ≤ it_22 := Nat.le_trans z19 p22_10
 have sz_it_22 : h0.size ≤ it_22 := Nat.le_trans K19.1 p22_10
 have ne_a1_it_22 : a1 ≠ it_22 := Nat.ne_of_lt (Nat.lt_of_lt_of_le f19_F_withItems_a1.lt p22_10)
 have ne_b5_it_22 : b5 ≠ it_22 := Nat.ne_of_lt (Nat.lt_of_lt_of_le f19_A_b5.lt p22_10)
 have ne_b16_it_22 : b16 ≠ it_22 := Nat.ne_of_lt (Nat.lt_of_lt_of_le f19_A_b16.lt p22_10)
 have ne_b19_it_22 : b19 ≠ it_22 := Nat.ne_of_lt (Nat.lt_of_lt_of_le d19_starts.lt p22_10)
 have R23 := fun t k => R21 t (st22.trans k)
 obtain ⟨cl24, Ar24, q24, S24, n24_, H24, G24⟩ := id f22_A_b16
 have hin24 : ¬ ((0 : Int32) < 0 ∨ cl24.slots.size ≤ ((0 : Int32)).toNatClampNeg) := inb_of S24 ⟨by decide, by decide⟩
 obtain ⟨T24, h24, X24, e24, W24, st24⟩ := stR X22 hx hZ rfl Ar24 (j := (0 : Int32)) hin24 rfl (Sto.ofV Ar24 q24 O16 (Ins.self f22_E_b19)) (g := (mkF m 36 #[rv a1, iv 1] [(.ref b19), (.int 0), (.ref b16), (.ref b16), (.ref a1)])) rfl rfl (hb hby d3_36)
 have f24_E_a1 := f22_E_a1.wr W24
 have f24_F_withItems_a1 := f22_F_withItems_a1.other W24 (Or.inl ne_a1_b16)
 have f24_F_chunks_a1 := f22_F_chunks_a1.other W24 (Or.inl ne_a1_b16)
 have f24_F_firsts_a1 := f22_F_firsts_a1.other W24 (Or.inl ne_a1_b16)
 have f24_F_chunkCount_a1 := f22_F_chunkCount_a1.other W24 (Or.inl ne_a1_b16)
 have f24_A_b5 := f22_A_b5.other W24 ne_b5_b16
 have f24_E_b19 := f22_E_b19.wr W24
 have f24_F_starts_b19 := p22_1.other W24 (Or.inl (Ne.symm ne_b16_b19))
 have f24_F_ends_b19 := p22_2.other W24 (Or.inl (Ne.symm ne_b16_b19))
 have f24_F_items_b19 := p22_3.other W24 (Or.inl (Ne.symm ne_b16_b19))
 have f24_F_size_b19 := p22_4.other W24 (Or.inl (Ne.symm ne_b16_b19))
 have f24_A_sa_22 := p22_5.other W24 (Ne.symm ne_b16_sa_22)
 have f24_A_en_22 := p22_7.other W24 (Ne.symm ne_b16_en_22)
 have f24_A_it_22 := p22_8.other W24 (Ne.symm ne_b16_it_22)
 have z24 : n0 ≤ h24.size := by rw [W24.size]; exact z22
 have K24 : Keep h0 h24 [a1] := K22.wr W24 (Or.inr sz_b16)
 have v24 : Arv Z h24 b16 k16 (.object sN0) (1 : Int32) [(.ref b19)] .null := Arv.set Ar24 q24 S24 n24_ H24 G24 rfl W24 0 rfl (Nat.le_of_ble_eq_true rfl)
 have N24 := Fr.snoc X24 N22 g_b16
 have R25 := fun t k => R23 t (st24 t k)
 obtain ⟨T26, h26, X26, e26, W26, st26⟩ := putF X24 hx hZ hown (host := "") (Or.inl (hU 40 _ rfl)) Via.refl e24 f24_F_chunks_a1 f24_E_a1 (Or.inl (hU 41 _ rfl)) (hU 10 _ rfl) (ty := (.array (.object sN0))) (by decide) rfl rfl (g := (mkF m 37 #[rv a1, iv 1] [(.ref b16), (.ref a1)])) rfl rfl (hb hby d3_37)
 have fw26 : Fld Z h26 a1 sN1 "chunks" sN2 (.ref b16) := f24_F_chunks_a1.same W26
 have f26_E_a1 := f24_E_a1.wr W26
 have f26_F_withItems_a1 := f24_F_withItems_a1.other W26 (Or.inr (slot_ne (Or.inr (hU 22 _ rfl)) (Or.inl (hU 41 _ rfl)) (by decide) (t := .boolean) (t' := (.array (.object sN0))) (by decide) (by decide)))
 have f26_F_firsts_a1 := f24_F_firsts_a1.other W26 (Or.inr (slot_ne (Or.inl (hU 18 _ rfl)) (Or.inl (hU 41 _ rfl)) (by decide) (t := (.array .int)) (t' := (.array (.object sN0))) (by decide) (by decide)))
 have f26_F_chunkCount_a1 := f24_F_chunkCount_a1.other W26 (Or.inr (slot_ne (Or.inl (hU 20 _ rfl)) (Or.inl (hU 41 _ rfl)) (by decide) (t := .int) (t' := (.array (.object sN0))) (by decide) (by decide)))
 have f26_A_b5 := f24_A_b5.other W26 (Ne.symm ne_a1_b5)
 have f26_A_b16 := v24.other W26 (Ne.symm ne_a1_b16)
 have f26_E_b19 := f24_E_b19.wr W26
 have f26_F_starts_b19 := f24_F_starts_b19.other W26 (Or.inl (Ne.symm ne_a1_b19))
 have f26_F_ends_b19 := f24_F_ends_b19.other W26 (Or.inl (Ne.symm ne_a1_b19))
 have f26_F_items_b19 := f24_F_items_b19.other W26 (Or.inl (Ne.symm ne_a1_b19))
 have f26_F_size_b19 := f24_F_size_b19.other W26 (Or.inl (Ne.symm ne_a1_b19))
 have f26_A_sa_22 := f24_A_sa_22.other W26 (Ne.symm ne_a1_sa_22)
 have f26_A_en_22 := f24_A_en_22.other W26 (Ne.symm ne_a1_en_22)
 have f26_A_it_22 := f24_A_it_22.other W26 (Ne.symm ne_a1_it_22)
 have z26 : n0 ≤ h26.size := by rw [W26.size]; exact z24
 have K26 : Keep h0 h26 [a1] := K24.wr W26 (Or.inl (List.mem_of_getElem? (i := 0) rfl))
 have N26 := Fr.snoc X26 N24 g_a1
 have R27 := fun t k => R25 t (st26 t k)
 obtain ⟨fs, hr, hrun, hended, hW, hsame⟩ := X26.leave (v := none) (fun _ => rfl)
 refine ⟨_, _, pre0 _ (R27 _ ?_), hrun, hended, _, _, rfl, ?_, ⟨_, rfl⟩, hW, hsame.mono (by decide) (by decide)⟩
 ·
  show own_S p e below T26 (mkF m 40 #[rv a1, iv 1] []) _
  exact X26.returnOut hx Bd.returns (hb hby d3_40) hr
 ·
  show Q_rmOffs1 Z a1 u1 u2 u3 u4 h0 n0 _ T26.heap _
  rw [e26]
  exact ⟨b5, k5, b16, k16, b19, sa_22, kst_22, en_22, ken_22, it_22, kit_22, rfl, N26, K26, f26_F_withItems_a1, fw26, f26_F_firsts_a1, f26_F_chunkCount_a1, f26_A_b5, f26_A_b16, f26_E_b19, f26_F_starts_b19, f26_F_ends_b19, f26_F_items_b19, f26_F_size_b19, f26_A_sa_22, f26_A_en_22, f26_A_it_22, p22_14, sz_b5, sz_b16, sz_sa_22, sz_en_22, sz_it_22, sz_b19, ne_b5_b16, ne_b5_sa_22, ne_b5_en_22, ne_b5_it_22, ne_b16_sa_22, ne_b16_en_22, ne_b16_it_22, p22_11, p22_12, p22_13⟩
theorem ef_rmOffs0 (m : MethodId) (x0 : Addr) (x1 : Int32) : entryFrame m #[(.ref x0), (.int x1)] 2 = mkF m 0 #[rv x0, iv x1] [] := by first | (simp [entryFrame, mkF, argsToLocals, Value.category]; done) | rfl
def Q_rmOffs0 (Z : State) (a1 : Addr) (u1 : Value) (u2 : Value) (u3 : Value) (u4 : Value) (h0 : Heap) (n0 : Nat) (v : Option Value) (h : Heap) (L : List Loc) : Prop := ∃ fi : Addr, ∃ kfi : ClassId, ∃ ck : Addr, ∃ kck : ClassId, ∃ kk : Addr, ∃ sa : Addr, ∃ kst : ClassId, v = none ∧ Fr n0 L ∧ Keep h0 h [a1] ∧ (Fld Z h a1 sN1 "withItems" "Z" (.int 0)) ∧ (Fld Z h a1 sN1 "chunks" sN2 (.ref ck)) ∧ (Fld Z h a1 sN1 "firsts" "[I" (.ref fi)) ∧ (Fld Z h a1 sN1 "chunkCount" "I" (.int 1)) ∧ (Arv Z h fi kfi .int 1 [(.int 0)] (.int 0)) ∧ (Arv Z h ck kck (.object sN0) (1 : Int32) [(.ref kk)] .null) ∧ (Exa Z h kk sN0) ∧ (Fld Z h kk sN0 "starts" "[I" (.ref sa)) ∧ (Fld Z h kk sN0 "ends" "[I" .null) ∧ (Fld Z h kk sN0 "items" "[Ljava/lang/Object;" .null) ∧ (Fld Z h kk sN0 "size" "I" (.int 0)) ∧ (Arv Z h sa kst .int 256 [(.int 0), (.int 0), (.int 0)] (.int 0)) ∧ (h0.size ≤ fi) ∧ (h0.size ≤ ck) ∧ (h0.size ≤ sa) ∧ (h0.size ≤ kk) ∧ (fi ≠ ck) ∧ (fi ≠ sa) ∧ (ck ≠ sa)
set_option maxRecDepth 65536 in
set_option maxHeartbeats 40000000 in
theorem rmOffs0 (l : Launch) (Z : State) (a0 : Array Value) (hw : ∀ d ∈ tables_1, d.before a0 Z = true) (ws : List Jvm.Cond) (a1 : Addr) (u1 : Value) (u2 : Value) (u3 : Value) (u4 : Value) (h0 : Heap) (n0 : Nat) (Z0 : n0 ≤ h0.size) (E_a1 : Exa Z h0 a1 sN1) (F_withItems_a1 : Fld Z h0 a1 sN1 "withItems" "Z" u1) (F_chunks_a1 : Fld Z h0 a1 sN1 "chunks" sN2 u2) (F_firsts_a1 : Fld Z h0 a1 sN1 "firsts" "[I" u3) (F_chunkCount_a1 : Fld Z h0 a1 sN1 "chunkCount" "I" u4) (g_a1 : n0 ≤ a1) :
  own_M l yN9 (Jvm.Cond.code yN9 prog_118_method_1_code 2 none :: ws) ({ frames := 2, cells := 4, slots := 262, locals := 30 } : Room) #[(.ref a1), (.int 0)] Z h0 (Q_rmOffs0 Z a1 u1 u2 u3 u4 h0 n0) := by
 refine MetFree.of_bodySF (plainFor_of_name pn_1) hisR ?_
 intro p e s m args below meth c s₁ Bd hml0 hP hK
 obtain ⟨rfl, hZ, hh⟩ := hP
 have hx := Bd.exec
 have hby := Bd.bytes
 have hml : c.maxLocals = 2 := hml0
 have hown : s.vm.findClass sN1 = some m.cls := findClass_of_methodNamed Bd.named
 have hnm := (name_of_methodNamed Bd.named Bd.method).1
 have X0 : Stand p l e ({ frames := 2, cells := 4, slots := 262, locals := 30 } : Room) s m #[(.ref a1), (.int 0)] below meth c s₁ [] 0 0 := Stand.of_body Bd
 have hU : ∀ (i : Nat) (d : Jvm.Cond), tables_1[i]? = some d → d.before a0 Z = true := fun i d h => hw d (List.mem_of_getElem? h)
 have e0 : s₁.heap = h0 := by rw [← hh, Bd.state]; rfl
 have N0 := Fr.nil n0
 obtain ⟨f0, hf0⟩ : ∃ f : JFrame, f = mkF m 0 #[rv a1, iv 0] [] := ⟨_, rfl⟩
 have pre0 : ∀ t, own_S p e below s₁ f0 t → Steps p.tables e below (s₁.setTop (entryFrame m #[(.ref a1), (.int 0)] 2)) t := fun t k => castTop ((ef_rmOffs0 m a1 (0 : Int32)).trans hf0.symm) k
 have R0 : own_R p e below s₁ (mkF m 0 #[rv a1, iv 0] []) s₁ f0 := by rw [hf0]; exact fun t k => k
 have R1 : own_R p e below s₁ (mkF m 1 #[rv a1, iv 0] [(.ref a1)]) s₁ f0 := fun t k => R0 t (by
  refine XS.aloadN X0.here hx rfl (hb hby d3_0) rfl rfl ?_
  exact k)
 obtain ⟨T2, X2, e2, st2⟩ := initO X0 hx hZ hown (hU 15 _ rfl) (hU 7 _ rfl) (hU 8 _ rfl) e0 (g := (mkF m 1 #[rv a1, iv 0] [(.ref a1)])) rfl (by rw [hml]; rfl) rfl (hb hby d3_1) (by decide) (W := 0) (Nat.le_of_eq rfl) (by decide)
 have R3 := fun t k => R1 t (st2 t k)
 have R4 : own_R p e below T2 (mkF m 6 #[rv a1, iv 0] [(.int 1), (.ref a1)]) s₁ f0 := fun t k => R3 t (by
  refine XS.aloadN X2.here hx rfl (hb hby d3_4) rfl rfl ?_
  refine XS.iconst X2.here hx rfl (hb hby d3_5) ?_
  exact k)
 obtain ⟨T5, h5, k5, X5, e5, E5, A5, st5⟩ := newP X2 hx hZ (hU 16 _ rfl) e2 (g := (mkF m 6 #[rv a1, iv 0] [(.int 1), (.ref a1)])) rfl (hb hby d3_6) rfl (by decide) (cap := 1) (by decide) (by decide) (by decide) (by decide)
 obtain ⟨b5, g5⟩ : ∃ z, z = h0.size := ⟨_, rfl⟩
 rw [← g5] at A5 st5
 have g_b5 : n0 ≤ b5 := Nat.le_trans Z0 (Nat.le_of_eq g5.symm)
 have sz_b5 : h0.size ≤ b5 := Nat.le_trans (Keep.refl h0 [a1]).1 (Nat.le_of_eq g5.symm)
 have ne_a1_b5 : a1 ≠ b5 := Nat.ne_of_lt (Nat.lt_of_lt_of_le E_a1.lt (Nat.le_of_eq g5.symm))
 have f5_E_a1 := E_a1.ext E5
 have f5_F_withItems_a1 := F_withItems_a1.ext E5
 have f5_F_chunks_a1 := F_chunks_a1.ext E5
 have f5_F_firsts_a1 := F_firsts_a1.ext E5
 have f5_F_chunkCount_a1 := F_chunkCount_a1.ext E5
 have z5 : n0 ≤ h5.size := Nat.le_trans Z0 E5.1
 have K5 : Keep h0 h5 [a1] := (Keep.refl h0 [a1]).ext E5
 have v5 : Arv Z h5 b5 k5 .int 1 [(.int 0)] (.int 0) := (Arv.new A5 (by decide)).pad (pad_rep [] (.int 0) 1)
 have R6 := fun t k => R4 t (st5 t k)
 obtain ⟨T7, h7, X7, e7, W7, st7⟩ := putF X5 hx hZ hown (host := "") (Or.inl (hU 17 _ rfl)) Via.refl e5 f5_F_firsts_a1 f5_E_a1 (Or.inl (hU 18 _ rfl)) (hU 10 _ rfl) (ty := (.array .int)) (by decide) rfl rfl (g := (mkF m 8 #[rv a1, iv 0] [(.ref b5), (.ref a1)])) rfl rfl (hb hby d3_8)
 have fw7 : Fld Z h7 a1 sN1 "firsts" "[I" (.ref b5) := f5_F_firsts_a1.same W7
 have f7_E_a1 := f5_E_a1.wr W7
 have f7_F_withItems_a1 := f5_F_withItems_a1.other W7 (Or.inr (slot_ne (Or.inr (hU 22 _ rfl)) (Or.inl (hU 18 _ rfl)) (by decide) (t := .boolean) (t' := (.array .int)) (by decide) (by decide)))
 have f7_F_chunks_a1 := f5_F_chunks_a1.other W7 (Or.inr (slot_ne (Or.inl (hU 41 _ rfl)) (Or.inl (hU 18 _ rfl)) (by decide) (t := (.array (.object sN0))) (t' := (.array .int)) (by decide) (by decide)))
 have f7_F_chunkCount_a1 := f5_F_chunkCount_a1.other W7 (Or.inr (slot_ne (Or.inl (hU 20 _ rfl)) (Or.inl (hU 18 _ rfl)) (by decide) (t := .int) (t' := (.array .int)) (by decide) (by decide)))
 have f7_A_b5 := v5.other W7 (Ne.symm ne_a1_b5)
 have z7 : n0 ≤ h7.size := by rw [W7.size]; exact z5
 have K7 : Keep h0 h7 [a1] := K5.wr W7 (Or.inl (List.mem_of_getElem? (i := 0) rfl))
 have N7 := Fr.snoc X7 N0 g_a1
 have R8 := fun t k => R6 t (st7 t k)
 have R9 : own_R p e below T7 (mkF m 13 #[rv a1, iv 0] [(.int 1), (.ref a1)]) s₁ f0 := fun t k => R8 t (by
  refine XS.aloadN X7.here hx rfl (hb hby d3_11) rfl rfl ?_
  refine XS.iconst X7.here hx rfl (hb hby d3_12) ?_
  exact k)
 obtain ⟨T10, h10, X10, e10, W10, st10⟩ := putF X7 hx hZ hown (host := "") (Or.inl (hU 19 _ rfl)) Via.refl e7 f7_F_chunkCount_a1 f7_E_a1 (Or.inl (hU 20 _ rfl)) (hU 10 _ rfl) (ty := .int) (by decide) rfl rfl (g := (mkF m 13 #[rv a1, iv 0] [(.int 1), (.ref a1)])) rfl rfl (hb hby d3_13)
 have fw10 : Fld Z h10 a1 sN1 "chunkCount" "I" (.int 1) := f7_F_chunkCount_a1.same W10
 have f10_E_a1 := f7_E_a1.wr W10
 have f10_F_withItems_a1 := f7_F_withItems_a1.other W10 (Or.inr (slot_ne (Or.inr (hU 22 _ rfl)) (Or.inl (hU 20 _ rfl)) (by decide) (t := .boolean) (t' := .int) (by decide) (by decide)))
 have f10_F_chunks_a1 := f7_F_chunks_a1.other W10 (Or.inr (slot_ne (Or.inl (hU 41 _ rfl)) (Or.inl (hU 20 _ rfl)) (by decide) (t := (.array (.object sN0))) (t' := .int) (by decide) (by decide)))
 have f10_F_firsts_a1 := fw7.other W10 (Or.inr (slot_ne (Or.inl (hU 18 _ rfl)) (Or.inl (hU 20 _ rfl)) (by decide) (t := (.array .int)) (t' := .int) (by decide) (by decide)))
 have f10_A_b5 := f7_A_b5.other W10 (Ne.symm ne_a1_b5)
 have z10 : n0 ≤ h10.size := by rw [W10.size]; exact z7
 have K10 : Keep h0 h10 [a1] := K7.wr W10 (Or.inl (List.mem_of_getElem? (i := 0) rfl))
 have N10 := Fr.snoc X10 N7 g_a1
 have R11 := fun t k => R9 t (st10 t k)
 have R12 : own_R p e below T10 (mkF m 18 #[rv a1, iv 0] [(.int 0), (.ref a1)]) s₁ f0 := fun t k => R11 t (by
  refine XS.aloadN X10.here hx rfl (hb hby d3_16) rfl rfl ?_
  refine XS.iloadN X10.here hx rfl (hb hby d3_17) rfl ?_
  exact k)
 obtain ⟨T13, h13, X13, e13, W13, st13⟩ := putFN X10 hx hZ hown (hU 21 _ rfl) Via.refl e10 f10_F_withItems_a1 f10_E_a1 (Or.inr ⟨(hU 22 _ rfl), rfl, hnm⟩) (hU 10 _ rfl) (ty := .boolean) (v' := (.int 0)) (by decide) rfl rfl (g := (mkF m 18 #[rv a1, iv 0] [(.int 0), (.ref a1)])) rfl rfl (hb hby d3_18)
 have fw13 : Fld Z h13 a1 sN1 "withItems" "Z" (.int 0) := f10_F_withItems_a1.same W13
 have f13_E_a1 := f10_E_a1.wr W13
 have f13_F_chunks_a1 := f10_F_chunks_a1.other W13 (Or.inr (slot_ne (Or.inl (hU 41 _ rfl)) (Or.inr (hU 22 _ rfl)) (by decide) (t := (.array (.object sN0))) (t' := .boolean) (by decide) (by decide)))
 have f13_F_firsts_a1 := f10_F_firsts_a1.other W13 (Or.inr (slot_ne (Or.inl (hU 18 _ rfl)) (Or.inr (hU 22 _ rfl)) (by decide) (t := (.array .int)) (t' := .boolean) (by decide) (by decide)))
 have f13_F_chunkCount_a1 := fw10.other W13 (Or.inr (slot_ne (Or.inl (hU 20 _ rfl)) (Or.inr (hU 22 _ rfl)) (by decide) (t := .int) (t' := .boolean) (by decide) (by decide)))
 have f13_A_b5 := f10_A_b5.other W13 (Ne.symm ne_a1_b5)
 have z13 : n0 ≤ h13.size := by rw [W13.size]; exact z10
 have K13 : Keep h0 h13 [a1] := K10.wr W13 (Or.inl (List.mem_of_getElem? (i := 0) rfl))
 have N13 := Fr.snoc X13 N10 g_a1
 have R14 := fun t k => R12 t (st13 t k)
 have R15 : own_R p e below T13 (mkF m 23 #[rv a1, iv 0] [(.int 1), (.ref a1)]) s₁ f0 := fun t k => R14 t (by
  refine XS.aloadN X13.here hx rfl (hb hby d3_21) rfl rfl ?_
  refine XS.iconst X13.here hx rfl (hb hby d3_22) ?_
  exact k)
 obtain ⟨T16, h16, k16, X16, e16, E16, A16, O16, st16⟩ := newR X13 hx hZ hown (hU 23 _ rfl) (hU 24 _ rfl) e13 (g := (mkF m 23 #[rv a1, iv 0] [(.int 1), (.ref a1)])) rfl (hb hby d3_23) rfl (by decide) (cap := 1) (by decide) (by decide) (by decide) (by decide)
 obtain ⟨b16, g16⟩ : ∃ z, z = h13.size := ⟨_, rfl⟩
 rw [← g16] at A16 st16
 have g_b16 : n0 ≤ b16 := Nat.le_trans z13 (Nat.le_of_eq g16.symm)
 have sz_b16 : h0.size ≤ b16 := Nat.le_trans K13.1 (Nat.le_of_eq g16.symm)
 have ne_a1_b16 : a1 ≠ b16 := Nat.ne_of_lt (Nat.lt_of_lt_of_le f13_E_a1.lt (Nat.le_of_eq g16.symm))
 have ne_b5_b16 : b5 ≠ b16 := Nat.ne_of_lt (Nat.lt_of_lt_of_le f13_A_b5.lt (Nat.le_of_eq g16.symm))
 have f16_E_a1 := f13_E_a1.ext E16
 have f16_F_withItems_a1 := fw13.ext E16
 have f16_F_chunks_a1 := f13_F_chunks_a1.ext E16
 have f16_F_firsts_a1 := f13_F_firsts_a1.ext E16
 have f16_F_chunkCount_a1 := f13_F_chunkCount_a1.ext E16
 have f16_A_b5 := f13_A_b5.ext E16
 have z16 : n0 ≤ h16.size := Nat.le_trans z13 E16.1
 have K16 : Keep h0 h16 [a1] := K13.ext E16
 have v16 : Arv Z h16 b16 k16 (.object sN0) (1 : Int32) [.null] .null := (Arv.new A16 (by decide)).pad (pad_rep [] .null 1)
 have R17 := fun t k => R15 t (st16 t k)
 have R18 : own_R p e below T16 (mkF m 28 #[rv a1, iv 0] [(.int 0), (.ref b16), (.ref b16), (.ref a1)]) s₁ f0 := fun t k => R17 t (by
  refine XS.dup X16.here hx rfl (hb hby d3_26) rfl rfl ?_
  refine XS.iconst X16.here hx rfl (hb hby d3_27) ?_
  exact k)
 obtain ⟨T19, h19, X19, e19, E19, A19, D19, -, st19⟩ := newO X16 hx hZ hown (hU 23 _ rfl) (hU 25 _ rfl) (hU 26 _ rfl) e16 (g := (mkF m 28 #[rv a1, iv 0] [(.int 0), (.ref b16), (.ref b16), (.ref a1)])) rfl (hb hby d3_28) (by decide) (by decide)
 obtain ⟨b19, g19⟩ : ∃ z, z = h16.size := ⟨_, rfl⟩
 rw [← g19] at A19 D19 st19
 have g_b19 : n0 ≤ b19 := Nat.le_trans z16 (Nat.le_of_eq g19.symm)
 have sz_b19 : h0.size ≤ b19 := Nat.le_trans K16.1 (Nat.le_of_eq g19.symm)
 have ne_a1_b19 : a1 ≠ b19 := Nat.ne_of_lt (Nat.lt_of_lt_of_le f16_E_a1.lt (Nat.le_of_eq g19.symm))
 have ne_b5_b19 : b5 ≠ b19 := Nat.ne_of_lt (Nat.lt_of_lt_of_le f16_A_b5.lt (Nat.le_of_eq g19.symm))
 have ne_b16_b19 : b16 ≠ b19 := Nat.ne_of_lt (Nat.lt_of_lt_of_le v16.lt (Nat.le_of_eq g19.symm))
 have f19_E_a1 := f16_E_a1.ext E19
 have f19_F_withItems_a1 := f16_F_withItems_a1.ext E19
 have f19_F_chunks_a1 := f16_F_chunks_a1.ext E19
 have f19_F_firsts_a1 := f16_F_firsts_a1.ext E19
 have f19_F_chunkCount_a1 := f16_F_chunkCount_a1.ext E19
 have f19_A_b5 := f16_A_b5.ext E19
 have f19_A_b16 := v16.ext E19
 have z19 : n0 ≤ h19.size := Nat.le_trans z16 E19.1
 have K19 : Keep h0 h19 [a1] := K16.ext E19
 have d19_starts : Fld Z h19 b19 sN0 "starts" "[I" .null := D19 (Or.inr (hU 32 _ rfl)) (ty := (.array .int)) (by decide)
 have d19_ends : Fld Z h19 b19 sN0 "ends" "[I" .null := D19 (Or.inr (hU 34 _ rfl)) (ty := (.array .int)) (by decide)
 have d19_items : Fld Z h19 b19 sN0 "items" "[Ljava/lang/Object;" .null := D19 (Or.inr (hU 38 _ rfl)) (ty := (.array (.object "java/lang/Object"))) (by decide)
 have d19_size : Fld Z h19 b19 sN0 "size" "I" (.int 0) := D19 (Or.inl (hU 64 _ rfl)) (ty := .int) (by decide)
 have R20 := fun t k => R18 t (st19 t k)
 have R21 : own_R p e below T19 (mkF m 33 #[rv a1, iv 0] [(.int 0), (.ref b19), (.ref b19), (.int 0), (.ref b16), (.ref b16), (.ref a1)]) s₁ f0 := fun t k => R20 t (by
  refine XS.dup X19.here hx rfl (hb hby d3_31) rfl rfl ?_
  refine XS.iloadN X19.here hx rfl (hb hby d3_32) rfl ?_
  exact k)
 obtain ⟨_, _, ⟨T22, L22, k22, n22⟩, -, X22, ⟨Lc22, hQ22, l22, y22, z22⟩, st22⟩ := X19.specialBack hx (y := yN8) rfl hown (mvT hZ (hU 27 _ rfl)) (mvT hZ (hU 28 _ rfl)) (mvT hZ (hU 29 _ rfl)) (by decide) (backOf (W := 5) (rmChunk0 l Z a0 hw [] b19 .null .null .null h19 n0 z19 A19 d19_starts d19_ends d19_items d19_size g_b19) hZ (hU 29 _ rfl) (hU 26 _ rfl) (by decide) (by decide)) (g := (mkF m 33 #[rv a1, iv 0] [(.int 0), (.ref b19), (.ref b19), (.int 0), (.ref b16), (.ref b16), (.ref a1)])) rfl (by rw [hml]; rfl) (Steps.refl _) (a := b19) (argsL := [(.int 0)]) (rest := [(.ref b19), (.int 0), (.ref b16), (.ref b16), (.ref a1)]) (lenOf pd_2 rfl) rfl (Nat.le_of_eq rfl) (hb hby d3_33) (fun _ _ => ⟨rfl, e19, (by decide : 3 + 1 ≤ _), (by decide : 6 + 256 ≤ _)⟩)
 dsimp only [Pt.U, Pt.locs, Pt.cells, Pt.slots] at X22 l22 y22 z22 st22 hQ22
 subst l22 y22 z22
 obtain ⟨sa_22, kst_22, rfl, N22q, p22_0, p22_1, p22_2, p22_3, p22_4, p22_5, p22_6⟩ := hQ22
 have N22 := Fr.app N13 N22q
 have f22_E_a1 := f19_E_a1.keep p22_0
 have f22_F_withItems_a1 := f19_F_withItems_a1.keep p22_0 (ninS ne_a1_b19 nin0)
 have f22_F_chunks_a1 := f19_F_chunks_a1.keep p22_0 (ninS ne_a1_b19 nin0)
 have f22_F_firsts_a1 := f19_F_firsts_a1.keep p22_0 (ninS ne_a1_b19 nin0)
 have f22_F_chunkCount_a1 := f19_F_chunkCount_a1.keep p22_0 (ninS ne_a1_b19 nin0)
 have f22_A_b5 := f19_A_b5.keep p22_0 (ninS ne_b5_b19 nin0)
 have f22_A_b16 := f19_A_b16.keep p22_0 (ninS ne_b16_b19 nin0)
 have f22_E_b19 := A19.keep p22_0
 have z22 : n0 ≤ T22.heap.size := Nat.le_trans z19 p22_0.1
 have K22 : Keep h0 T22.heap [a1] := K19.trans p22_0 (allS (Or.inr sz_b19) all0)
 have g_sa_22 : n0 ≤ sa_22 := Nat.le_trans z19 p22_6
 have sz_sa_22 : h0.size ≤ sa_22 := Nat.le_trans K19.1 p22_6
 have ne_a1_sa_22 : a1 ≠ sa_22 := Nat.ne_of_lt (Nat.lt_of_lt_of_le f19_F_withItems_a1.lt p22_6)
 have ne_b5_sa_22 : b5 ≠ sa_22 := Nat.ne_of_lt (Nat.lt_of_lt_of_le f19_A_b5.lt p22_6)
 have ne_b16_sa_22 : b16 ≠ sa_22 := Nat.ne_of_lt (Nat.lt_of_lt_of_le f19_A_b16.lt p22_6)
 have ne_b19_sa_22 : b19 ≠ sa_22 := Nat.ne_of_lt (Nat.lt_of_lt_of_le d19_starts.lt p22_6)
 have R23 := fun t k => R21 t (st22.trans k)
 obtain ⟨cl24, Ar24, q24, S24, n24_, H24, G24⟩ := id f22_A_b16
 have hin24 : ¬ ((0 : Int32) < 0 ∨ cl24.slots.size ≤ ((0 : Int32)).toNatClampNeg) := inb_of S24 ⟨by decide, by decide⟩
 obtain ⟨T24, h24, X24, e24, W24, st24⟩ := stR X22 hx hZ rfl Ar24 (j := (0 : Int32)) hin24 rfl (Sto.ofV Ar24 q24 O16 (Ins.self f22_E_b19)) (g := (mkF m 36 #[rv a1, iv 0] [(.ref b19), (.int 0), (.ref b16), (.ref b16), (.ref a1)])) rfl rfl (hb hby d3_36)
 have f24_E_a1 := f22_E_a1.wr W24
 have f24_F_withItems_a1 := f22_F_withItems_a1.other W24 (Or.inl ne_a1_b16)
 have f24_F_chunks_a1 := f22_F_chunks_a1.other W24 (Or.inl ne_a1_b16)
 have f24_F_firsts_a1 := f22_F_firsts_a1.other W24 (Or.inl ne_a1_b16)
 have f24_F_chunkCount_a1 := f22_F_chunkCount_a1.other W24 (Or.inl ne_a1_b16)
 have f24_A_b5 := f22_A_b5.other W24 ne_b5_b16
 have f24_E_b19 := f22_E_b19.wr W24
 have f24_F_starts_b19 := p22_1.other W24 (Or.inl (Ne.symm ne_b16_b19))
 have f24_F_ends_b19 := p22_2.other W24 (Or.inl (Ne.symm ne_b16_b19))
 have f24_F_items_b19 := p22_3.other W24 (Or.inl (Ne.symm ne_b16_b19))
 have f24_F_size_b19 := p22_4.other W24 (Or.inl (Ne.symm ne_b16_b19))
 have f24_A_sa_22 := p22_5.other W24 (Ne.symm ne_b16_sa_22)
 have z24 : n0 ≤ h24.size := by rw [W24.size]; exact z22
 have K24 : Keep h0 h24 [a1] := K22.wr W24 (Or.inr sz_b16)
 have v24 : Arv Z h24 b16 k16 (.object sN0) (1 : Int32) [(.ref b19)] .null := Arv.set Ar24 q24 S24 n24_ H24 G24 rfl W24 0 rfl (Nat.le_of_ble_eq_true rfl)
 have N24 := Fr.snoc X24 N22 g_b16
 have R25 := fun t k => R23 t (st24 t k)
 obtain ⟨T26, h26, X26, e26, W26, st26⟩ := putF X24 hx hZ hown (host := "") (Or.inl (hU 40 _ rfl)) Via.refl e24 f24_F_chunks_a1 f24_E_a1 (Or.inl (hU 41 _ rfl)) (hU 10 _ rfl) (ty := (.array (.object sN0))) (by decide) rfl rfl (g := (mkF m 37 #[rv a1, iv 0] [(.ref b16), (.ref a1)])) rfl rfl (hb hby d3_37)
 have fw26 : Fld Z h26 a1 sN1 "chunks" sN2 (.ref b16) := f24_F_chunks_a1.same W26
 have f26_E_a1 := f24_E_a1.wr W26
 have f26_F_withItems_a1 := f24_F_withItems_a1.other W26 (Or.inr (slot_ne (Or.inr (hU 22 _ rfl)) (Or.inl (hU 41 _ rfl)) (by decide) (t := .boolean) (t' := (.array (.object sN0))) (by decide) (by decide)))
 have f26_F_firsts_a1 := f24_F_firsts_a1.other W26 (Or.inr (slot_ne (Or.inl (hU 18 _ rfl)) (Or.inl (hU 41 _ rfl)) (by decide) (t := (.array .int)) (t' := (.array (.object sN0))) (by decide) (by decide)))
 have f26_F_chunkCount_a1 := f24_F_chunkCount_a1.other W26 (Or.inr (slot_ne (Or.inl (hU 20 _ rfl)) (Or.inl (hU 41 _ rfl)) (by decide) (t := .int) (t' := (.array (.object sN0))) (by decide) (by decide)))
 have f26_A_b5 := f24_A_b5.other W26 (Ne.symm ne_a1_b5)
 have f26_A_b16 := v24.other W26 (Ne.symm ne_a1_b16)
 have f26_E_b19 := f24_E_b19.wr W26
 have f26_F_starts_b19 := f24_F_starts_b19.other W26 (Or.inl (Ne.symm ne_a1_b19))
 have f26_F_ends_b19 := f24_F_ends_b19.other W26 (Or.inl (Ne.symm ne_a1_b19))
 have f26_F_items_b19 := f24_F_items_b19.other W26 (Or.inl (Ne.symm ne_a1_b19))
 have f26_F_size_b19 := f24_F_size_b19.other W26 (Or.inl (Ne.symm ne_a1_b19))
 have f26_A_sa_22 := f24_A_sa_22.other W26 (Ne.symm ne_a1_sa_22)
 have z26 : n0 ≤ h26.size := by rw [W26.size]; exact z24
 have K26 : Keep h0 h26 [a1] := K24.wr W26 (Or.inl (List.mem_of_getElem? (i := 0) rfl))
 have N26 := Fr.snoc X26 N24 g_a1
 have R27 := fun t k => R25 t (st26 t k)
 obtain ⟨fs, hr, hrun, hended, hW, hsame⟩ := X26.leave (v := none) (fun _ => rfl)
 refine ⟨_, _, pre0 _ (R27 _ ?_), hrun, hended, _, _, rfl, ?_, ⟨_, rfl⟩, hW, hsame.mono (by decide) (by decide)⟩
 ·
  show own_S p e below T26 (mkF m 40 #[rv a1, iv 0] []) _
  exact X26.returnOut hx Bd.returns (hb hby d3_40) hr
 ·
  show Q_rmOffs0 Z a1 u1 u2 u3 u4 h0 n0 _ T26.heap _
  rw [e26]
  exact ⟨b5, k5, b16, k16, b19, sa_22, kst_22, rfl, N26, K26, f26_F_withItems_a1, fw26, f26_F_firsts_a1, f26_F_chunkCount_a1, f26_A_b5, f26_A_b16, f26_E_b19, f26_F_starts_b19, f26_F_ends_b19, f26_F_items_b19, f26_F_size_b19, f26_A_sa_22, sz_b5, sz_b16, sz_sa_22, sz_b19, ne_b5_b16, ne_b5_sa_22, ne_b16_sa_22⟩
def Q_rmBr (Z : State) (pp : Int32 → Prop) (h0 : Heap) (n0 : Nat) (v : Option Value) (h : Heap) (L : List Loc) : Prop := ∃ r : Int32, v = some (.int r) ∧ Fr n0 L ∧ h = h0 ∧ (pp r)
theorem ef_rmBz256_3 (m : MethodId) (x0 : Addr) (x1 : Int32) (x2 : Int32) (x3 : Int32) : entryFrame m #[(.ref x0), (.int x1), (.int x2), (.int x3)] 8 = mkF m 0 (fA63 x0 x1 x2 x3) [] := by first | (simp [entryFrame, mkF, argsToLocals, Value.category]; done) | rfl
set_option maxRecDepth 65536 in
set_option maxHeartbeats 40000000 in
theorem rmBz256_3 (l : Launch) (Z : State) (a0 : Array Value) (hw : ∀ d ∈ tables_1, d.before a0 Z = true) (ws : List Jvm.Cond) (a1 : Addr) (p4 : Int32) (k1 : ClassId) (x0 : Int32) (x1 : Int32) (x2 : Int32) (h0 : Heap) (n0 : Nat) (Z0 : n0 ≤ h0.size) (A_a1 : Arv Z h0 a1 k1 .int 256 [(.int x0), (.int x1), (.int x2)] (.int 0)) :
  own_M l yN1 (Jvm.Cond.code yN1 jdk_65_method_59_code 8 (some .int) :: ws) ({ frames := 0, cells := 0, slots := 0, locals := 0 } : Room) #[(.ref a1), (.int 0), (.int 3), (.int p4)] Z h0 (Q_rmBr Z (own_br3 x0 x1 x2 p4) h0 n0) := by
 refine MetFree.of_bodySF (plainFor_of_name pn_3) hisR ?_
 intro p e s m args below meth c s₁ Bd hml0 hP hK
 obtain ⟨rfl, hZ, hh⟩ := hP
 have hx := Bd.exec
 have hby := Bd.bytes
 have hml : c.maxLocals = 8 := hml0
 have hown : s.vm.findClass "java/util/Arrays" = some m.cls := findClass_of_methodNamed Bd.named
 have hnm := (name_of_methodNamed Bd.named Bd.method).1
 have X0 : Stand p l e ({ frames := 0, cells := 0, slots := 0, locals := 0 } : Room) s m #[(.ref a1), (.int 0), (.int 3), (.int p4)] below meth c s₁ [] 0 0 := Stand.of_body Bd
 have hU : ∀ (i : Nat) (d : Jvm.Cond), tables_1[i]? = some d → d.before a0 Z = true := fun i d h => hw d (List.mem_of_getElem? h)
 have e0 : s₁.heap = h0 := by rw [← hh, Bd.state]; rfl
 have N0 := Fr.nil n0
 obtain ⟨f0, hf0⟩ : ∃ f : JFrame, f = mkF m 0 #[rv a1, iv 0, iv 3, iv p4, .unset, .unset, .unset, .unset] [] := ⟨_, rfl⟩
 have pre0 : ∀ t, own_S p e below s₁ f0 t → Steps p.tables e below (s₁.setTop (entryFrame m #[(.ref a1), (.int 0), (.int 3), (.int p4)] 8)) t := fun t k => castTop ((ef_rmBz256_3 m a1 (0 : Int32) (3 : Int32) p4).trans hf0.symm) k
 have R0 : own_R p e below s₁ (mkF m 0 #[rv a1, iv 0, iv 3, iv p4, .unset, .unset, .unset, .unset] []) s₁ f0 := by rw [hf0]; exact fun t k => k
 have R1 : own_R p e below s₁ (mkF m 22 (fA67 a1 p4) [(.int (((2 : Int32).toUInt32 >>> ((1 : Int32) &&& 31).toUInt32).toInt32))]) s₁ f0 := fun t k => R0 t (by
  refine XS.iloadN X0.here hx rfl (hb hby d18_0) rfl ?_
  refine XS.istore X0.here hx rfl (hb hby d18_1) rfl (l' := #[rv a1, iv 0, iv 3, iv p4, iv 0, .unset, .unset, .unset]) rfl ?_
  refine XS.iloadN X0.here hx rfl (hb hby d18_3) rfl ?_
  refine XS.iconst X0.here hx rfl (hb hby d18_4) ?_
  refine XS.isub X0.here hx rfl (hb hby d18_5) rfl ?_
  refine XS.istore X0.here hx rfl (hb hby d18_6) rfl (l' := (fA67 a1 p4)) rfl ?_
  refine XS.iload X0.here hx rfl (hb hby d18_8) rfl ?_
  refine XS.iload X0.here hx rfl (hb hby d18_10) rfl ?_
  refine XS.icmpNo X0.here hx rfl (hb hby d18_12) rfl (flt (by decide : ¬ ((2 : Int32) < (0 : Int32)))).2.2.1 ?_
  refine XS.iload X0.here hx rfl (hb hby d18_15) rfl ?_
  refine XS.iload X0.here hx rfl (hb hby d18_17) rfl ?_
  refine XS.iadd X0.here hx rfl (hb hby d18_19) rfl ?_
  show own_S p e below s₁ (mkF m 20 (fA67 a1 p4) [(.int 2)]) _
  refine XS.iconst X0.here hx rfl (hb hby d18_20) ?_
  refine XS.iushr X0.here hx rfl (hb hby d18_21) rfl ?_
  exact k)
 have R2 : own_R p e below s₁ (mkF m 22 (fA67 a1 p4) [(.int 1)]) s₁ f0 := by have q := R1; rw [((by decide) : (((2 : Int32).toUInt32 >>> ((1 : Int32) &&& 31).toUInt32).toInt32) = (1 : Int32))] at q; exact q
 have R3 : own_R p e below s₁ (mkF m 27 (fA69 a1 p4) [(.int 1), (.ref a1)]) s₁ f0 := fun t k => R2 t (by
  refine XS.istore X0.here hx rfl (hb hby d18_22) rfl (l' := (fA69 a1 p4)) rfl ?_
  refine XS.aloadN X0.here hx rfl (hb hby d18_24) rfl rfl ?_
  refine XS.iload X0.here hx rfl (hb hby d18_25) rfl ?_
  exact k)
 obtain ⟨cl4, Ar4, q4, S4, n4_, H4, G4⟩ := id A_a1
 have hin4 : ¬ ((1 : Int32) < 0 ∨ cl4.slots.size ≤ ((1 : Int32)).toNatClampNeg) := inb_of S4 ⟨by decide, by decide⟩
 have hat4 : cl4.slots[((1 : Int32)).toNatClampNeg]? = some (.int x1) := Has.at H4 hin4 rfl
 have R5 : own_R p e below s₁ (mkF m 28 (fA69 a1 p4) [(.int x1)]) s₁ f0 := fun t k => R3 t (X0.iaload hx (j := (1 : Int32)) (v := (.int x1)) (by rw [e0]; exact Ar4.1) (State.isArrayOf_alike hZ.alike Ar4.2.1) Ar4.2.2 hin4 hat4 (g := (mkF m 27 (fA69 a1 p4) [(.int 1), (.ref a1)])) rfl rfl (hb hby d18_27) _ k)
 have R6 : own_R p e below s₁ (mkF m 33 (fA53 a1 p4 x1) [(.int p4), (.int x1)]) s₁ f0 := fun t k => R5 t (by
  refine XS.istore X0.here hx rfl (hb hby d18_28) rfl (l' := (fA53 a1 p4 x1)) rfl ?_
  refine XS.iload X0.here hx rfl (hb hby d18_30) rfl ?_
  refine XS.iloadN X0.here hx rfl (hb hby d18_32) rfl ?_
  exact k)
 by_cases hs1 : x1 < p4
 ·
  have R7 : own_R p e below s₁ (mkF m 22 (fA71 a1 p4 x1) [(.int (((4 : Int32).toUInt32 >>> ((1 : Int32) &&& 31).toUInt32).toInt32))]) s₁ f0 := fun t k => R6 t (by
   refine XS.icmpNo X0.here hx rfl (hb hby d18_33) rfl (tlt hs1).2.1 ?_
   refine XS.iload X0.here hx rfl (hb hby d18_36) rfl ?_
   refine XS.iconst X0.here hx rfl (hb hby d18_38) ?_
   refine XS.iadd X0.here hx rfl (hb hby d18_39) rfl ?_
   refine XS.istore X0.here hx rfl (hb hby d18_40) rfl (l' := (fA71 a1 p4 x1)) rfl ?_
   refine XS.goto X0.here hx rfl (pc0 := 42) (pc' := 63) rfl (hb hby d18_42) (by decide) (by decide) ?_
   refine XS.goto X0.here hx rfl (pc0 := 63) (pc' := 8) rfl (hb hby d18_63) (by decide) (by decide) ?_
   refine XS.iload X0.here hx rfl (hb hby d18_8) rfl ?_
   refine XS.iload X0.here hx rfl (hb hby d18_10) rfl ?_
   refine XS.icmpNo X0.here hx rfl (hb hby d18_12) rfl (flt (by decide : ¬ ((2 : Int32) < (2 : Int32)))).2.2.1 ?_
   refine XS.iload X0.here hx rfl (hb hby d18_15) rfl ?_
   refine XS.iload X0.here hx rfl (hb hby d18_17) rfl ?_
   show own_S p e below s₁ (mkF m 19 (fA71 a1 p4 x1) [(.int 2), (.int 2)]) _
   refine XS.iadd X0.here hx rfl (hb hby d18_19) rfl ?_
   refine XS.iconst X0.here hx rfl (hb hby d18_20) ?_
   refine XS.iushr X0.here hx rfl (hb hby d18_21) rfl ?_
   exact k)
  have R8 : own_R p e below s₁ (mkF m 22 (fA71 a1 p4 x1) [(.int 2)]) s₁ f0 := by have q := R7; rw [((by decide) : (((4 : Int32).toUInt32 >>> ((1 : Int32) &&& 31).toUInt32).toInt32) = (2 : Int32))] at q; exact q
  have R9 : own_R p e below s₁ (mkF m 27 (fA72 a1 p4 x1) [(.int 2), (.ref a1)]) s₁ f0 := fun t k => R8 t (by
   refine XS.istore X0.here hx rfl (hb hby d18_22) rfl (l' := (fA72 a1 p4 x1)) rfl ?_
   refine XS.aloadN X0.here hx rfl (hb hby d18_24) rfl rfl ?_
   refine XS.iload X0.here hx rfl (hb hby d18_25) rfl ?_
   exact k)
  obtain ⟨cl10, Ar10, q10, S10, n10_, H10, G10⟩ := id A_a1
  have hin10 : ¬ ((2 : Int32) < 0 ∨ cl10.slots.size ≤ ((2 : Int32)).toNatClampNeg) := inb_of S10 ⟨by decide, by decide⟩
  have hat10 : cl10.slots[((2 : Int32)).toNatClampNeg]? = some (.int x2) := Has.at H10 hin10 rfl
  have R11 : own_R p e below s₁ (mkF m 28 (fA72 a1 p4 x1) [(.int x2)]) s₁ f0 := fun t k => R9 t (X0.iaload hx (j := (2 : Int32)) (v := (.int x2)) (by rw [e0]; exact Ar10.1) (State.isArrayOf_alike hZ.alike Ar10.2.1) Ar10.2.2 hin10 hat10 (g := (mkF m 27 (fA72 a1 p4 x1) [(.int 2), (.ref a1)])) rfl rfl (hb hby d18_27) _ k)
  have R12 : own_R p e below s₁ (mkF m 33 (fA54 a1 p4 x2) [(.int p4), (.int x2)]) s₁ f0 := fun t k => R11 t (by
   refine XS.istore X0.here hx rfl (hb hby d18_28) rfl (l' := (fA54 a1 p4 x2)) rfl ?_
   refine XS.iload X0.here hx rfl (hb hby d18_30) rfl ?_
   refine XS.iloadN X0.here hx rfl (hb hby d18_32) rfl ?_
   exact k)
  by_cases hs2 : x2 < p4
  ·
   have R13 : own_R p e below s₁ (mkF m 71 (fA55 a1 p4 x2) [(.int (-(4 : Int32)))]) s₁ f0 := fun t k => R12 t (by
    refine XS.icmpNo X0.here hx rfl (hb hby d18_33) rfl (tlt hs2).2.1 ?_
    refine XS.iload X0.here hx rfl (hb hby d18_36) rfl ?_
    refine XS.iconst X0.here hx rfl (hb hby d18_38) ?_
    refine XS.iadd X0.here hx rfl (hb hby d18_39) rfl ?_
    refine XS.istore X0.here hx rfl (hb hby d18_40) rfl (l' := (fA55 a1 p4 x2)) rfl ?_
    refine XS.goto X0.here hx rfl (pc0 := 42) (pc' := 63) rfl (hb hby d18_42) (by decide) (by decide) ?_
    refine XS.goto X0.here hx rfl (pc0 := 63) (pc' := 8) rfl (hb hby d18_63) (by decide) (by decide) ?_
    refine XS.iload X0.here hx rfl (hb hby d18_8) rfl ?_
    refine XS.iload X0.here hx rfl (hb hby d18_10) rfl ?_
    refine XS.icmpYes X0.here hx rfl (pc0 := 12) (pc' := 66) rfl (hb hby d18_12) rfl (tlt (by decide : (2 : Int32) < (3 : Int32))).2.2.1 (by decide) (by decide) ?_
    refine XS.iload X0.here hx rfl (hb hby d18_66) rfl ?_
    refine XS.iconst X0.here hx rfl (hb hby d18_68) ?_
    show own_S p e below s₁ (mkF m 69 (fA55 a1 p4 x2) [(.int 1), (.int 3)]) _
    refine XS.iadd X0.here hx rfl (hb hby d18_69) rfl ?_
    refine XS.ineg X0.here hx rfl (hb hby d18_70) rfl ?_
    exact k)
   have R14 : own_R p e below s₁ (mkF m 71 (fA55 a1 p4 x2) [(.int (-4))]) s₁ f0 := by have q := R13; rw [((by decide) : (-(4 : Int32)) = (-4 : Int32))] at q; exact q
   obtain ⟨fs, hr, hrun, hended, hW, hsame⟩ := X0.leave (v := some (.int (-4))) (fun h => by rw [Bd.returns] at h; cases h)
   refine ⟨_, _, pre0 _ (R14 _ ?_), hrun, hended, _, _, rfl, ?_, ⟨_, rfl⟩, hW, hsame.mono (by decide) (by decide)⟩
   ·
    show own_S p e below s₁ (mkF m 71 (fA55 a1 p4 x2) [(.int (-4))]) _
    exact retI X0 hx Bd.returns (hb hby d18_71) hr
   ·
    show (Q_rmBr Z (own_br3 x0 x1 x2 p4) h0 n0) _ s₁.heap _
    rw [e0]
    exact ⟨(-4 : Int32), rfl, N0, rfl, (Or.inr (Or.inr (Or.inr (Or.inr (Or.inr (Or.inr (⟨rfl, hs2⟩)))))))⟩
  ·
   have R15 : own_R p e below s₁ (mkF m 48 (fA54 a1 p4 x2) [(.int p4), (.int x2)]) s₁ f0 := fun t k => R12 t (by
    refine XS.icmpYes X0.here hx rfl (pc0 := 33) (pc' := 45) rfl (hb hby d18_33) rfl (flt hs2).2.1 (by decide) (by decide) ?_
    refine XS.iload X0.here hx rfl (hb hby d18_45) rfl ?_
    refine XS.iloadN X0.here hx rfl (hb hby d18_47) rfl ?_
    exact k)
   by_cases hs3 : p4 < x2
   ·
    have R16 : own_R p e below s₁ (mkF m 71 (fA56 a1 p4 x2) [(.int (-(3 : Int32)))]) s₁ f0 := fun t k => R15 t (by
     refine XS.icmpNo X0.here hx rfl (hb hby d18_48) rfl (tlt hs3).2.2.2 ?_
     refine XS.iload X0.here hx rfl (hb hby d18_51) rfl ?_
     refine XS.iconst X0.here hx rfl (hb hby d18_53) ?_
     refine XS.isub X0.here hx rfl (hb hby d18_54) rfl ?_
     refine XS.istore X0.here hx rfl (hb hby d18_55) rfl (l' := (fA56 a1 p4 x2)) rfl ?_
     refine XS.goto X0.here hx rfl (pc0 := 57) (pc' := 63) rfl (hb hby d18_57) (by decide) (by decide) ?_
     refine XS.goto X0.here hx rfl (pc0 := 63) (pc' := 8) rfl (hb hby d18_63) (by decide) (by decide) ?_
     refine XS.iload X0.here hx rfl (hb hby d18_8) rfl ?_
     refine XS.iload X0.here hx rfl (hb hby d18_10) rfl ?_
     refine XS.icmpYes X0.here hx rfl (pc0 := 12) (pc' := 66) rfl (hb hby d18_12) rfl (tlt (by decide : (1 : Int32) < (2 : Int32))).2.2.1 (by decide) (by decide) ?_
     refine XS.iload X0.here hx rfl (hb hby d18_66) rfl ?_
     refine XS.iconst X0.here hx rfl (hb hby d18_68) ?_
     show own_S p e below s₁ (mkF m 69 (fA56 a1 p4 x2) [(.int 1), (.int 2)]) _
     refine XS.iadd X0.here hx rfl (hb hby d18_69) rfl ?_
     refine XS.ineg X0.here hx rfl (hb hby d18_70) rfl ?_
     exact k)
    have R17 : own_R p e below s₁ (mkF m 71 (fA56 a1 p4 x2) [(.int (-3))]) s₁ f0 := by have q := R16; rw [((by decide) : (-(3 : Int32)) = (-3 : Int32))] at q; exact q
    obtain ⟨fs, hr, hrun, hended, hW, hsame⟩ := X0.leave (v := some (.int (-3))) (fun h => by rw [Bd.returns] at h; cases h)
    refine ⟨_, _, pre0 _ (R17 _ ?_), hrun, hended, _, _, rfl, ?_, ⟨_, rfl⟩, hW, hsame.mono (by decide) (by decide)⟩
    ·
     show own_S p e below s₁ (mkF m 71 (fA56 a1 p4 x2) [(.int (-3))]) _
     exact retI X0 hx Bd.returns (hb hby d18_71) hr
    ·
     show (Q_rmBr Z (own_br3 x0 x1 x2 p4) h0 n0) _ s₁.heap _
     rw [e0]
     exact ⟨(-3 : Int32), rfl, N0, rfl, (Or.inr (Or.inr (Or.inr (Or.inr (Or.inr (Or.inl ⟨rfl, hs1, hs3⟩))))))⟩
   ·
    have R18 : own_R p e below s₁ (mkF m 62 (fA54 a1 p4 x2) [(.int 2)]) s₁ f0 := fun t k => R15 t (by
     refine XS.icmpYes X0.here hx rfl (pc0 := 48) (pc' := 60) rfl (hb hby d18_48) rfl (flt hs3).2.2.2 (by decide) (by decide) ?_
     refine XS.iload X0.here hx rfl (hb hby d18_60) rfl ?_
     exact k)
    obtain ⟨fs, hr, hrun, hended, hW, hsame⟩ := X0.leave (v := some (.int 2)) (fun h => by rw [Bd.returns] at h; cases h)
    refine ⟨_, _, pre0 _ (R18 _ ?_), hrun, hended, _, _, rfl, ?_, ⟨_, rfl⟩, hW, hsame.mono (by decide) (by decide)⟩
    ·
     show own_S p e below s₁ (mkF m 62 (fA54 a1 p4 x2) [(.int 2)]) _
     exact retI X0 hx Bd.returns (hb hby d18_62) hr
    ·
     show (Q_rmBr Z (own_br3 x0 x1 x2 p4) h0 n0) _ s₁.heap _
     rw [e0]
     exact ⟨(2 : Int32), rfl, N0, rfl, (Or.inr (Or.inr (Or.inl ⟨rfl, own_eq hs2 hs3⟩)))⟩
 ·
  have R19 : own_R p e below s₁ (mkF m 48 (fA53 a1 p4 x1) [(.int p4), (.int x1)]) s₁ f0 := fun t k => R6 t (by
   refine XS.icmpYes X0.here hx rfl (pc0 := 33) (pc' := 45) rfl (hb hby d18_33) rfl (flt hs1).2.1 (by decide) (by decide) ?_
   refine XS.iload X0.here hx rfl (hb hby d18_45) rfl ?_
   refine XS.iloadN X0.here hx rfl (hb hby d18_47) rfl ?_
   exact k)
  by_cases hs4 : p4 < x1
  ·
   have R20 : own_R p e below s₁ (mkF m 22 (fA73 a1 p4 x1) [(.int (((0 : Int32).toUInt32 >>> ((1 : Int32) &&& 31).toUInt32).toInt32))]) s₁ f0 := fun t k => R19 t (by
    refine XS.icmpNo X0.here hx rfl (hb hby d18_48) rfl (tlt hs4).2.2.2 ?_
    refine XS.iload X0.here hx rfl (hb hby d18_51) rfl ?_
    refine XS.iconst X0.here hx rfl (hb hby d18_53) ?_
    refine XS.isub X0.here hx rfl (hb hby d18_54) rfl ?_
    refine XS.istore X0.here hx rfl (hb hby d18_55) rfl (l' := (fA73 a1 p4 x1)) rfl ?_
    refine XS.goto X0.here hx rfl (pc0 := 57) (pc' := 63) rfl (hb hby d18_57) (by decide) (by decide) ?_
    refine XS.goto X0.here hx rfl (pc0 := 63) (pc' := 8) rfl (hb hby d18_63) (by decide) (by decide) ?_
    refine XS.iload X0.here hx rfl (hb hby d18_8) rfl ?_
    refine XS.iload X0.here hx rfl (hb hby d18_10) rfl ?_
    refine XS.icmpNo X0.here hx rfl (hb hby d18_12) rfl (flt (by decide : ¬ ((0 : Int32) < (0 : Int32)))).2.2.1 ?_
    refine XS.iload X0.here hx rfl (hb hby d18_15) rfl ?_
    refine XS.iload X0.here hx rfl (hb hby d18_17) rfl ?_
    show own_S p e below s₁ (mkF m 19 (fA73 a1 p4 x1) [(.int 0), (.int 0)]) _
    refine XS.iadd X0.here hx rfl (hb hby d18_19) rfl ?_
    refine XS.iconst X0.here hx rfl (hb hby d18_20) ?_
    refine XS.iushr X0.here hx rfl (hb hby d18_21) rfl ?_
    exact k)
   have R21 : own_R p e below s₁ (mkF m 22 (fA73 a1 p4 x1) [(.int 0)]) s₁ f0 := by have q := R20; rw [((by decide) : (((0 : Int32).toUInt32 >>> ((1 : Int32) &&& 31).toUInt32).toInt32) = (0 : Int32))] at q; exact q
   have R22 : own_R p e below s₁ (mkF m 27 (fA74 a1 p4 x1) [(.int 0), (.ref a1)]) s₁ f0 := fun t k => R21 t (by
    refine XS.istore X0.here hx rfl (hb hby d18_22) rfl (l' := (fA74 a1 p4 x1)) rfl ?_
    refine XS.aloadN X0.here hx rfl (hb hby d18_24) rfl rfl ?_
    refine XS.iload X0.here hx rfl (hb hby d18_25) rfl ?_
    exact k)
   obtain ⟨cl23, Ar23, q23, S23, n23_, H23, G23⟩ := id A_a1
   have hin23 : ¬ ((0 : Int32) < 0 ∨ cl23.slots.size ≤ ((0 : Int32)).toNatClampNeg) := inb_of S23 ⟨by decide, by decide⟩
   have hat23 : cl23.slots[((0 : Int32)).toNatClampNeg]? = some (.int x0) := Has.at H23 hin23 rfl
   have R24 : own_R p e below s₁ (mkF m 28 (fA74 a1 p4 x1) [(.int x0)]) s₁ f0 := fun t k => R22 t (X0.iaload hx (j := (0 : Int32)) (v := (.int x0)) (by rw [e0]; exact Ar23.1) (State.isArrayOf_alike hZ.alike Ar23.2.1) Ar23.2.2 hin23 hat23 (g := (mkF m 27 (fA74 a1 p4 x1) [(.int 0), (.ref a1)])) rfl rfl (hb hby d18_27) _ k)
   have R25 : own_R p e below s₁ (mkF m 33 (fA57 a1 p4 x0) [(.int p4), (.int x0)]) s₁ f0 := fun t k => R24 t (by
    refine XS.istore X0.here hx rfl (hb hby d18_28) rfl (l' := (fA57 a1 p4 x0)) rfl ?_
    refine XS.iload X0.here hx rfl (hb hby d18_30) rfl ?_
    refine XS.iloadN X0.here hx rfl (hb hby d18_32) rfl ?_
    exact k)
   by_cases hs5 : x0 < p4
   ·
    have R26 : own_R p e below s₁ (mkF m 71 (fA58 a1 p4 x0) [(.int (-(2 : Int32)))]) s₁ f0 := fun t k => R25 t (by
     refine XS.icmpNo X0.here hx rfl (hb hby d18_33) rfl (tlt hs5).2.1 ?_
     refine XS.iload X0.here hx rfl (hb hby d18_36) rfl ?_
     refine XS.iconst X0.here hx rfl (hb hby d18_38) ?_
     refine XS.iadd X0.here hx rfl (hb hby d18_39) rfl ?_
     refine XS.istore X0.here hx rfl (hb hby d18_40) rfl (l' := (fA58 a1 p4 x0)) rfl ?_
     refine XS.goto X0.here hx rfl (pc0 := 42) (pc' := 63) rfl (hb hby d18_42) (by decide) (by decide) ?_
     refine XS.goto X0.here hx rfl (pc0 := 63) (pc' := 8) rfl (hb hby d18_63) (by decide) (by decide) ?_
     refine XS.iload X0.here hx rfl (hb hby d18_8) rfl ?_
     refine XS.iload X0.here hx rfl (hb hby d18_10) rfl ?_
     refine XS.icmpYes X0.here hx rfl (pc0 := 12) (pc' := 66) rfl (hb hby d18_12) rfl (tlt (by decide : (0 : Int32) < (1 : Int32))).2.2.1 (by decide) (by decide) ?_
     refine XS.iload X0.here hx rfl (hb hby d18_66) rfl ?_
     refine XS.iconst X0.here hx rfl (hb hby d18_68) ?_
     show own_S p e below s₁ (mkF m 69 (fA58 a1 p4 x0) [(.int 1), (.int 1)]) _
     refine XS.iadd X0.here hx rfl (hb hby d18_69) rfl ?_
     refine XS.ineg X0.here hx rfl (hb hby d18_70) rfl ?_
     exact k)
    have R27 : own_R p e below s₁ (mkF m 71 (fA58 a1 p4 x0) [(.int (-2))]) s₁ f0 := by have q := R26; rw [((by decide) : (-(2 : Int32)) = (-2 : Int32))] at q; exact q
    obtain ⟨fs, hr, hrun, hended, hW, hsame⟩ := X0.leave (v := some (.int (-2))) (fun h => by rw [Bd.returns] at h; cases h)
    refine ⟨_, _, pre0 _ (R27 _ ?_), hrun, hended, _, _, rfl, ?_, ⟨_, rfl⟩, hW, hsame.mono (by decide) (by decide)⟩
    ·
     show own_S p e below s₁ (mkF m 71 (fA58 a1 p4 x0) [(.int (-2))]) _
     exact retI X0 hx Bd.returns (hb hby d18_71) hr
    ·
     show (Q_rmBr Z (own_br3 x0 x1 x2 p4) h0 n0) _ s₁.heap _
     rw [e0]
     exact ⟨(-2 : Int32), rfl, N0, rfl, (Or.inr (Or.inr (Or.inr (Or.inr (Or.inl ⟨rfl, hs5, hs4⟩)))))⟩
   ·
    have R28 : own_R p e below s₁ (mkF m 48 (fA57 a1 p4 x0) [(.int p4), (.int x0)]) s₁ f0 := fun t k => R25 t (by
     refine XS.icmpYes X0.here hx rfl (pc0 := 33) (pc' := 45) rfl (hb hby d18_33) rfl (flt hs5).2.1 (by decide) (by decide) ?_
     refine XS.iload X0.here hx rfl (hb hby d18_45) rfl ?_
     refine XS.iloadN X0.here hx rfl (hb hby d18_47) rfl ?_
     exact k)
    by_cases hs6 : p4 < x0
    ·
     have R29 : own_R p e below s₁ (mkF m 71 (fA50 a1 p4 x0) [(.int (-(1 : Int32)))]) s₁ f0 := fun t k => R28 t (by
      refine XS.icmpNo X0.here hx rfl (hb hby d18_48) rfl (tlt hs6).2.2.2 ?_
      refine XS.iload X0.here hx rfl (hb hby d18_51) rfl ?_
      refine XS.iconst X0.here hx rfl (hb hby d18_53) ?_
      refine XS.isub X0.here hx rfl (hb hby d18_54) rfl ?_
      refine XS.istore X0.here hx rfl (hb hby d18_55) rfl (l' := (fA50 a1 p4 x0)) rfl ?_
      refine XS.goto X0.here hx rfl (pc0 := 57) (pc' := 63) rfl (hb hby d18_57) (by decide) (by decide) ?_
      refine XS.goto X0.here hx rfl (pc0 := 63) (pc' := 8) rfl (hb hby d18_63) (by decide) (by decide) ?_
      refine XS.iload X0.here hx rfl (hb hby d18_8) rfl ?_
      refine XS.iload X0.here hx rfl (hb hby d18_10) rfl ?_
      refine XS.icmpYes X0.here hx rfl (pc0 := 12) (pc' := 66) rfl (hb hby d18_12) rfl (tlt (by decide : (-1 : Int32) < (0 : Int32))).2.2.1 (by decide) (by decide) ?_
      refine XS.iload X0.here hx rfl (hb hby d18_66) rfl ?_
      refine XS.iconst X0.here hx rfl (hb hby d18_68) ?_
      show own_S p e below s₁ (mkF m 69 (fA50 a1 p4 x0) [(.int 1), (.int 0)]) _
      refine XS.iadd X0.here hx rfl (hb hby d18_69) rfl ?_
      refine XS.ineg X0.here hx rfl (hb hby d18_70) rfl ?_
      exact k)
     have R30 : own_R p e below s₁ (mkF m 71 (fA50 a1 p4 x0) [(.int (-1))]) s₁ f0 := by have q := R29; rw [((by decide) : (-(1 : Int32)) = (-1 : Int32))] at q; exact q
     obtain ⟨fs, hr, hrun, hended, hW, hsame⟩ := X0.leave (v := some (.int (-1))) (fun h => by rw [Bd.returns] at h; cases h)
     refine ⟨_, _, pre0 _ (R30 _ ?_), hrun, hended, _, _, rfl, ?_, ⟨_, rfl⟩, hW, hsame.mono (by decide) (by decide)⟩
     ·
      show own_S p e below s₁ (mkF m 71 (fA50 a1 p4 x0) [(.int (-1))]) _
      exact retI X0 hx Bd.returns (hb hby d18_71) hr
     ·
      show (Q_rmBr Z (own_br3 x0 x1 x2 p4) h0 n0) _ s₁.heap _
      rw [e0]
      exact ⟨(-1 : Int32), rfl, N0, rfl, (Or.inr (Or.inr (Or.inr (Or.inl ⟨rfl, hs6⟩))))⟩
    ·
     have R31 : own_R p e below s₁ (mkF m 62 (fA57 a1 p4 x0) [(.int 0)]) s₁ f0 := fun t k => R28 t (by
      refine XS.icmpYes X0.here hx rfl (pc0 := 48) (pc' := 60) rfl (hb hby d18_48) rfl (flt hs6).2.2.2 (by decide) (by decide) ?_
      refine XS.iload X0.here hx rfl (hb hby d18_60) rfl ?_
      exact k)
     obtain ⟨fs, hr, hrun, hended, hW, hsame⟩ := X0.leave (v := some (.int 0)) (fun h => by rw [Bd.returns] at h; cases h)
     refine ⟨_, _, pre0 _ (R31 _ ?_), hrun, hended, _, _, rfl, ?_, ⟨_, rfl⟩, hW, hsame.mono (by decide) (by decide)⟩
     ·
      show own_S p e below s₁ (mkF m 62 (fA57 a1 p4 x0) [(.int 0)]) _
      exact retI X0 hx Bd.returns (hb hby d18_62) hr
     ·
      show (Q_rmBr Z (own_br3 x0 x1 x2 p4) h0 n0) _ s₁.heap _
      rw [e0]
      exact ⟨(0 : Int32), rfl, N0, rfl, (Or.inl ⟨rfl, own_eq hs5 hs6⟩)⟩
  ·
   have R32 : own_R p e below s₁ (mkF m 62 (fA53 a1 p4 x1) [(.int 1)]) s₁ f0 := fun t k => R19 t (by
    refine XS.icmpYes X0.here hx rfl (pc0 := 48) (pc' := 60) rfl (hb hby d18_48) rfl (flt hs4).2.2.2 (by decide) (by decide) ?_
    refine XS.iload X0.here hx rfl (hb hby d18_60) rfl ?_
    exact k)
   obtain ⟨fs, hr, hrun, hended, hW, hsame⟩ := X0.leave (v := some (.int 1)) (fun h => by rw [Bd.returns] at h; cases h)
   refine ⟨_, _, pre0 _ (R32 _ ?_), hrun, hended, _, _, rfl, ?_, ⟨_, rfl⟩, hW, hsame.mono (by decide) (by decide)⟩
   ·
    show own_S p e below s₁ (mkF m 62 (fA53 a1 p4 x1) [(.int 1)]) _
    exact retI X0 hx Bd.returns (hb hby d18_62) hr
   ·
    show (Q_rmBr Z (own_br3 x0 x1 x2 p4) h0 n0) _ s₁.heap _
    rw [e0]
    exact ⟨(1 : Int32), rfl, N0, rfl, (Or.inr (Or.inl ⟨rfl, own_eq hs1 hs4⟩))⟩
theorem ef_rmBz256_2 (m : MethodId) (x0 : Addr) (x1 : Int32) (x2 : Int32) (x3 : Int32) : entryFrame m #[(.ref x0), (.int x1), (.int x2), (.int x3)] 8 = mkF m 0 (fA63 x0 x1 x2 x3) [] := by first | (simp [entryFrame, mkF, argsToLocals, Value.category]; done) | rfl
set_option maxRecDepth 65536 in
set_option maxHeartbeats 40000000 in
theorem rmBz256_2 (l : Launch) (Z : State) (a0 : Array Value) (hw : ∀ d ∈ tables_1, d.before a0 Z = true) (ws : List Jvm.Cond) (a1 : Addr) (p4 : Int32) (k1 : ClassId) (x0 : Int32) (x1 : Int32) (x2 : Int32) (h0 : Heap) (n0 : Nat) (Z0 : n0 ≤ h0.size) (A_a1 : Arv Z h0 a1 k1 .int 256 [(.int x0), (.int x1), (.int x2)] (.int 0)) :
  own_M l yN1 (Jvm.Cond.code yN1 jdk_65_method_59_code 8 (some .int) :: ws) ({ frames := 0, cells := 0, slots := 0, locals := 0 } : Room) #[(.ref a1), (.int 0), (.int 2), (.int p4)] Z h0 (Q_rmBr Z (own_br2 x0 x1 p4) h0 n0) := by
 refine MetFree.of_bodySF (plainFor_of_name pn_3) hisR ?_
 intro p e s m args below meth c s₁ Bd hml0 hP hK
 obtain ⟨rfl, hZ, hh⟩ := hP
 have hx := Bd.exec
 have hby := Bd.bytes
 have hml : c.maxLocals = 8 := hml0
 have hown : s.vm.findClass "java/util/Arrays" = some m.cls := findClass_of_methodNamed Bd.named
 have hnm := (name_of_methodNamed Bd.named Bd.method).1
 have X0 : Stand p l e ({ frames := 0, cells := 0, slots := 0, locals := 0 } : Room) s m #[(.ref a1), (.int 0), (.int 2), (.int p4)] below meth c s₁ [] 0 0 := Stand.of_body Bd
 have hU : ∀ (i : Nat) (d : Jvm.Cond), tables_1[i]? = some d → d.before a0 Z = true := fun i d h => hw d (List.mem_of_getElem? h)
 have e0 : s₁.heap = h0 := by rw [← hh, Bd.state]; rfl
 have N0 := Fr.nil n0
 obtain ⟨f0, hf0⟩ : ∃ f : JFrame, f = mkF m 0 #[rv a1, iv 0, iv 2, iv p4, .unset, .unset, .unset, .unset] [] := ⟨_, rfl⟩
 have pre0 : ∀ t, own_S p e below s₁ f0 t → Steps p.tables e below (s₁.setTop (entryFrame m #[(.ref a1), (.int 0), (.int 2), (.int p4)] 8)) t := fun t k => castTop ((ef_rmBz256_2 m a1 (0 : Int32) (2 : Int32) p4).trans hf0.symm) k
 have R0 : own_R p e below s₁ (mkF m 0 #[rv a1, iv 0, iv 2, iv p4, .unset, .unset, .unset, .unset] []) s₁ f0 := by rw [hf0]; exact fun t k => k
 have R1 : own_R p e below s₁ (mkF m 22 (fA68 a1 p4) [(.int (((1 : Int32).toUInt32 >>> ((1 : Int32) &&& 31).toUInt32).toInt32))]) s₁ f0 := fun t k => R0 t (by
  refine XS.iloadN X0.here hx rfl (hb hby d18_0) rfl ?_
  refine XS.istore X0.here hx rfl (hb hby d18_1) rfl (l' := #[rv a1, iv 0, iv 2, iv p4, iv 0, .unset, .unset, .unset]) rfl ?_
  refine XS.iloadN X0.here hx rfl (hb hby d18_3) rfl ?_
  refine XS.iconst X0.here hx rfl (hb hby d18_4) ?_
  refine XS.isub X0.here hx rfl (hb hby d18_5) rfl ?_
  refine XS.istore X0.here hx rfl (hb hby d18_6) rfl (l' := (fA68 a1 p4)) rfl ?_
  refine XS.iload X0.here hx rfl (hb hby d18_8) rfl ?_
  refine XS.iload X0.here hx rfl (hb hby d18_10) rfl ?_
  refine XS.icmpNo X0.here hx rfl (hb hby d18_12) rfl (flt (by decide : ¬ ((1 : Int32) < (0 : Int32)))).2.2.1 ?_
  refine XS.iload X0.here hx rfl (hb hby d18_15) rfl ?_
  refine XS.iload X0.here hx rfl (hb hby d18_17) rfl ?_
  refine XS.iadd X0.here hx rfl (hb hby d18_19) rfl ?_
  show own_S p e below s₁ (mkF m 20 (fA68 a1 p4) [(.int 1)]) _
  refine XS.iconst X0.here hx rfl (hb hby d18_20) ?_
  refine XS.iushr X0.here hx rfl (hb hby d18_21) rfl ?_
  exact k)
 have R2 : own_R p e below s₁ (mkF m 22 (fA68 a1 p4) [(.int 0)]) s₁ f0 := by have q := R1; rw [((by decide) : (((1 : Int32).toUInt32 >>> ((1 : Int32) &&& 31).toUInt32).toInt32) = (0 : Int32))] at q; exact q
 have R3 : own_R p e below s₁ (mkF m 27 (fA70 a1 p4) [(.int 0), (.ref a1)]) s₁ f0 := fun t k => R2 t (by
  refine XS.istore X0.here hx rfl (hb hby d18_22) rfl (l' := (fA70 a1 p4)) rfl ?_
  refine XS.aloadN X0.here hx rfl (hb hby d18_24) rfl rfl ?_
  refine XS.iload X0.here hx rfl (hb hby d18_25) rfl ?_
  exact k)
 obtain ⟨cl4, Ar4, q4, S4, n4_, H4, G4⟩ := id A_a1
 have hin4 : ¬ ((0 : Int32) < 0 ∨ cl4.slots.size ≤ ((0 : Int32)).toNatClampNeg) := inb_of S4 ⟨by decide, by decide⟩
 have hat4 : cl4.slots[((0 : Int32)).toNatClampNeg]? = some (.int x0) := Has.at H4 hin4 rfl
 have R5 : own_R p e below s₁ (mkF m 28 (fA70 a1 p4) [(.int x0)]) s₁ f0 := fun t k => R3 t (X0.iaload hx (j := (0 : Int32)) (v := (.int x0)) (by rw [e0]; exact Ar4.1) (State.isArrayOf_alike hZ.alike Ar4.2.1) Ar4.2.2 hin4 hat4 (g := (mkF m 27 (fA70 a1 p4) [(.int 0), (.ref a1)])) rfl rfl (hb hby d18_27) _ k)
 have R6 : own_R p e below s₁ (mkF m 33 (fA59 a1 p4 x0) [(.int p4), (.int x0)]) s₁ f0 := fun t k => R5 t (by
  refine XS.istore X0.here hx rfl (hb hby d18_28) rfl (l' := (fA59 a1 p4 x0)) rfl ?_
  refine XS.iload X0.here hx rfl (hb hby d18_30) rfl ?_
  refine XS.iloadN X0.here hx rfl (hb hby d18_32) rfl ?_
  exact k)
 by_cases hs1 : x0 < p4
 ·
  have R7 : own_R p e below s₁ (mkF m 22 (fA75 a1 p4 x0) [(.int (((2 : Int32).toUInt32 >>> ((1 : Int32) &&& 31).toUInt32).toInt32))]) s₁ f0 := fun t k => R6 t (by
   refine XS.icmpNo X0.here hx rfl (hb hby d18_33) rfl (tlt hs1).2.1 ?_
   refine XS.iload X0.here hx rfl (hb hby d18_36) rfl ?_
   refine XS.iconst X0.here hx rfl (hb hby d18_38) ?_
   refine XS.iadd X0.here hx rfl (hb hby d18_39) rfl ?_
   refine XS.istore X0.here hx rfl (hb hby d18_40) rfl (l' := (fA75 a1 p4 x0)) rfl ?_
   refine XS.goto X0.here hx rfl (pc0 := 42) (pc' := 63) rfl (hb hby d18_42) (by decide) (by decide) ?_
   refine XS.goto X0.here hx rfl (pc0 := 63) (pc' := 8) rfl (hb hby d18_63) (by decide) (by decide) ?_
   refine XS.iload X0.here hx rfl (hb hby d18_8) rfl ?_
   refine XS.iload X0.here hx rfl (hb hby d18_10) rfl ?_
   refine XS.icmpNo X0.here hx rfl (hb hby d18_12) rfl (flt (by decide : ¬ ((1 : Int32) < (1 : Int32)))).2.2.1 ?_
   refine XS.iload X0.here hx rfl (hb hby d18_15) rfl ?_
   refine XS.iload X0.here hx rfl (hb hby d18_17) rfl ?_
   show own_S p e below s₁ (mkF m 19 (fA75 a1 p4 x0) [(.int 1), (.int 1)]) _
   refine XS.iadd X0.here hx rfl (hb hby d18_19) rfl ?_
   refine XS.iconst X0.here hx rfl (hb hby d18_20) ?_
   refine XS.iushr X0.here hx rfl (hb hby d18_21) rfl ?_
   exact k)
  have R8 : own_R p e below s₁ (mkF m 22 (fA75 a1 p4 x0) [(.int 1)]) s₁ f0 := by have q := R7; rw [((by decide) : (((2 : Int32).toUInt32 >>> ((1 : Int32) &&& 31).toUInt32).toInt32) = (1 : Int32))] at q; exact q
  have R9 : own_R p e below s₁ (mkF m 27 (fA76 a1 p4 x0) [(.int 1), (.ref a1)]) s₁ f0 := fun t k => R8 t (by
   refine XS.istore X0.here hx rfl (hb hby d18_22) rfl (l' := (fA76 a1 p4 x0)) rfl ?_
   refine XS.aloadN X0.here hx rfl (hb hby d18_24) rfl rfl ?_
   refine XS.iload X0.here hx rfl (hb hby d18_25) rfl ?_
   exact k)
  obtain ⟨cl10, Ar10, q10, S10, n10_, H10, G10⟩ := id A_a1
  have hin10 : ¬ ((1 : Int32) < 0 ∨ cl10.slots.size ≤ ((1 : Int32)).toNatClampNeg) := inb_of S10 ⟨by decide, by decide⟩
  have hat10 : cl10.slots[((1 : Int32)).toNatClampNeg]? = some (.int x1) := Has.at H10 hin10 rfl
  have R11 : own_R p e below s₁ (mkF m 28 (fA76 a1 p4 x0) [(.int x1)]) s₁ f0 := fun t k => R9 t (X0.iaload hx (j := (1 : Int32)) (v := (.int x1)) (by rw [e0]; exact Ar10.1) (State.isArrayOf_alike hZ.alike Ar10.2.1) Ar10.2.2 hin10 hat10 (g := (mkF m 27 (fA76 a1 p4 x0) [(.int 1), (.ref a1)])) rfl rfl (hb hby d18_27) _ k)
  have R12 : own_R p e below s₁ (mkF m 33 (fA60 a1 p4 x1) [(.int p4), (.int x1)]) s₁ f0 := fun t k => R11 t (by
   refine XS.istore X0.here hx rfl (hb hby d18_28) rfl (l' := (fA60 a1 p4 x1)) rfl ?_
   refine XS.iload X0.here hx rfl (hb hby d18_30) rfl ?_
   refine XS.iloadN X0.here hx rfl (hb hby d18_32) rfl ?_
   exact k)
  by_cases hs2 : x1 < p4
  ·
   have R13 : own_R p e below s₁ (mkF m 71 (fA61 a1 p4 x1) [(.int (-(3 : Int32)))]) s₁ f0 := fun t k => R12 t (by
    refine XS.icmpNo X0.here hx rfl (hb hby d18_33) rfl (tlt hs2).2.1 ?_
    refine XS.iload X0.here hx rfl (hb hby d18_36) rfl ?_
    refine XS.iconst X0.here hx rfl (hb hby d18_38) ?_
    refine XS.iadd X0.here hx rfl (hb hby d18_39) rfl ?_
    refine XS.istore X0.here hx rfl (hb hby d18_40) rfl (l' := (fA61 a1 p4 x1)) rfl ?_
    refine XS.goto X0.here hx rfl (pc0 := 42) (pc' := 63) rfl (hb hby d18_42) (by decide) (by decide) ?_
    refine XS.goto X0.here hx rfl (pc0 := 63) (pc' := 8) rfl (hb hby d18_63) (by decide) (by decide) ?_
    refine XS.iload X0.here hx rfl (hb hby d18_8) rfl ?_
    refine XS.iload X0.here hx rfl (hb hby d18_10) rfl ?_
    refine XS.icmpYes X0.here hx rfl (pc0 := 12) (pc' := 66) rfl (hb hby d18_12) rfl (tlt (by decide : (1 : Int32) < (2 : Int32))).2.2.1 (by decide) (by decide) ?_
    refine XS.iload X0.here hx rfl (hb hby d18_66) rfl ?_
    refine XS.iconst X0.here hx rfl (hb hby d18_68) ?_
    show own_S p e below s₁ (mkF m 69 (fA61 a1 p4 x1) [(.int 1), (.int 2)]) _
    refine XS.iadd X0.here hx rfl (hb hby d18_69) rfl ?_
    refine XS.ineg X0.here hx rfl (hb hby d18_70) rfl ?_
    exact k)
   have R14 : own_R p e below s₁ (mkF m 71 (fA61 a1 p4 x1) [(.int (-3))]) s₁ f0 := by have q := R13; rw [((by decide) : (-(3 : Int32)) = (-3 : Int32))] at q; exact q
   obtain ⟨fs, hr, hrun, hended, hW, hsame⟩ := X0.leave (v := some (.int (-3))) (fun h => by rw [Bd.returns] at h; cases h)
   refine ⟨_, _, pre0 _ (R14 _ ?_), hrun, hended, _, _, rfl, ?_, ⟨_, rfl⟩, hW, hsame.mono (by decide) (by decide)⟩
   ·
    show own_S p e below s₁ (mkF m 71 (fA61 a1 p4 x1) [(.int (-3))]) _
    exact retI X0 hx Bd.returns (hb hby d18_71) hr
   ·
    show (Q_rmBr Z (own_br2 x0 x1 p4) h0 n0) _ s₁.heap _
    rw [e0]
    exact ⟨(-3 : Int32), rfl, N0, rfl, (Or.inr (Or.inr (Or.inr (Or.inr (⟨rfl, hs2⟩)))))⟩
  ·
   have R15 : own_R p e below s₁ (mkF m 48 (fA60 a1 p4 x1) [(.int p4), (.int x1)]) s₁ f0 := fun t k => R12 t (by
    refine XS.icmpYes X0.here hx rfl (pc0 := 33) (pc' := 45) rfl (hb hby d18_33) rfl (flt hs2).2.1 (by decide) (by decide) ?_
    refine XS.iload X0.here hx rfl (hb hby d18_45) rfl ?_
    refine XS.iloadN X0.here hx rfl (hb hby d18_47) rfl ?_
    exact k)
   by_cases hs3 : p4 < x1
   ·
    have R16 : own_R p e below s₁ (mkF m 71 (fA62 a1 p4 x1) [(.int (-(2 : Int32)))]) s₁ f0 := fun t k => R15 t (by
     refine XS.icmpNo X0.here hx rfl (hb hby d18_48) rfl (tlt hs3).2.2.2 ?_
     refine XS.iload X0.here hx rfl (hb hby d18_51) rfl ?_
     refine XS.iconst X0.here hx rfl (hb hby d18_53) ?_
     refine XS.isub X0.here hx rfl (hb hby d18_54) rfl ?_
     refine XS.istore X0.here hx rfl (hb hby d18_55) rfl (l' := (fA62 a1 p4 x1)) rfl ?_
     refine XS.goto X0.here hx rfl (pc0 := 57) (pc' := 63) rfl (hb hby d18_57) (by decide) (by decide) ?_
     refine XS.goto X0.here hx rfl (pc0 := 63) (pc' := 8) rfl (hb hby d18_63) (by decide) (by decide) ?_
     refine XS.iload X0.here hx rfl (hb hby d18_8) rfl ?_
     refine XS.iload X0.here hx rfl (hb hby d18_10) rfl ?_
     refine XS.icmpYes X0.here hx rfl (pc0 := 12) (pc' := 66) rfl (hb hby d18_12) rfl (tlt (by decide : (0 : Int32) < (1 : Int32))).2.2.1 (by decide) (by decide) ?_
     refine XS.iload X0.here hx rfl (hb hby d18_66) rfl ?_
     refine XS.iconst X0.here hx rfl (hb hby d18_68) ?_
     show own_S p e below s₁ (mkF m 69 (fA62 a1 p4 x1) [(.int 1), (.int 1)]) _
     refine XS.iadd X0.here hx rfl (hb hby d18_69) rfl ?_
     refine XS.ineg X0.here hx rfl (hb hby d18_70) rfl ?_
     exact k)
    have R17 : own_R p e below s₁ (mkF m 71 (fA62 a1 p4 x1) [(.int (-2))]) s₁ f0 := by have q := R16; rw [((by decide) : (-(2 : Int32)) = (-2 : Int32))] at q; exact q
    obtain ⟨fs, hr, hrun, hended, hW, hsame⟩ := X0.leave (v := some (.int (-2))) (fun h => by rw [Bd.returns] at h; cases h)
    refine ⟨_, _, pre0 _ (R17 _ ?_), hrun, hended, _, _, rfl, ?_, ⟨_, rfl⟩, hW, hsame.mono (by decide) (by decide)⟩
    ·
     show own_S p e below s₁ (mkF m 71 (fA62 a1 p4 x1) [(.int (-2))]) _
     exact retI X0 hx Bd.returns (hb hby d18_71) hr
    ·
     show (Q_rmBr Z (own_br2 x0 x1 p4) h0 n0) _ s₁.heap _
     rw [e0]
     exact ⟨(-2 : Int32), rfl, N0, rfl, (Or.inr (Or.inr (Or.inr (Or.inl ⟨rfl, hs1, hs3⟩))))⟩
   ·
    have R18 : own_R p e below s₁ (mkF m 62 (fA60 a1 p4 x1) [(.int 1)]) s₁ f0 := fun t k => R15 t (by
     refine XS.icmpYes X0.here hx rfl (pc0 := 48) (pc' := 60) rfl (hb hby d18_48) rfl (flt hs3).2.2.2 (by decide) (by decide) ?_
     refine XS.iload X0.here hx rfl (hb hby d18_60) rfl ?_
     exact k)
    obtain ⟨fs, hr, hrun, hended, hW, hsame⟩ := X0.leave (v := some (.int 1)) (fun h => by rw [Bd.returns] at h; cases h)
    refine ⟨_, _, pre0 _ (R18 _ ?_), hrun, hended, _, _, rfl, ?_, ⟨_, rfl⟩, hW, hsame.mono (by decide) (by decide)⟩
    ·
     show own_S p e below s₁ (mkF m 62 (fA60 a1 p4 x1) [(.int 1)]) _
     exact retI X0 hx Bd.returns (hb hby d18_62) hr
    ·
     show (Q_rmBr Z (own_br2 x0 x1 p4) h0 n0) _ s₁.heap _
     rw [e0]
     exact ⟨(1 : Int32), rfl, N0, rfl, (Or.inr (Or.inl ⟨rfl, own_eq hs2 hs3⟩))⟩
 ·
  have R19 : own_R p e below s₁ (mkF m 48 (fA59 a1 p4 x0) [(.int p4), (.int x0)]) s₁ f0 := fun t k => R6 t (by
   refine XS.icmpYes X0.here hx rfl (pc0 := 33) (pc' := 45) rfl (hb hby d18_33) rfl (flt hs1).2.1 (by decide) (by decide) ?_
   refine XS.iload X0.here hx rfl (hb hby d18_45) rfl ?_
   refine XS.iloadN X0.here hx rfl (hb hby d18_47) rfl ?_
   exact k)
  by_cases hs4 : p4 < x0
  ·
   have R20 : own_R p e below s₁ (mkF m 71 (fA51 a1 p4 x0) [(.int (-(1 : Int32)))]) s₁ f0 := fun t k => R19 t (by
    refine XS.icmpNo X0.here hx rfl (hb hby d18_48) rfl (tlt hs4).2.2.2 ?_
    refine XS.iload X0.here hx rfl (hb hby d18_51) rfl ?_
    refine XS.iconst X0.here hx rfl (hb hby d18_53) ?_
    refine XS.isub X0.here hx rfl (hb hby d18_54) rfl ?_
    refine XS.istore X0.here hx rfl (hb hby d18_55) rfl (l' := (fA51 a1 p4 x0)) rfl ?_
    refine XS.goto X0.here hx rfl (pc0 := 57) (pc' := 63) rfl (hb hby d18_57) (by decide) (by decide) ?_
    refine XS.goto X0.here hx rfl (pc0 := 63) (pc' := 8) rfl (hb hby d18_63) (by decide) (by decide) ?_
    refine XS.iload X0.here hx rfl (hb hby d18_8) rfl ?_
    refine XS.iload X0.here hx rfl (hb hby d18_10) rfl ?_
    refine XS.icmpYes X0.here hx rfl (pc0 := 12) (pc' := 66) rfl (hb hby d18_12) rfl (tlt (by decide : (-1 : Int32) < (0 : Int32))).2.2.1 (by decide) (by decide) ?_
    refine XS.iload X0.here hx rfl (hb hby d18_66) rfl ?_
    refine XS.iconst X0.here hx rfl (hb hby d18_68) ?_
    show own_S p e below s₁ (mkF m 69 (fA51 a1 p4 x0) [(.int 1), (.int 0)]) _
    refine XS.iadd X0.here hx rfl (hb hby d18_69) rfl ?_
    refine XS.ineg X0.here hx rfl (hb hby d18_70) rfl ?_
    exact k)
   have R21 : own_R p e below s₁ (mkF m 71 (fA51 a1 p4 x0) [(.int (-1))]) s₁ f0 := by have q := R20; rw [((by decide) : (-(1 : Int32)) = (-1 : Int32))] at q; exact q
   obtain ⟨fs, hr, hrun, hended, hW, hsame⟩ := X0.leave (v := some (.int (-1))) (fun h => by rw [Bd.returns] at h; cases h)
   refine ⟨_, _, pre0 _ (R21 _ ?_), hrun, hended, _, _, rfl, ?_, ⟨_, rfl⟩, hW, hsame.mono (by decide) (by decide)⟩
   ·
    show own_S p e below s₁ (mkF m 71 (fA51 a1 p4 x0) [(.int (-1))]) _
    exact retI X0 hx Bd.returns (hb hby d18_71) hr
   ·
    show (Q_rmBr Z (own_br2 x0 x1 p4) h0 n0) _ s₁.heap _
    rw [e0]
    exact ⟨(-1 : Int32), rfl, N0, rfl, (Or.inr (Or.inr (Or.inl ⟨rfl, hs4⟩)))⟩
  ·
   have R22 : own_R p e below s₁ (mkF m 62 (fA59 a1 p4 x0) [(.int 0)]) s₁ f0 := fun t k => R19 t (by
    refine XS.icmpYes X0.here hx rfl (pc0 := 48) (pc' := 60) rfl (hb hby d18_48) rfl (flt hs4).2.2.2 (by decide) (by decide) ?_
    refine XS.iload X0.here hx rfl (hb hby d18_60) rfl ?_
    exact k)
   obtain ⟨fs, hr, hrun, hended, hW, hsame⟩ := X0.leave (v := some (.int 0)) (fun h => by rw [Bd.returns] at h; cases h)
   refine ⟨_, _, pre0 _ (R22 _ ?_), hrun, hended, _, _, rfl, ?_, ⟨_, rfl⟩, hW, hsame.mono (by decide) (by decide)⟩
   ·
    show own_S p e below s₁ (mkF m 62 (fA59 a1 p4 x0) [(.int 0)]) _
    exact retI X0 hx Bd.returns (hb hby d18_62) hr
   ·
    show (Q_rmBr Z (own_br2 x0 x1 p4) h0 n0) _ s₁.heap _
    rw [e0]
    exact ⟨(0 : Int32), rfl, N0, rfl, (Or.inl ⟨rfl, own_eq hs1 hs4⟩)⟩
theorem ef_rmBz256_1 (m : MethodId) (x0 : Addr) (x1 : Int32) (x2 : Int32) (x3 : Int32) : entryFrame m #[(.ref x0), (.int x1), (.int x2), (.int x3)] 8 = mkF m 0 (fA63 x0 x1 x2 x3) [] := by first | (simp [entryFrame, mkF, argsToLocals, Value.category]; done) | rfl
set_option maxRecDepth 65536 in
set_option maxHeartbeats 40000000 in
theorem rmBz256_1 (l : Launch) (Z : State) (a0 : Array Value) (hw : ∀ d ∈ tables_1, d.before a0 Z = true) (ws : List Jvm.Cond) (a1 : Addr) (p4 : Int32) (k1 : ClassId) (x0 : Int32) (x1 : Int32) (x2 : Int32) (h0 : Heap) (n0 : Nat) (Z0 : n0 ≤ h0.size) (A_a1 : Arv Z h0 a1 k1 .int 256 [(.int x0), (.int x1), (.int x2)] (.int 0)) :
  own_M l yN1 (Jvm.Cond.code yN1 jdk_65_method_59_code 8 (some .int) :: ws) ({ frames := 0, cells := 0, slots := 0, locals := 0 } : Room) #[(.ref a1), (.int 0), (.int 1), (.int p4)] Z h0 (Q_rmBr Z (own_br1 x0 p4) h0 n0) := by
 refine MetFree.of_bodySF (plainFor_of_name pn_3) hisR ?_
 intro p e s m args below meth c s₁ Bd hml0 hP hK
 obtain ⟨rfl, hZ, hh⟩ := hP
 have hx := Bd.exec
 have hby := Bd.bytes
 have hml : c.maxLocals = 8 := hml0
 have hown : s.vm.findClass "java/util/Arrays" = some m.cls := findClass_of_methodNamed Bd.named
 have hnm := (name_of_methodNamed Bd.named Bd.method).1
 have X0 : Stand p l e ({ frames := 0, cells := 0, slots := 0, locals := 0 } : Room) s m #[(.ref a1), (.int 0), (.int 1), (.int p4)] below meth c s₁ [] 0 0 := Stand.of_body Bd
 have hU : ∀ (i : Nat) (d : Jvm.Cond), tables_1[i]? = some d → d.before a0 Z = true := fun i d h => hw d (List.mem_of_getElem? h)
 have e0 : s₁.heap = h0 := by rw [← hh, Bd.state]; rfl
 have N0 := Fr.nil n0
 obtain ⟨f0, hf0⟩ : ∃ f : JFrame, f = mkF m 0 (fA65 a1 p4) [] := ⟨_, rfl⟩
 have pre0 : ∀ t, own_S p e below s₁ f0 t → Steps p.tables e below (s₁.setTop (entryFrame m #[(.ref a1), (.int 0), (.int 1), (.int p4)] 8)) t := fun t k => castTop ((ef_rmBz256_1 m a1 (0 : Int32) (1 : Int32) p4).trans hf0.symm) k
 have R0 : own_R p e below s₁ (mkF m 0 (fA65 a1 p4) []) s₁ f0 := by rw [hf0]; exact fun t k => k
 have R1 : own_R p e below s₁ (mkF m 22 (fA43 a1 p4) [(.int (((0 : Int32).toUInt32 >>> ((1 : Int32) &&& 31).toUInt32).toInt32))]) s₁ f0 := fun t k => R0 t (by
  refine XS.iloadN X0.here hx rfl (hb hby d18_0) rfl ?_
  refine XS.istore X0.here hx rfl (hb hby d18_1) rfl (l' := #[rv a1, iv 0, iv 1, iv p4, iv 0, .unset, .unset, .unset]) rfl ?_
  refine XS.iloadN X0.here hx rfl (hb hby d18_3) rfl ?_
  refine XS.iconst X0.here hx rfl (hb hby d18_4) ?_
  refine XS.isub X0.here hx rfl (hb hby d18_5) rfl ?_
  refine XS.istore X0.here hx rfl (hb hby d18_6) rfl (l' := (fA43 a1 p4)) rfl ?_
  refine XS.iload X0.here hx rfl (hb hby d18_8) rfl ?_
  refine XS.iload X0.here hx rfl (hb hby d18_10) rfl ?_
  refine XS.icmpNo X0.here hx rfl (hb hby d18_12) rfl (flt (by decide : ¬ ((0 : Int32) < (0 : Int32)))).2.2.1 ?_
  refine XS.iload X0.here hx rfl (hb hby d18_15) rfl ?_
  refine XS.iload X0.here hx rfl (hb hby d18_17) rfl ?_
  refine XS.iadd X0.here hx rfl (hb hby d18_19) rfl ?_
  show own_S p e below s₁ (mkF m 20 (fA43 a1 p4) [(.int 0)]) _
  refine XS.iconst X0.here hx rfl (hb hby d18_20) ?_
  refine XS.iushr X0.here hx rfl (hb hby d18_21) rfl ?_
  exact k)
 have R2 : own_R p e below s₁ (mkF m 22 (fA43 a1 p4) [(.int 0)]) s₁ f0 := by have q := R1; rw [((by decide) : (((0 : Int32).toUInt32 >>> ((1 : Int32) &&& 31).toUInt32).toInt32) = (0 : Int32))] at q; exact q
 have R3 : own_R p e below s₁ (mkF m 27 (fA44 a1 p4) [(.int 0), (.ref a1)]) s₁ f0 := fun t k => R2 t (by
  refine XS.istore X0.here hx rfl (hb hby d18_22) rfl (l' := (fA44 a1 p4)) rfl ?_
  refine XS.aloadN X0.here hx rfl (hb hby d18_24) rfl rfl ?_
  refine XS.iload X0.here hx rfl (hb hby d18_25) rfl ?_
  exact k)
 obtain ⟨cl4, Ar4, q4, S4, n4_, H4, G4⟩ := id A_a1
 have hin4 : ¬ ((0 : Int32) < 0 ∨ cl4.slots.size ≤ ((0 : Int32)).toNatClampNeg) := inb_of S4 ⟨by decide, by decide⟩
 have hat4 : cl4.slots[((0 : Int32)).toNatClampNeg]? = some (.int x0) := Has.at H4 hin4 rfl
 have R5 : own_R p e below s₁ (mkF m 28 (fA44 a1 p4) [(.int x0)]) s₁ f0 := fun t k => R3 t (X0.iaload hx (j := (0 : Int32)) (v := (.int x0)) (by rw [e0]; exact Ar4.1) (State.isArrayOf_alike hZ.alike Ar4.2.1) Ar4.2.2 hin4 hat4 (g := (mkF m 27 (fA44 a1 p4) [(.int 0), (.ref a1)])) rfl rfl (hb hby d18_27) _ k)
 have R6 : own_R p e below s₁ (mkF m 33 (fA40 a1 p4 x0) [(.int p4), (.int x0)]) s₁ f0 := fun t k => R5 t (by
  refine XS.istore X0.here hx rfl (hb hby d18_28) rfl (l' := (fA40 a1 p4 x0)) rfl ?_
  refine XS.iload X0.here hx rfl (hb hby d18_30) rfl ?_
  refine XS.iloadN X0.here hx rfl (hb hby d18_32) rfl ?_
  exact k)
 by_cases hs1 : x0 < p4
 ·
  have R7 : own_R p e below s₁ (mkF m 71 (fA41 a1 p4 x0) [(.int (-(2 : Int32)))]) s₁ f0 := fun t k => R6 t (by
   refine XS.icmpNo X0.here hx rfl (hb hby d18_33) rfl (tlt hs1).2.1 ?_
   refine XS.iload X0.here hx rfl (hb hby d18_36) rfl ?_
   refine XS.iconst X0.here hx rfl (hb hby d18_38) ?_
   refine XS.iadd X0.here hx rfl (hb hby d18_39) rfl ?_
   refine XS.istore X0.here hx rfl (hb hby d18_40) rfl (l' := (fA41 a1 p4 x0)) rfl ?_
   refine XS.goto X0.here hx rfl (pc0 := 42) (pc' := 63) rfl (hb hby d18_42) (by decide) (by decide) ?_
   refine XS.goto X0.here hx rfl (pc0 := 63) (pc' := 8) rfl (hb hby d18_63) (by decide) (by decide) ?_
   refine XS.iload X0.here hx rfl (hb hby d18_8) rfl ?_
   refine XS.iload X0.here hx rfl (hb hby d18_10) rfl ?_
   refine XS.icmpYes X0.here hx rfl (pc0 := 12) (pc' := 66) rfl (hb hby d18_12) rfl (tlt (by decide : (0 : Int32) < (1 : Int32))).2.2.1 (by decide) (by decide) ?_
   refine XS.iload X0.here hx rfl (hb hby d18_66) rfl ?_
   refine XS.iconst X0.here hx rfl (hb hby d18_68) ?_
   show own_S p e below s₁ (mkF m 69 (fA41 a1 p4 x0) [(.int 1), (.int 1)]) _
   refine XS.iadd X0.here hx rfl (hb hby d18_69) rfl ?_
   refine XS.ineg X0.here hx rfl (hb hby d18_70) rfl ?_
   exact k)
  have R8 : own_R p e below s₁ (mkF m 71 (fA41 a1 p4 x0) [(.int (-2))]) s₁ f0 := by have q := R7; rw [((by decide) : (-(2 : Int32)) = (-2 : Int32))] at q; exact q
  obtain ⟨fs, hr, hrun, hended, hW, hsame⟩ := X0.leave (v := some (.int (-2))) (fun h => by rw [Bd.returns] at h; cases h)
  refine ⟨_, _, pre0 _ (R8 _ ?_), hrun, hended, _, _, rfl, ?_, ⟨_, rfl⟩, hW, hsame.mono (by decide) (by decide)⟩
  ·
   show own_S p e below s₁ (mkF m 71 (fA41 a1 p4 x0) [(.int (-2))]) _
   exact retI X0 hx Bd.returns (hb hby d18_71) hr
  ·
   show (Q_rmBr Z (own_br1 x0 p4) h0 n0) _ s₁.heap _
   rw [e0]
   exact ⟨(-2 : Int32), rfl, N0, rfl, (Or.inr (Or.inr (⟨rfl, hs1⟩)))⟩
 ·
  have R9 : own_R p e below s₁ (mkF m 48 (fA40 a1 p4 x0) [(.int p4), (.int x0)]) s₁ f0 := fun t k => R6 t (by
   refine XS.icmpYes X0.here hx rfl (pc0 := 33) (pc' := 45) rfl (hb hby d18_33) rfl (flt hs1).2.1 (by decide) (by decide) ?_
   refine XS.iload X0.here hx rfl (hb hby d18_45) rfl ?_
   refine XS.iloadN X0.here hx rfl (hb hby d18_47) rfl ?_
   exact k)
  by_cases hs2 : p4 < x0
  ·
   have R10 : own_R p e below s₁ (mkF m 71 (fA39 a1 p4 x0) [(.int (-(1 : Int32)))]) s₁ f0 := fun t k => R9 t (by
    refine XS.icmpNo X0.here hx rfl (hb hby d18_48) rfl (tlt hs2).2.2.2 ?_
    refine XS.iload X0.here hx rfl (hb hby d18_51) rfl ?_
    refine XS.iconst X0.here hx rfl (hb hby d18_53) ?_
    refine XS.isub X0.here hx rfl (hb hby d18_54) rfl ?_
    refine XS.istore X0.here hx rfl (hb hby d18_55) rfl (l' := (fA39 a1 p4 x0)) rfl ?_
    refine XS.goto X0.here hx rfl (pc0 := 57) (pc' := 63) rfl (hb hby d18_57) (by decide) (by decide) ?_
    refine XS.goto X0.here hx rfl (pc0 := 63) (pc' := 8) rfl (hb hby d18_63) (by decide) (by decide) ?_
    refine XS.iload X0.here hx rfl (hb hby d18_8) rfl ?_
    refine XS.iload X0.here hx rfl (hb hby d18_10) rfl ?_
    refine XS.icmpYes X0.here hx rfl (pc0 := 12) (pc' := 66) rfl (hb hby d18_12) rfl (tlt (by decide : (-1 : Int32) < (0 : Int32))).2.2.1 (by decide) (by decide) ?_
    refine XS.iload X0.here hx rfl (hb hby d18_66) rfl ?_
    refine XS.iconst X0.here hx rfl (hb hby d18_68) ?_
    show own_S p e below s₁ (mkF m 69 (fA39 a1 p4 x0) [(.int 1), (.int 0)]) _
    refine XS.iadd X0.here hx rfl (hb hby d18_69) rfl ?_
    refine XS.ineg X0.here hx rfl (hb hby d18_70) rfl ?_
    exact k)
   have R11 : own_R p e below s₁ (mkF m 71 (fA39 a1 p4 x0) [(.int (-1))]) s₁ f0 := by have q := R10; rw [((by decide) : (-(1 : Int32)) = (-1 : Int32))] at q; exact q
   obtain ⟨fs, hr, hrun, hended, hW, hsame⟩ := X0.leave (v := some (.int (-1))) (fun h => by rw [Bd.returns] at h; cases h)
   refine ⟨_, _, pre0 _ (R11 _ ?_), hrun, hended, _, _, rfl, ?_, ⟨_, rfl⟩, hW, hsame.mono (by decide) (by decide)⟩
   ·
    show own_S p e below s₁ (mkF m 71 (fA39 a1 p4 x0) [(.int (-1))]) _
    exact retI X0 hx Bd.returns (hb hby d18_71) hr
   ·
    show (Q_rmBr Z (own_br1 x0 p4) h0 n0) _ s₁.heap _
    rw [e0]
    exact ⟨(-1 : Int32), rfl, N0, rfl, (Or.inr (Or.inl ⟨rfl, hs2⟩))⟩
  ·
   have R12 : own_R p e below s₁ (mkF m 62 (fA40 a1 p4 x0) [(.int 0)]) s₁ f0 := fun t k => R9 t (by
    refine XS.icmpYes X0.here hx rfl (pc0 := 48) (pc' := 60) rfl (hb hby d18_48) rfl (flt hs2).2.2.2 (by decide) (by decide) ?_
    refine XS.iload X0.here hx rfl (hb hby d18_60) rfl ?_
    exact k)
   obtain ⟨fs, hr, hrun, hended, hW, hsame⟩ := X0.leave (v := some (.int 0)) (fun h => by rw [Bd.returns] at h; cases h)
   refine ⟨_, _, pre0 _ (R12 _ ?_), hrun, hended, _, _, rfl, ?_, ⟨_, rfl⟩, hW, hsame.mono (by decide) (by decide)⟩
   ·
    show own_S p e below s₁ (mkF m 62 (fA40 a1 p4 x0) [(.int 0)]) _
    exact retI X0 hx Bd.returns (hb hby d18_62) hr
   ·
    show (Q_rmBr Z (own_br1 x0 p4) h0 n0) _ s₁.heap _
    rw [e0]
    exact ⟨(0 : Int32), rfl, N0, rfl, (Or.inl ⟨rfl, own_eq hs1 hs2⟩)⟩
theorem ef_rmBz1_1 (m : MethodId) (x0 : Addr) (x1 : Int32) (x2 : Int32) (x3 : Int32) : entryFrame m #[(.ref x0), (.int x1), (.int x2), (.int x3)] 8 = mkF m 0 (fA63 x0 x1 x2 x3) [] := by first | (simp [entryFrame, mkF, argsToLocals, Value.category]; done) | rfl
set_option maxRecDepth 65536 in
set_option maxHeartbeats 40000000 in
theorem rmBz1_1 (l : Launch) (Z : State) (a0 : Array Value) (hw : ∀ d ∈ tables_1, d.before a0 Z = true) (ws : List Jvm.Cond) (a1 : Addr) (p4 : Int32) (k1 : ClassId) (x0 : Int32) (h0 : Heap) (n0 : Nat) (Z0 : n0 ≤ h0.size) (A_a1 : Arv Z h0 a1 k1 .int 1 [(.int x0)] (.int 0)) :
  own_M l yN1 (Jvm.Cond.code yN1 jdk_65_method_59_code 8 (some .int) :: ws) ({ frames := 0, cells := 0, slots := 0, locals := 0 } : Room) #[(.ref a1), (.int 0), (.int 1), (.int p4)] Z h0 (Q_rmBr Z (own_br1 x0 p4) h0 n0) := by
 refine MetFree.of_bodySF (plainFor_of_name pn_3) hisR ?_
 intro p e s m args below meth c s₁ Bd hml0 hP hK
 obtain ⟨rfl, hZ, hh⟩ := hP
 have hx := Bd.exec
 have hby := Bd.bytes
 have hml : c.maxLocals = 8 := hml0
 have hown : s.vm.findClass "java/util/Arrays" = some m.cls := findClass_of_methodNamed Bd.named
 have hnm := (name_of_methodNamed Bd.named Bd.method).1
 have X0 : Stand p l e ({ frames := 0, cells := 0, slots := 0, locals := 0 } : Room) s m #[(.ref a1), (.int 0), (.int 1), (.int p4)] below meth c s₁ [] 0 0 := Stand.of_body Bd
 have hU : ∀ (i : Nat) (d : Jvm.Cond), tables_1[i]? = some d → d.before a0 Z = true := fun i d h => hw d (List.mem_of_getElem? h)
 have e0 : s₁.heap = h0 := by rw [← hh, Bd.state]; rfl
 have N0 := Fr.nil n0
 obtain ⟨f0, hf0⟩ : ∃ f : JFrame, f = mkF m 0 (fA65 a1 p4) [] := ⟨_, rfl⟩
 have pre0 : ∀ t, own_S p e below s₁ f0 t → Steps p.tables e below (s₁.setTop (entryFrame m #[(.ref a1), (.int 0), (.int 1), (.int p4)] 8)) t := fun t k => castTop ((ef_rmBz1_1 m a1 (0 : Int32) (1 : Int32) p4).trans hf0.symm) k
 have R0 : own_R p e below s₁ (mkF m 0 (fA65 a1 p4) []) s₁ f0 := by rw [hf0]; exact fun t k => k
 have R1 : own_R p e below s₁ (mkF m 22 (fA43 a1 p4) [(.int (((0 : Int32).toUInt32 >>> ((1 : Int32) &&& 31).toUInt32).toInt32))]) s₁ f0 := fun t k => R0 t (by
  refine XS.iloadN X0.here hx rfl (hb hby d18_0) rfl ?_
  refine XS.istore X0.here hx rfl (hb hby d18_1) rfl (l' := #[rv a1, iv 0, iv 1, iv p4, iv 0, .unset, .unset, .unset]) rfl ?_
  refine XS.iloadN X0.here hx rfl (hb hby d18_3) rfl ?_
  refine XS.iconst X0.here hx rfl (hb hby d18_4) ?_
  refine XS.isub X0.here hx rfl (hb hby d18_5) rfl ?_
  refine XS.istore X0.here hx rfl (hb hby d18_6) rfl (l' := (fA43 a1 p4)) rfl ?_
  refine XS.iload X0.here hx rfl (hb hby d18_8) rfl ?_
  refine XS.iload X0.here hx rfl (hb hby d18_10) rfl ?_
  refine XS.icmpNo X0.here hx rfl (hb hby d18_12) rfl (flt (by decide : ¬ ((0 : Int32) < (0 : Int32)))).2.2.1 ?_
  refine XS.iload X0.here hx rfl (hb hby d18_15) rfl ?_
  refine XS.iload X0.here hx rfl (hb hby d18_17) rfl ?_
  refine XS.iadd X0.here hx rfl (hb hby d18_19) rfl ?_
  show own_S p e below s₁ (mkF m 20 (fA43 a1 p4) [(.int 0)]) _
  refine XS.iconst X0.here hx rfl (hb hby d18_20) ?_
  refine XS.iushr X0.here hx rfl (hb hby d18_21) rfl ?_
  exact k)
 have R2 : own_R p e below s₁ (mkF m 22 (fA43 a1 p4) [(.int 0)]) s₁ f0 := by have q := R1; rw [((by decide) : (((0 : Int32).toUInt32 >>> ((1 : Int32) &&& 31).toUInt32).toInt32) = (0 : Int32))] at q; exact q
 have R3 : own_R p e below s₁ (mkF m 27 (fA44 a1 p4) [(.int 0), (.ref a1)]) s₁ f0 := fun t k => R2 t (by
  refine XS.istore X0.here hx rfl (hb hby d18_22) rfl (l' := (fA44 a1 p4)) rfl ?_
  refine XS.aloadN X0.here hx rfl (hb hby d18_24) rfl rfl ?_
  refine XS.iload X0.here hx rfl (hb hby d18_25) rfl ?_
  exact k)
 obtain ⟨cl4, Ar4, q4, S4, n4_, H4, G4⟩ := id A_a1
 have hin4 : ¬ ((0 : Int32) < 0 ∨ cl4.slots.size ≤ ((0 : Int32)).toNatClampNeg) := inb_of S4 ⟨by decide, by decide⟩
 have hat4 : cl4.slots[((0 : Int32)).toNatClampNeg]? = some (.int x0) := Has.at H4 hin4 rfl
 have R5 : own_R p e below s₁ (mkF m 28 (fA44 a1 p4) [(.int x0)]) s₁ f0 := fun t k => R3 t (X0.iaload hx (j := (0 : Int32)) (v := (.int x0)) (by rw [e0]; exact Ar4.1) (State.isArrayOf_alike hZ.alike Ar4.2.1) Ar4.2.2 hin4 hat4 (g := (mkF m 27 (fA44 a1 p4) [(.int 0), (.ref a1)])) rfl rfl (hb hby d18_27) _ k)
 have R6 : own_R p e below s₁ (mkF m 33 (fA40 a1 p4 x0) [(.int p4), (.int x0)]) s₁ f0 := fun t k => R5 t (by
  refine XS.istore X0.here hx rfl (hb hby d18_28) rfl (l' := (fA40 a1 p4 x0)) rfl ?_
  refine XS.iload X0.here hx rfl (hb hby d18_30) rfl ?_
  refine XS.iloadN X0.here hx rfl (hb hby d18_32) rfl ?_
  exact k)
 by_cases hs1 : x0 < p4
 ·
  have R7 : own_R p e below s₁ (mkF m 71 (fA41 a1 p4 x0) [(.int (-(2 : Int32)))]) s₁ f0 := fun t k => R6 t (by
   refine XS.icmpNo X0.here hx rfl (hb hby d18_33) rfl (tlt hs1).2.1 ?_
   refine XS.iload X0.here hx rfl (hb hby d18_36) rfl ?_
   refine XS.iconst X0.here hx rfl (hb hby d18_38) ?_
   refine XS.iadd X0.here hx rfl (hb hby d18_39) rfl ?_
   refine XS.istore X0.here hx rfl (hb hby d18_40) rfl (l' := (fA41 a1 p4 x0)) rfl ?_
   refine XS.goto X0.here hx rfl (pc0 := 42) (pc' := 63) rfl (hb hby d18_42) (by decide) (by decide) ?_
   refine XS.goto X0.here hx rfl (pc0 := 63) (pc' := 8) rfl (hb hby d18_63) (by decide) (by decide) ?_
   refine XS.iload X0.here hx rfl (hb hby d18_8) rfl ?_
   refine XS.iload X0.here hx rfl (hb hby d18_10) rfl ?_
   refine XS.icmpYes X0.here hx rfl (pc0 := 12) (pc' := 66) rfl (hb hby d18_12) rfl (tlt (by decide : (0 : Int32) < (1 : Int32))).2.2.1 (by decide) (by decide) ?_
   refine XS.iload X0.here hx rfl (hb hby d18_66) rfl ?_
   refine XS.iconst X0.here hx rfl (hb hby d18_68) ?_
   show own_S p e below s₁ (mkF m 69 (fA41 a1 p4 x0) [(.int 1), (.int 1)]) _
   refine XS.iadd X0.here hx rfl (hb hby d18_69) rfl ?_
   refine XS.ineg X0.here hx rfl (hb hby d18_70) rfl ?_
   exact k)
  have R8 : own_R p e below s₁ (mkF m 71 (fA41 a1 p4 x0) [(.int (-2))]) s₁ f0 := by have q := R7; rw [((by decide) : (-(2 : Int32)) = (-2 : Int32))] at q; exact q
  obtain ⟨fs, hr, hrun, hended, hW, hsame⟩ := X0.leave (v := some (.int (-2))) (fun h => by rw [Bd.returns] at h; cases h)
  refine ⟨_, _, pre0 _ (R8 _ ?_), hrun, hended, _, _, rfl, ?_, ⟨_, rfl⟩, hW, hsame.mono (by decide) (by decide)⟩
  ·
   show own_S p e below s₁ (mkF m 71 (fA41 a1 p4 x0) [(.int (-2))]) _
   exact retI X0 hx Bd.returns (hb hby d18_71) hr
  ·
   show (Q_rmBr Z (own_br1 x0 p4) h0 n0) _ s₁.heap _
   rw [e0]
   exact ⟨(-2 : Int32), rfl, N0, rfl, (Or.inr (Or.inr (⟨rfl, hs1⟩)))⟩
 ·
  have R9 : own_R p e below s₁ (mkF m 48 (fA40 a1 p4 x0) [(.int p4), (.int x0)]) s₁ f0 := fun t k => R6 t (by
   refine XS.icmpYes X0.here hx rfl (pc0 := 33) (pc' := 45) rfl (hb hby d18_33) rfl (flt hs1).2.1 (by decide) (by decide) ?_
   refine XS.iload X0.here hx rfl (hb hby d18_45) rfl ?_
   refine XS.iloadN X0.here hx rfl (hb hby d18_47) rfl ?_
   exact k)
  by_cases hs2 : p4 < x0
  ·
   have R10 : own_R p e below s₁ (mkF m 71 (fA39 a1 p4 x0) [(.int (-(1 : Int32)))]) s₁ f0 := fun t k => R9 t (by
    refine XS.icmpNo X0.here hx rfl (hb hby d18_48) rfl (tlt hs2).2.2.2 ?_
    refine XS.iload X0.here hx rfl (hb hby d18_51) rfl ?_
    refine XS.iconst X0.here hx rfl (hb hby d18_53) ?_
    refine XS.isub X0.here hx rfl (hb hby d18_54) rfl ?_
    refine XS.istore X0.here hx rfl (hb hby d18_55) rfl (l' := (fA39 a1 p4 x0)) rfl ?_
    refine XS.goto X0.here hx rfl (pc0 := 57) (pc' := 63) rfl (hb hby d18_57) (by decide) (by decide) ?_
    refine XS.goto X0.here hx rfl (pc0 := 63) (pc' := 8) rfl (hb hby d18_63) (by decide) (by decide) ?_
    refine XS.iload X0.here hx rfl (hb hby d18_8) rfl ?_
    refine XS.iload X0.here hx rfl (hb hby d18_10) rfl ?_
    refine XS.icmpYes X0.here hx rfl (pc0 := 12) (pc' := 66) rfl (hb hby d18_12) rfl (tlt (by decide : (-1 : Int32) < (0 : Int32))).2.2.1 (by decide) (by decide) ?_
    refine XS.iload X0.here hx rfl (hb hby d18_66) rfl ?_
    refine XS.iconst X0.here hx rfl (hb hby d18_68) ?_
    show own_S p e below s₁ (mkF m 69 (fA39 a1 p4 x0) [(.int 1), (.int 0)]) _
    refine XS.iadd X0.here hx rfl (hb hby d18_69) rfl ?_
    refine XS.ineg X0.here hx rfl (hb hby d18_70) rfl ?_
    exact k)
   have R11 : own_R p e below s₁ (mkF m 71 (fA39 a1 p4 x0) [(.int (-1))]) s₁ f0 := by have q := R10; rw [((by decide) : (-(1 : Int32)) = (-1 : Int32))] at q; exact q
   obtain ⟨fs, hr, hrun, hended, hW, hsame⟩ := X0.leave (v := some (.int (-1))) (fun h => by rw [Bd.returns] at h; cases h)
   refine ⟨_, _, pre0 _ (R11 _ ?_), hrun, hended, _, _, rfl, ?_, ⟨_, rfl⟩, hW, hsame.mono (by decide) (by decide)⟩
   ·
    show own_S p e below s₁ (mkF m 71 (fA39 a1 p4 x0) [(.int (-1))]) _
    exact retI X0 hx Bd.returns (hb hby d18_71) hr
   ·
    show (Q_rmBr Z (own_br1 x0 p4) h0 n0) _ s₁.heap _
    rw [e0]
    exact ⟨(-1 : Int32), rfl, N0, rfl, (Or.inr (Or.inl ⟨rfl, hs2⟩))⟩
  ·
   have R12 : own_R p e below s₁ (mkF m 62 (fA40 a1 p4 x0) [(.int 0)]) s₁ f0 := fun t k => R9 t (by
    refine XS.icmpYes X0.here hx rfl (pc0 := 48) (pc' := 60) rfl (hb hby d18_48) rfl (flt hs2).2.2.2 (by decide) (by decide) ?_
    refine XS.iload X0.here hx rfl (hb hby d18_60) rfl ?_
    exact k)
   obtain ⟨fs, hr, hrun, hended, hW, hsame⟩ := X0.leave (v := some (.int 0)) (fun h => by rw [Bd.returns] at h; cases h)
   refine ⟨_, _, pre0 _ (R12 _ ?_), hrun, hended, _, _, rfl, ?_, ⟨_, rfl⟩, hW, hsame.mono (by decide) (by decide)⟩
   ·
    show own_S p e below s₁ (mkF m 62 (fA40 a1 p4 x0) [(.int 0)]) _
    exact retI X0 hx Bd.returns (hb hby d18_62) hr
   ·
    show (Q_rmBr Z (own_br1 x0 p4) h0 n0) _ s₁.heap _
    rw [e0]
    exact ⟨(0 : Int32), rfl, N0, rfl, (Or.inl ⟨rfl, own_eq hs1 hs2⟩)⟩
theorem ef_rmRc (m : MethodId) (x0 : Int32) (x1 : Int32) (x2 : Int32) : entryFrame m #[(.int x0), (.int x1), (.int x2)] 3 = mkF m 0 #[iv x0, iv x1, iv x2] [] := by first | (simp [entryFrame, mkF, argsToLocals, Value.category]; done) | rfl
def Q_rmRc (Z : State) (p1 : Int32) (p3 : Int32) (h0 : Heap) (n0 : Nat) (v : Option Value) (h : Heap) (L : List Loc) : Prop := v = none ∧ Fr n0 L ∧ h = h0
set_option maxRecDepth 65536 in
set_option maxHeartbeats 40000000 in
theorem rmRc (l : Launch) (Z : State) (a0 : Array Value) (hw : ∀ d ∈ tables_1, d.before a0 Z = true) (ws : List Jvm.Cond) (p1 : Int32) (p3 : Int32) (h0 : Heap) (n0 : Nat) (Z0 : n0 ≤ h0.size) (hn : ¬ p3 < (0 : Int32)) (hz : ¬ p1 < p3) :
  own_M l yN14 (Jvm.Cond.code yN14 jdk_65_method_30_code 3 none :: ws) ({ frames := 0, cells := 0, slots := 0, locals := 0 } : Room) #[(.int p1), (.int 0), (.int p3)] Z h0 (Q_rmRc Z p1 p3 h0 n0) := by
 refine MetFree.of_bodySF (plainFor_of_name pn_3) hisR ?_
 intro p e s m args below meth c s₁ Bd hml0 hP hK
 obtain ⟨rfl, hZ, hh⟩ := hP
 have hx := Bd.exec
 have hby := Bd.bytes
 have hml : c.maxLocals = 3 := hml0
 have hown : s.vm.findClass "java/util/Arrays" = some m.cls := findClass_of_methodNamed Bd.named
 have hnm := (name_of_methodNamed Bd.named Bd.method).1
 have X0 : Stand p l e ({ frames := 0, cells := 0, slots := 0, locals := 0 } : Room) s m #[(.int p1), (.int 0), (.int p3)] below meth c s₁ [] 0 0 := Stand.of_body Bd
 have hU : ∀ (i : Nat) (d : Jvm.Cond), tables_1[i]? = some d → d.before a0 Z = true := fun i d h => hw d (List.mem_of_getElem? h)
 have e0 : s₁.heap = h0 := by rw [← hh, Bd.state]; rfl
 have N0 := Fr.nil n0
 obtain ⟨f0, hf0⟩ : ∃ f : JFrame, f = mkF m 0 #[iv p1, iv 0, iv p3] [] := ⟨_, rfl⟩
 have pre0 : ∀ t, own_S p e below s₁ f0 t → Steps p.tables e below (s₁.setTop (entryFrame m #[(.int p1), (.int 0), (.int p3)] 3)) t := fun t k => castTop ((ef_rmRc m p1 (0 : Int32) p3).trans hf0.symm) k
 have R0 : own_R p e below s₁ (mkF m 0 #[iv p1, iv 0, iv p3] []) s₁ f0 := by rw [hf0]; exact fun t k => k
 have R1 : own_R p e below s₁ (mkF m 73 #[iv p1, iv 0, iv p3] []) s₁ f0 := fun t k => R0 t (by
  refine XS.iloadN X0.here hx rfl (hb hby d17_0) rfl ?_
  refine XS.iloadN X0.here hx rfl (hb hby d17_1) rfl ?_
  refine XS.icmpYes X0.here hx rfl (pc0 := 2) (pc' := 46) rfl (hb hby d17_2) rfl (flt hn).2.2.2 (by decide) (by decide) ?_
  refine XS.iloadN X0.here hx rfl (hb hby d17_46) rfl ?_
  refine XS.ifYes X0.here hx rfl (pc0 := 47) (pc' := 59) rfl (hb hby d17_47) rfl ((if0 _ _).trans (flt (by decide : ¬ ((0 : Int32) < (0 : Int32)))).2.1) (by decide) (by decide) ?_
  refine XS.iloadN X0.here hx rfl (hb hby d17_59) rfl ?_
  refine XS.iloadN X0.here hx rfl (hb hby d17_60) rfl ?_
  refine XS.icmpYes X0.here hx rfl (pc0 := 61) (pc' := 73) rfl (hb hby d17_61) rfl (flt hz).2.2.2 (by decide) (by decide) ?_
  exact k)
 obtain ⟨fs, hr, hrun, hended, hW, hsame⟩ := X0.leave (v := none) (fun _ => rfl)
 refine ⟨_, _, pre0 _ (R1 _ ?_), hrun, hended, _, _, rfl, ?_, ⟨_, rfl⟩, hW, hsame.mono (by decide) (by decide)⟩
 ·
  show own_S p e below s₁ (mkF m 73 #[iv p1, iv 0, iv p3] []) _
  exact X0.returnOut hx Bd.returns (hb hby d17_73) hr
 ·
  show Q_rmRc Z p1 p3 h0 n0 _ s₁.heap _
  rw [e0]
  exact ⟨rfl, N0, rfl⟩
theorem ef_rmBs (m : MethodId) (x0 : Addr) (x1 : Int32) (x2 : Int32) (x3 : Int32) : entryFrame m #[(.ref x0), (.int x1), (.int x2), (.int x3)] 4 = mkF m 0 #[rv x0, iv x1, iv x2, iv x3] [] := by first | (simp [entryFrame, mkF, argsToLocals, Value.category]; done) | rfl
set_option maxRecDepth 65536 in
set_option maxHeartbeats 40000000 in
theorem rmBs (l : Launch) (Z : State) (a0 : Array Value) (hw : ∀ d ∈ tables_1, d.before a0 Z = true) (ws : List Jvm.Cond) (a1 : Addr) (k1 : ClassId) (z : Int32) (vs : List Value) (p3 : Int32) (p4 : Int32) (pp : Int32 → Prop) (h0 : Heap) (n0 : Nat) (Z0 : n0 ≤ h0.size) (A_a1 : Arv Z h0 a1 k1 .int z vs (.int 0)) (hn : ¬ p3 < (0 : Int32)) (hz : ¬ z < p3) (hB : own_M l yN1 [Jvm.Cond.code yN1 jdk_65_method_59_code 8 (some .int)] ({ frames := 0, cells := 0, slots := 0, locals := 0 } : Room) #[(.ref a1), (.int 0), (.int p3), (.int p4)] Z h0 (Q_rmBr Z pp h0 n0)) :
  own_M l yN12 (Jvm.Cond.code yN12 jdk_65_method_58_code 4 (some .int) :: ws) ({ frames := 1, cells := 0, slots := 0, locals := 19 } : Room) #[(.ref a1), (.int 0), (.int p3), (.int p4)] Z h0 (Q_rmBr Z pp h0 n0) := by
 refine MetFree.of_bodySF (plainFor_of_name pn_3) hisR ?_
 intro p e s m args below meth c s₁ Bd hml0 hP hK
 obtain ⟨rfl, hZ, hh⟩ := hP
 have hx := Bd.exec
 have hby := Bd.bytes
 have hml : c.maxLocals = 4 := hml0
 have hown : s.vm.findClass "java/util/Arrays" = some m.cls := findClass_of_methodNamed Bd.named
 have hnm := (name_of_methodNamed Bd.named Bd.method).1
 have X0 : Stand p l e ({ frames := 1, cells := 0, slots := 0, locals := 19 } : Room) s m #[(.ref a1), (.int 0), (.int p3), (.int p4)] below meth c s₁ [] 0 0 := Stand.of_body Bd
 have hU : ∀ (i : Nat) (d : Jvm.Cond), tables_1[i]? = some d → d.before a0 Z = true := fun i d h => hw d (List.mem_of_getElem? h)
 have e0 : s₁.heap = h0 := by rw [← hh, Bd.state]; rfl
 have N0 := Fr.nil n0
 obtain ⟨f0, hf0⟩ : ∃ f : JFrame, f = mkF m 0 #[rv a1, iv 0, iv p3, iv p4] [] := ⟨_, rfl⟩
 have pre0 : ∀ t, own_S p e below s₁ f0 t → Steps p.tables e below (s₁.setTop (entryFrame m #[(.ref a1), (.int 0), (.int p3), (.int p4)] 4)) t := fun t k => castTop ((ef_rmBs m a1 (0 : Int32) p3 p4).trans hf0.symm) k
 have R0 : own_R p e below s₁ (mkF m 0 #[rv a1, iv 0, iv p3, iv p4] []) s₁ f0 := by rw [hf0]; exact fun t k => k
 have R1 : own_R p e below s₁ (mkF m 1 #[rv a1, iv 0, iv p3, iv p4] [(.ref a1)]) s₁ f0 := fun t k => R0 t (by
  refine XS.aloadN X0.here hx rfl (hb hby d16_0) rfl rfl ?_
  exact k)
 obtain ⟨cl2, Ar2, -, S2, N2_, -, -⟩ := id A_a1
 have R3 : own_R p e below s₁ (mkF m 2 #[rv a1, iv 0, iv p3, iv p4] [(.int z)]) s₁ f0 := fun t k => R1 t (X0.arraylength hx (by rw [e0]; exact Ar2.1) (State.isArrayOf_alike hZ.alike Ar2.2.1) (g := (mkF m 1 #[rv a1, iv 0, iv p3, iv p4] [(.ref a1)])) rfl rfl (hb hby d16_1) _ (by rw [len_of S2 N2_]; exact k))
 have R4 : own_R p e below s₁ (mkF m 4 #[rv a1, iv 0, iv p3, iv p4] [(.int p3), (.int 0), (.int z)]) s₁ f0 := fun t k => R3 t (by
  refine XS.iloadN X0.here hx rfl (hb hby d16_2) rfl ?_
  refine XS.iloadN X0.here hx rfl (hb hby d16_3) rfl ?_
  exact k)
 obtain ⟨_, _, ⟨T5, L5, k5, n5⟩, -, X5, ⟨Lc5, hQ5, l5, y5, z5⟩, st5⟩ := Jvm.LawKit.callS X0 hx (y := yN14) hown (mvT hZ (hU 115 _ rfl)) (mvT hZ (hU 116 _ rfl)) (mvT hZ (hU 113 _ rfl)) (mvT hZ (hU 117 _ rfl)) (by decide) (backOf (W := 0) (rmRc l Z a0 hw [] z p3 h0 n0 Z0 hn hz) hZ (hU 117 _ rfl) (hU 113 _ rfl) (by decide) (by decide)) (g := (mkF m 4 #[rv a1, iv 0, iv p3, iv p4] [(.int p3), (.int 0), (.int z)])) rfl (by rw [hml]; rfl) (argsL := [(.int z), (.int 0), (.int p3)]) (rest := []) (lenOf pd_4 rfl) rfl (Nat.le_of_eq rfl) (hb hby d16_4) (fun _ _ => ⟨rfl, e0, (by decide : 0 + 0 ≤ _), (by decide : 0 + 0 ≤ _)⟩)
 dsimp only [Pt.U, Pt.locs, Pt.cells, Pt.slots] at X5 l5 y5 z5 st5 hQ5
 subst l5 y5 z5
 obtain ⟨rfl, N5q, p5_0⟩ := hQ5
 have N5 := Fr.app N0 N5q
 have R6 := fun t k => R4 t (st5 t k)
 have R7 : own_R p e below T5 (mkF m 11 #[rv a1, iv 0, iv p3, iv p4] [(.int p4), (.int p3), (.int 0), (.ref a1)]) s₁ f0 := fun t k => R6 t (by
  refine XS.aloadN X5.here hx rfl (hb hby d16_7) rfl rfl ?_
  refine XS.iloadN X5.here hx rfl (hb hby d16_8) rfl ?_
  refine XS.iloadN X5.here hx rfl (hb hby d16_9) rfl ?_
  refine XS.iloadN X5.here hx rfl (hb hby d16_10) rfl ?_
  exact k)
 obtain ⟨_, _, ⟨T8, L8, k8, n8⟩, -, X8, ⟨Lc8, hQ8, l8, y8, z8⟩, st8⟩ := Jvm.LawKit.callS X5 hx (y := yN1) hown (mvT hZ (hU 118 _ rfl)) (mvT hZ (hU 119 _ rfl)) (mvT hZ (hU 113 _ rfl)) (mvT hZ (hU 120 _ rfl)) (by decide) (backOf (W := 0) hB hZ (hU 120 _ rfl) (hU 113 _ rfl) (by decide) (by decide)) (g := (mkF m 11 #[rv a1, iv 0, iv p3, iv p4] [(.int p4), (.int p3), (.int 0), (.ref a1)])) rfl (by rw [hml]; rfl) (argsL := [(.ref a1), (.int 0), (.int p3), (.int p4)]) (rest := []) (lenOf pd_5 rfl) rfl (Nat.le_of_eq rfl) (hb hby d16_11) (fun _ _ => ⟨rfl, p5_0, (by decide : 0 + 0 ≤ _), (by decide : 0 + 0 ≤ _)⟩)
 dsimp only [Pt.U, Pt.locs, Pt.cells, Pt.slots] at X8 l8 y8 z8 st8 hQ8
 subst l8 y8 z8
 obtain ⟨r_8, rfl, N8q, p8_0, p8_1⟩ := hQ8
 have N8 := Fr.app N5 N8q
 have R9 := fun t k => R7 t (st8 t k)
 obtain ⟨fs, hr, hrun, hended, hW, hsame⟩ := X8.leave (v := some (.int r_8)) (fun h => by rw [Bd.returns] at h; cases h)
 refine ⟨_, _, pre0 _ (R9 _ ?_), hrun, hended, _, _, rfl, ?_, ⟨_, rfl⟩, hW, hsame.mono (by decide) (by decide)⟩
 ·
  show own_S p e below T8 (mkF m 14 #[rv a1, iv 0, iv p3, iv p4] [(.int r_8)]) _
  exact retI X8 hx Bd.returns (hb hby d16_14) hr
 ·
  show (Q_rmBr Z pp h0 n0) _ T8.heap _
  rw [p8_0]
  exact ⟨r_8, rfl, N8, rfl, p8_1⟩
theorem ef_rmMx (m : MethodId) (x0 : Int32) (x1 : Int32) : entryFrame m #[(.int x0), (.int x1)] 2 = mkF m 0 #[iv x0, iv x1] [] := by first | (simp [entryFrame, mkF, argsToLocals, Value.category]; done) | rfl
def Q_rmMx (Z : State) (p1 : Int32) (p2 : Int32) (h0 : Heap) (n0 : Nat) (v : Option Value) (h : Heap) (L : List Loc) : Prop := v = some (.int (own_mx p1 p2)) ∧ Fr n0 L ∧ h = h0
set_option maxRecDepth 65536 in
set_option maxHeartbeats 40000000 in
theorem rmMx (l : Launch) (Z : State) (a0 : Array Value) (hw : ∀ d ∈ tables_1, d.before a0 Z = true) (ws : List Jvm.Cond) (p1 : Int32) (p2 : Int32) (h0 : Heap) (n0 : Nat) (Z0 : n0 ≤ h0.size) :
  own_M l yN15 (Jvm.Cond.code yN15 jdk_29_method_65_code 2 (some .int) :: ws) ({ frames := 0, cells := 0, slots := 0, locals := 0 } : Room) #[(.int p1), (.int p2)] Z h0 (Q_rmMx Z p1 p2 h0 n0) := by
 refine MetFree.of_bodySF (Jvm.Free.JP.mathPlain rfl (by decide +kernel)) hisR ?_
 intro p e s m args below meth c s₁ Bd hml0 hP hK
 obtain ⟨rfl, hZ, hh⟩ := hP
 have hx := Bd.exec
 have hby := Bd.bytes
 have hml : c.maxLocals = 2 := hml0
 have hown : s.vm.findClass "java/lang/Math" = some m.cls := findClass_of_methodNamed Bd.named
 have hnm := (name_of_methodNamed Bd.named Bd.method).1
 have X0 : Stand p l e ({ frames := 0, cells := 0, slots := 0, locals := 0 } : Room) s m #[(.int p1), (.int p2)] below meth c s₁ [] 0 0 := Stand.of_body Bd
 have hU : ∀ (i : Nat) (d : Jvm.Cond), tables_1[i]? = some d → d.before a0 Z = true := fun i d h => hw d (List.mem_of_getElem? h)
 have e0 : s₁.heap = h0 := by rw [← hh, Bd.state]; rfl
 have N0 := Fr.nil n0
 obtain ⟨f0, hf0⟩ : ∃ f : JFrame, f = mkF m 0 #[iv p1, iv p2] [] := ⟨_, rfl⟩
 have pre0 : ∀ t, own_S p e below s₁ f0 t → Steps p.tables e below (s₁.setTop (entryFrame m #[(.int p1), (.int p2)] 2)) t := fun t k => castTop ((ef_rmMx m p1 p2).trans hf0.symm) k
 have R0 : own_R p e below s₁ (mkF m 0 #[iv p1, iv p2] []) s₁ f0 := by rw [hf0]; exact fun t k => k
 have R1 : own_R p e below s₁ (mkF m 2 #[iv p1, iv p2] [(.int p2), (.int p1)]) s₁ f0 := fun t k => R0 t (by
  refine XS.iloadN X0.here hx rfl (hb hby d19_0) rfl ?_
  refine XS.iloadN X0.here hx rfl (hb hby d19_1) rfl ?_
  exact k)
 by_cases hs1 : p1 < p2
 ·
  have R2 : own_R p e below s₁ (mkF m 10 #[iv p1, iv p2] [(.int p2)]) s₁ f0 := fun t k => R1 t (by
   refine XS.icmpYes X0.here hx rfl (pc0 := 2) (pc' := 9) rfl (hb hby d19_2) rfl (tlt hs1).1 (by decide) (by decide) ?_
   refine XS.iloadN X0.here hx rfl (hb hby d19_9) rfl ?_
   exact k)
  obtain ⟨fs, hr, hrun, hended, hW, hsame⟩ := X0.leave (v := some (.int p2)) (fun h => by rw [Bd.returns] at h; cases h)
  refine ⟨_, _, pre0 _ (R2 _ ?_), hrun, hended, _, _, rfl, ?_, ⟨_, rfl⟩, hW, hsame.mono (by decide) (by decide)⟩
  ·
   show own_S p e below s₁ (mkF m 10 #[iv p1, iv p2] [(.int p2)]) _
   exact retI X0 hx Bd.returns (hb hby d19_10) hr
  ·
   show Q_rmMx Z p1 p2 h0 n0 _ s₁.heap _
   rw [e0]
   exact ⟨(by simp [own_mx, hs1]), N0, rfl⟩
 ·
  have R3 : own_R p e below s₁ (mkF m 10 #[iv p1, iv p2] [(.int p1)]) s₁ f0 := fun t k => R1 t (by
   refine XS.icmpNo X0.here hx rfl (hb hby d19_2) rfl (flt hs1).1 ?_
   refine XS.iloadN X0.here hx rfl (hb hby d19_5) rfl ?_
   refine XS.goto X0.here hx rfl (pc0 := 6) (pc' := 10) rfl (hb hby d19_6) (by decide) (by decide) ?_
   exact k)
  obtain ⟨fs, hr, hrun, hended, hW, hsame⟩ := X0.leave (v := some (.int p1)) (fun h => by rw [Bd.returns] at h; cases h)
  refine ⟨_, _, pre0 _ (R3 _ ?_), hrun, hended, _, _, rfl, ?_, ⟨_, rfl⟩, hW, hsame.mono (by decide) (by decide)⟩
  ·
   show own_S p e below s₁ (mkF m 10 #[iv p1, iv p2] [(.int p1)]) _
   exact retI X0 hx Bd.returns (hb hby d19_10) hr
  ·
   show Q_rmMx Z p1 p2 h0 n0 _ s₁.heap _
   rw [e0]
   exact ⟨(by simp [own_mx, hs1]), N0, rfl⟩
theorem rmBzG (l : Launch) (Z : State) (a0 : Array Value) (hw : ∀ d ∈ tables_1, d.before a0 Z = true) (ws : List Jvm.Cond) (a1 : Addr) (p4 : Int32) (k1 : ClassId) (xs : List Int32) (h0 : Heap) (n0 : Nat) (Z0 : n0 ≤ h0.size) (A_a1 : Arv Z h0 a1 k1 .int 256 (own_v xs) (.int 0)) (hlen : xs.length ≤ 3) (h0n : ¬ own_n xs = 0) :
  own_M l yN1 (Jvm.Cond.code yN1 jdk_65_method_59_code 8 (some .int) :: ws) ({ frames := 0, cells := 0, slots := 0, locals := 0 } : Room) #[(.ref a1), (.int 0), (.int (own_n xs)), (.int p4)] Z h0 (Q_rmBr Z (own_brg xs p4) h0 n0) := by
 rcases own_sh3 hlen with rfl | ⟨xa, rfl⟩ | ⟨xa, xb, rfl⟩ | ⟨xa, xb, xc, rfl⟩
 ·
  exact absurd rfl h0n
 ·
  exact rmBz256_1 l Z a0 hw ws a1 p4 k1 xa 0 0 h0 n0 Z0 A_a1
 ·
  exact rmBz256_2 l Z a0 hw ws a1 p4 k1 xa xb 0 h0 n0 Z0 A_a1
 ·
  exact rmBz256_3 l Z a0 hw ws a1 p4 k1 xa xb xc h0 n0 Z0 A_a1
theorem ef_rmFind (m : MethodId) (x0 : Addr) (x1 : Int32) : entryFrame m #[(.ref x0), (.int x1)] 6 = mkF m 0 #[rv x0, iv x1, .unset, .unset, .unset, .unset] [] := by first | (simp [entryFrame, mkF, argsToLocals, Value.category]; done) | rfl
def Q_rmFind (Z : State) (oR : Addr) (p2 : Int32) (ckR : Addr) (kckR : ClassId) (kkR : Addr) (fiR : Addr) (kfiR : ClassId) (saR : Addr) (kstR : ClassId) (xs : List Int32) (h0 : Heap) (n0 : Nat) (v : Option Value) (h : Heap) (L : List Loc) : Prop := ∃ pr : Int64, v = some (.long pr) ∧ Fr n0 L ∧ h = h0 ∧ (own_pl xs p2 pr)
set_option maxRecDepth 65536 in
set_option maxHeartbeats 40000000 in
theorem rmFind (l : Launch) (Z : State) (a0 : Array Value) (hw : ∀ d ∈ tables_1, d.before a0 Z = true) (ws : List Jvm.Cond) (oR : Addr) (p2 : Int32) (ckR : Addr) (kckR : ClassId) (kkR : Addr) (fiR : Addr) (kfiR : ClassId) (saR : Addr) (kstR : ClassId) (xs : List Int32) (h0 : Heap) (n0 : Nat) (Z0 : n0 ≤ h0.size) (E_oR : Exa Z h0 oR sN1) (F_chunks_oR : Fld Z h0 oR sN1 "chunks" sN2 (.ref ckR)) (F_chunkCount_oR : Fld Z h0 oR sN1 "chunkCount" "I" (.int 1)) (F_firsts_oR : Fld Z h0 oR sN1 "firsts" "[I" (.ref fiR)) (A_ckR : Arv Z h0 ckR kckR (.object sN0) (1 : Int32) [(.ref kkR)] .null) (F_size_kkR : Fld Z h0 kkR sN0 "size" "I" (.int (own_n xs))) (F_starts_kkR : Fld Z h0 kkR sN0 "starts" "[I" (.ref saR)) (A_fiR : Arv Z h0 fiR kfiR .int 1 [(.int (own_h xs))] (.int 0)) (A_saR : Arv Z h0 saR kstR .int 256 (own_v xs) (.int 0)) (hlen : xs.length ≤ 3) (hso : own_so xs) :
  own_M l yN3 (Jvm.Cond.code yN3 prog_118_method_2_code 6 (some .long) :: ws) ({ frames := 2, cells := 0, slots := 0, locals := 34 } : Room) #[(.ref oR), (.int p2)] Z h0 (Q_rmFind Z oR p2 ckR kckR kkR fiR kfiR saR kstR xs h0 n0) := by
 refine MetFree.of_bodySF (plainFor_of_name pn_1) hisR ?_
 intro p e s m args below meth c s₁ Bd hml0 hP hK
 obtain ⟨rfl, hZ, hh⟩ := hP
 have hx := Bd.exec
 have hby := Bd.bytes
 have hml : c.maxLocals = 6 := hml0
 have hown : s.vm.findClass sN1 = some m.cls := findClass_of_methodNamed Bd.named
 have hnm := (name_of_methodNamed Bd.named Bd.method).1
 have X0 : Stand p l e ({ frames := 2, cells := 0, slots := 0, locals := 34 } : Room) s m #[(.ref oR), (.int p2)] below meth c s₁ [] 0 0 := Stand.of_body Bd
 have hU : ∀ (i : Nat) (d : Jvm.Cond), tables_1[i]? = some d → d.before a0 Z = true := fun i d h => hw d (List.mem_of_getElem? h)
 have e0 : s₁.heap = h0 := by rw [← hh, Bd.state]; rfl
 have N0 := Fr.nil n0
 obtain ⟨f0, hf0⟩ : ∃ f : JFrame, f = mkF m 0 (fA48 oR p2) [] := ⟨_, rfl⟩
 have pre0 : ∀ t, own_S p e below s₁ f0 t → Steps p.tables e below (s₁.setTop (entryFrame m #[(.ref oR), (.int p2)] 6)) t := fun t k => castTop ((ef_rmFind m oR p2).trans hf0.symm) k
 have R0 : own_R p e below s₁ (mkF m 0 (fA48 oR p2) []) s₁ f0 := by rw [hf0]; exact fun t k => k
 have R1 : own_R p e below s₁ (mkF m 1 (fA48 oR p2) [(.ref oR)]) s₁ f0 := fun t k => R0 t (by
  refine XS.aloadN X0.here hx rfl (hb hby d7_0) rfl rfl ?_
  exact k)
 obtain ⟨T2, X2, e2, R3⟩ := own_gF R1 X0 hx hZ hown (host := "") (Or.inl (hU 40 _ rfl)) Via.refl e0 F_chunks_oR rfl rfl (hb hby d7_1)
 have R4 : own_R p e below T2 (mkF m 5 (fA48 oR p2) [(.ref oR), (.ref ckR)]) s₁ f0 := fun t k => R3 t (by
  refine XS.aloadN X2.here hx rfl (hb hby d7_4) rfl rfl ?_
  exact k)
 obtain ⟨T5, X5, e5, R6⟩ := own_gF R4 X2 hx hZ hown (host := "") (Or.inl (hU 19 _ rfl)) Via.refl e2 F_chunkCount_oR rfl rfl (hb hby d7_5)
 have R7 : own_R p e below T5 (mkF m 10 (fA48 oR p2) [(.int 0), (.ref ckR)]) s₁ f0 := fun t k => R6 t (by
  refine XS.iconst X5.here hx rfl (hb hby d7_8) ?_
  refine XS.isub X5.here hx rfl (hb hby d7_9) rfl ?_
  exact k)
 obtain ⟨cl8, Ar8, q8, S8, n8_, H8, G8⟩ := id A_ckR
 have hin8 : ¬ ((0 : Int32) < 0 ∨ cl8.slots.size ≤ ((0 : Int32)).toNatClampNeg) := inb_of S8 ⟨by decide, by decide⟩
 have hat8 : cl8.slots[((0 : Int32)).toNatClampNeg]? = some (.ref kkR) := Has.at H8 hin8 rfl
 have R9 : own_R p e below T5 (mkF m 11 (fA48 oR p2) [(.ref kkR)]) s₁ f0 := fun t k => R7 t (X5.aaload hx (j := (0 : Int32)) (v := (.ref kkR)) (by rw [e5]; exact Ar8.1) (State.isArrayOf_alike hZ.alike Ar8.2.1) rfl Ar8.2.2 hin8 hat8 (g := (mkF m 10 (fA48 oR p2) [(.int 0), (.ref ckR)])) rfl rfl (hb hby d7_10) _ k)
 have R10 : own_R p e below T5 (mkF m 13 (fA13 kkR oR p2) [(.ref kkR)]) s₁ f0 := fun t k => R9 t (by
  refine XS.astoreN X5.here hx rfl (hb hby d7_11) rfl rfl (l' := (fA13 kkR oR p2)) rfl ?_
  refine XS.aloadN X5.here hx rfl (hb hby d7_12) rfl rfl ?_
  exact k)
 obtain ⟨T11, X11, e11, R12⟩ := own_gF R10 X5 hx hZ hown (Or.inr (hU 63 _ rfl)) Via.refl e5 F_size_kkR rfl rfl (hb hby d7_13)
 by_cases h0n : (own_n xs) = (0 : Int32)
 ·
  have R13 : own_R p e below T11 (mkF m 35 (fA13 kkR oR p2) [(.ref oR)]) s₁ f0 := fun t k => R12 t (by
   refine XS.ifYes X11.here hx rfl (pc0 := 16) (pc' := 34) rfl (hb hby d7_16) rfl ((if0 _ _).trans (teq h0n).1) (by decide) (by decide) ?_
   refine XS.aloadN X11.here hx rfl (hb hby d7_34) rfl rfl ?_
   exact k)
  obtain ⟨T14, X14, e14, R15⟩ := own_gF R13 X11 hx hZ hown (host := "") (Or.inl (hU 19 _ rfl)) Via.refl e11 F_chunkCount_oR rfl rfl (hb hby d7_35)
  have R16 : own_R p e below T14 (mkF m 41 (fA13 kkR oR p2) [(.long ((0 : Int32).toInt64))]) s₁ f0 := fun t k => R15 t (by
   refine XS.iconst X14.here hx rfl (hb hby d7_38) ?_
   refine XS.isub X14.here hx rfl (hb hby d7_39) rfl ?_
   refine XS.i2l X14.here hx rfl (hb hby d7_40) rfl ?_
   exact k)
  have R17 : own_R p e below T14 (mkF m 41 (fA13 kkR oR p2) [(.long (0 : Int64))]) s₁ f0 := by have q := R16; rw [((by decide) : ((0 : Int32).toInt64) = (0 : Int64))] at q; exact q
  have R18 : own_R p e below T14 (mkF m 44 (fA13 kkR oR p2) [(.long ((0 : Int64) <<< ((32 : Int32) &&& 0x3f).toInt64))]) s₁ f0 := fun t k => R17 t (by
   refine XS.bipush X14.here hx rfl (hb hby d7_41) ?_
   refine XS.lshl X14.here hx rfl (hb hby d7_43) rfl ?_
   exact k)
  have R19 : own_R p e below T14 (mkF m 44 (fA13 kkR oR p2) [(.long (0 : Int64))]) s₁ f0 := by have q := R18; rw [((by decide) : ((0 : Int64) <<< ((32 : Int32) &&& 0x3f).toInt64) = (0 : Int64))] at q; exact q
  have R20 : own_R p e below T14 (mkF m 48 (fA13 kkR oR p2) [(.ref kkR), (.int 256), (.long (0 : Int64))]) s₁ f0 := fun t k => R19 t (by
   refine XS.sipush X14.here hx rfl (hb hby d7_44) ?_
   refine XS.aloadN X14.here hx rfl (hb hby d7_47) rfl rfl ?_
   exact k)
  obtain ⟨T21, X21, e21, R22⟩ := own_gF R20 X14 hx hZ hown (Or.inr (hU 63 _ rfl)) Via.refl e14 F_size_kkR rfl rfl (hb hby d7_48)
  have R23 : own_R p e below T21 (mkF m 54 (fA13 kkR oR p2) [(.long ((0 : Int64) ||| (((256 : Int32) + (own_n xs)).toInt64)))]) s₁ f0 := fun t k => R22 t (by
   refine XS.iadd X21.here hx rfl (hb hby d7_51) rfl ?_
   refine XS.i2l X21.here hx rfl (hb hby d7_52) rfl ?_
   refine XS.lor X21.here hx rfl (hb hby d7_53) rfl ?_
   exact k)
  obtain ⟨fs, hr, hrun, hended, hW, hsame⟩ := X21.leave (v := some (.long ((0 : Int64) ||| (((256 : Int32) + (own_n xs)).toInt64)))) (fun h => by rw [Bd.returns] at h; cases h)
  refine ⟨_, _, pre0 _ (R23 _ ?_), hrun, hended, _, _, rfl, ?_, ⟨_, rfl⟩, hW, hsame.mono (by decide) (by decide)⟩
  ·
   show own_S p e below T21 (mkF m 54 (fA13 kkR oR p2) [(.long ((0 : Int64) ||| (((256 : Int32) + (own_n xs)).toInt64)))]) _
   exact retOut X21 hx (t := .long) Bd.returns rfl (Or.inr (Or.inl ⟨rfl, rfl, _, rfl⟩)) (hb hby d7_54) hr
  ·
   show Q_rmFind Z oR p2 ckR kckR kkR fiR kfiR saR kstR xs h0 n0 _ T21.heap _
   rw [e21]
   exact ⟨((0 : Int64) ||| (((256 : Int32) + (own_n xs)).toInt64)), rfl, N0, rfl, (own_fast0 p2 h0n)⟩
 ·
  have R24 : own_R p e below T11 (mkF m 21 (fA13 kkR oR p2) [(.ref kkR), (.int p2)]) s₁ f0 := fun t k => R12 t (by
   refine XS.ifNo X11.here hx rfl (hb hby d7_16) rfl ((if0 _ _).trans (feq h0n).1) ?_
   refine XS.iloadN X11.here hx rfl (hb hby d7_19) rfl ?_
   refine XS.aloadN X11.here hx rfl (hb hby d7_20) rfl rfl ?_
   exact k)
  obtain ⟨T25, X25, e25, R26⟩ := own_gF R24 X11 hx hZ hown (Or.inr (hU 106 _ rfl)) Via.refl e11 F_starts_kkR rfl rfl (hb hby d7_21)
  have R27 : own_R p e below T25 (mkF m 25 (fA13 kkR oR p2) [(.ref kkR), (.ref saR), (.int p2)]) s₁ f0 := fun t k => R26 t (by
   refine XS.aloadN X25.here hx rfl (hb hby d7_24) rfl rfl ?_
   exact k)
  obtain ⟨T28, X28, e28, R29⟩ := own_gF R27 X25 hx hZ hown (Or.inr (hU 63 _ rfl)) Via.refl e25 F_size_kkR rfl rfl (hb hby d7_25)
  have R30 : own_R p e below T28 (mkF m 30 (fA13 kkR oR p2) [(.int ((own_n xs) - (1 : Int32))), (.ref saR), (.int p2)]) s₁ f0 := fun t k => R29 t (by
   refine XS.iconst X28.here hx rfl (hb hby d7_28) ?_
   refine XS.isub X28.here hx rfl (hb hby d7_29) rfl ?_
   exact k)
  obtain ⟨cl31, Ar31, q31, S31, n31_, H31, G31⟩ := id A_saR
  have hin31 : ¬ (((own_n xs) - (1 : Int32)) < 0 ∨ cl31.slots.size ≤ (((own_n xs) - (1 : Int32))).toNatClampNeg) := inb_of S31 (own_nb h0n)
  have hat31 : cl31.slots[(((own_n xs) - (1 : Int32))).toNatClampNeg]? = some (.int (own_la xs)) := Has.at H31 hin31 (own_vl xs)
  have R32 : own_R p e below T28 (mkF m 31 (fA13 kkR oR p2) [(.int (own_la xs)), (.int p2)]) s₁ f0 := fun t k => R30 t (X28.iaload hx (j := ((own_n xs) - (1 : Int32))) (v := (.int (own_la xs))) (by rw [e28]; exact Ar31.1) (State.isArrayOf_alike hZ.alike Ar31.2.1) Ar31.2.2 hin31 hat31 (g := (mkF m 30 (fA13 kkR oR p2) [(.int ((own_n xs) - (1 : Int32))), (.ref saR), (.int p2)])) rfl rfl (hb hby d7_30) _ k)
  by_cases hl_ : (own_la xs) < p2
  ·
   have R33 : own_R p e below T28 (mkF m 35 (fA13 kkR oR p2) [(.ref oR)]) s₁ f0 := fun t k => R32 t (by
    refine XS.icmpNo X28.here hx rfl (hb hby d7_31) rfl (tlt hl_).2.2.2 ?_
    refine XS.aloadN X28.here hx rfl (hb hby d7_34) rfl rfl ?_
    exact k)
   obtain ⟨T34, X34, e34, R35⟩ := own_gF R33 X28 hx hZ hown (host := "") (Or.inl (hU 19 _ rfl)) Via.refl e28 F_chunkCount_oR rfl rfl (hb hby d7_35)
   have R36 : own_R p e below T34 (mkF m 41 (fA13 kkR oR p2) [(.long ((0 : Int32).toInt64))]) s₁ f0 := fun t k => R35 t (by
    refine XS.iconst X34.here hx rfl (hb hby d7_38) ?_
    refine XS.isub X34.here hx rfl (hb hby d7_39) rfl ?_
    refine XS.i2l X34.here hx rfl (hb hby d7_40) rfl ?_
    exact k)
   have R37 : own_R p e below T34 (mkF m 41 (fA13 kkR oR p2) [(.long (0 : Int64))]) s₁ f0 := by have q := R36; rw [((by decide) : ((0 : Int32).toInt64) = (0 : Int64))] at q; exact q
   have R38 : own_R p e below T34 (mkF m 44 (fA13 kkR oR p2) [(.long ((0 : Int64) <<< ((32 : Int32) &&& 0x3f).toInt64))]) s₁ f0 := fun t k => R37 t (by
    refine XS.bipush X34.here hx rfl (hb hby d7_41) ?_
    refine XS.lshl X34.here hx rfl (hb hby d7_43) rfl ?_
    exact k)
   have R39 : own_R p e below T34 (mkF m 44 (fA13 kkR oR p2) [(.long (0 : Int64))]) s₁ f0 := by have q := R38; rw [((by decide) : ((0 : Int64) <<< ((32 : Int32) &&& 0x3f).toInt64) = (0 : Int64))] at q; exact q
   have R40 : own_R p e below T34 (mkF m 48 (fA13 kkR oR p2) [(.ref kkR), (.int 256), (.long (0 : Int64))]) s₁ f0 := fun t k => R39 t (by
    refine XS.sipush X34.here hx rfl (hb hby d7_44) ?_
    refine XS.aloadN X34.here hx rfl (hb hby d7_47) rfl rfl ?_
    exact k)
   obtain ⟨T41, X41, e41, R42⟩ := own_gF R40 X34 hx hZ hown (Or.inr (hU 63 _ rfl)) Via.refl e34 F_size_kkR rfl rfl (hb hby d7_48)
   have R43 : own_R p e below T41 (mkF m 54 (fA13 kkR oR p2) [(.long ((0 : Int64) ||| (((256 : Int32) + (own_n xs)).toInt64)))]) s₁ f0 := fun t k => R42 t (by
    refine XS.iadd X41.here hx rfl (hb hby d7_51) rfl ?_
    refine XS.i2l X41.here hx rfl (hb hby d7_52) rfl ?_
    refine XS.lor X41.here hx rfl (hb hby d7_53) rfl ?_
    exact k)
   obtain ⟨fs, hr, hrun, hended, hW, hsame⟩ := X41.leave (v := some (.long ((0 : Int64) ||| (((256 : Int32) + (own_n xs)).toInt64)))) (fun h => by rw [Bd.returns] at h; cases h)
   refine ⟨_, _, pre0 _ (R43 _ ?_), hrun, hended, _, _, rfl, ?_, ⟨_, rfl⟩, hW, hsame.mono (by decide) (by decide)⟩
   ·
    show own_S p e below T41 (mkF m 54 (fA13 kkR oR p2) [(.long ((0 : Int64) ||| (((256 : Int32) + (own_n xs)).toInt64)))]) _
    exact retOut X41 hx (t := .long) Bd.returns rfl (Or.inr (Or.inl ⟨rfl, rfl, _, rfl⟩)) (hb hby d7_54) hr
   ·
    show Q_rmFind Z oR p2 ckR kckR kkR fiR kfiR saR kstR xs h0 n0 _ T41.heap _
    rw [e41]
    exact ⟨((0 : Int64) ||| (((256 : Int32) + (own_n xs)).toInt64)), rfl, N0, rfl, (own_fast1 hlen hso h0n hl_)⟩
  ·
   have R44 : own_R p e below T28 (mkF m 55 (fA13 kkR oR p2) []) s₁ f0 := fun t k => R32 t (by
    refine XS.icmpYes X28.here hx rfl (pc0 := 31) (pc' := 55) rfl (hb hby d7_31) rfl (flt hl_).2.2.2 (by decide) (by decide) ?_
    exact k)
   obtain ⟨T62, L62, X62, N62, e62, R62⟩ : ∃ (T' : State) (L' : List Loc), Stand p l e ({ frames := 2, cells := 0, slots := 0, locals := 34 } : Room) s m #[(.ref oR), (.int p2)] below meth c T' L' 0 0 ∧ Fr n0 L' ∧ T'.heap = h0 ∧ own_R p e below T' (mkF m 82 (fA49 kkR oR p2) []) s₁ f0 := by
    have R45 : own_R p e below T28 (mkF m 56 (fA13 kkR oR p2) [(.ref oR)]) s₁ f0 := fun t k => R44 t (by
     refine XS.aloadN X28.here hx rfl (hb hby d7_55) rfl rfl ?_
     exact k)
    obtain ⟨T46, X46, e46, R47⟩ := own_gF R45 X28 hx hZ hown (host := "") (Or.inl (hU 17 _ rfl)) Via.refl e28 F_firsts_oR rfl rfl (hb hby d7_56)
    have R48 : own_R p e below T46 (mkF m 61 (fA13 kkR oR p2) [(.ref oR), (.int 0), (.ref fiR)]) s₁ f0 := fun t k => R47 t (by
     refine XS.iconst X46.here hx rfl (hb hby d7_59) ?_
     refine XS.aloadN X46.here hx rfl (hb hby d7_60) rfl rfl ?_
     exact k)
    obtain ⟨T49, X49, e49, R50⟩ := own_gF R48 X46 hx hZ hown (host := "") (Or.inl (hU 19 _ rfl)) Via.refl e46 F_chunkCount_oR rfl rfl (hb hby d7_61)
    have R51 : own_R p e below T49 (mkF m 65 (fA13 kkR oR p2) [(.int p2), (.int 1), (.int 0), (.ref fiR)]) s₁ f0 := fun t k => R50 t (by
     refine XS.iloadN X49.here hx rfl (hb hby d7_64) rfl ?_
     exact k)
    obtain ⟨_, _, ⟨T52, L52, k52, n52⟩, -, X52, ⟨Lc52, hQ52, l52, y52, z52⟩, st52⟩ := Jvm.LawKit.callS X49 hx (y := yN12) hown (mvT hZ (hU 111 _ rfl)) (mvT hZ (hU 112 _ rfl)) (mvT hZ (hU 113 _ rfl)) (mvT hZ (hU 114 _ rfl)) (by decide) (backOf (W := 0) (rmBs l Z a0 hw [] fiR kfiR (1 : Int32) [(.int (own_h xs))] (1 : Int32) p2 (own_br1 (own_h xs) p2) h0 n0 Z0 A_fiR (by decide) (by decide) (rmBz1_1 l Z a0 hw [] fiR p2 kfiR (own_h xs) h0 n0 Z0 A_fiR)) hZ (hU 114 _ rfl) (hU 113 _ rfl) (by decide) (by decide)) (g := (mkF m 65 (fA13 kkR oR p2) [(.int p2), (.int 1), (.int 0), (.ref fiR)])) rfl (by rw [hml]; rfl) (argsL := [(.ref fiR), (.int 0), (.int 1), (.int p2)]) (rest := []) (lenOf pd_5 rfl) rfl (Nat.le_of_eq rfl) (hb hby d7_65) (fun _ _ => ⟨rfl, e49, (by decide : 0 + 0 ≤ _), (by decide : 0 + 0 ≤ _)⟩)
    dsimp only [Pt.U, Pt.locs, Pt.cells, Pt.slots] at X52 l52 y52 z52 st52 hQ52
    subst l52 y52 z52
    obtain ⟨r_52, rfl, N52q, p52_0, p52_1⟩ := hQ52
    have N52 := Fr.app N0 N52q
    have R53 := fun t k => R51 t (st52 t k)
    have R54 : own_R p e below T52 (mkF m 70 (fA64 kkR oR p2 r_52) [(.int r_52)]) s₁ f0 := fun t k => R53 t (by
     refine XS.istoreN X52.here hx rfl (hb hby d7_68) rfl (l' := (fA64 kkR oR p2 r_52)) rfl ?_
     refine XS.iloadN X52.here hx rfl (hb hby d7_69) rfl ?_
     exact k)
    by_cases hg1 : r_52 < (0 : Int32)
    ·
     have R55 : own_R p e below T52 (mkF m 78 (fA64 kkR oR p2 r_52) [(.int ((-r_52) - (2 : Int32))), (.int 0)]) s₁ f0 := fun t k => R54 t (by
      refine XS.ifNo X52.here hx rfl (hb hby d7_70) rfl ((if0 _ _).trans (tlt hg1).2.1) ?_
      refine XS.iconst X52.here hx rfl (hb hby d7_73) ?_
      refine XS.iloadN X52.here hx rfl (hb hby d7_74) rfl ?_
      refine XS.ineg X52.here hx rfl (hb hby d7_75) rfl ?_
      refine XS.iconst X52.here hx rfl (hb hby d7_76) ?_
      refine XS.isub X52.here hx rfl (hb hby d7_77) rfl ?_
      exact k)
     obtain ⟨_, _, ⟨T56, L56, k56, n56⟩, -, X56, ⟨Lc56, hQ56, l56, y56, z56⟩, st56⟩ := Jvm.LawKit.callS X52 hx (y := yN15) hown (mvT hZ (hU 121 _ rfl)) (mvT hZ (hU 122 _ rfl)) (mvT hZ (hU 123 _ rfl)) (mvT hZ (hU 124 _ rfl)) (by decide) (backOf (W := 0) (rmMx l Z a0 hw [] (0 : Int32) ((-r_52) - (2 : Int32)) h0 n0 Z0) hZ (hU 124 _ rfl) (hU 123 _ rfl) (by decide) (by decide)) (g := (mkF m 78 (fA64 kkR oR p2 r_52) [(.int ((-r_52) - (2 : Int32))), (.int 0)])) rfl (by rw [hml]; rfl) (argsL := [(.int 0), (.int ((-r_52) - (2 : Int32)))]) (rest := []) (lenOf pd_6 rfl) rfl (Nat.le_of_eq rfl) (hb hby d7_78) (fun _ _ => ⟨rfl, p52_0, (by decide : 0 + 0 ≤ _), (by decide : 0 + 0 ≤ _)⟩)
     dsimp only [Pt.U, Pt.locs, Pt.cells, Pt.slots] at X56 l56 y56 z56 st56 hQ56
     subst l56 y56 z56
     obtain ⟨rfl, N56q, p56_0⟩ := hQ56
     have N56 := Fr.app N52 N56q
     have R57 := fun t k => R55 t (st56 t k)
     have R58 : own_R p e below T56 (mkF m 82 #[rv oR, iv p2, rv kkR, iv (own_mx (0 : Int32) ((-r_52) - (2 : Int32))), .unset, .unset] []) s₁ f0 := fun t k => R57 t (by
      refine XS.istoreN X56.here hx rfl (hb hby d7_81) rfl (l' := #[rv oR, iv p2, rv kkR, iv (own_mx (0 : Int32) ((-r_52) - (2 : Int32))), .unset, .unset]) rfl ?_
      exact k)
     have hv3 : (0 : Int32) = (own_mx (0 : Int32) ((-r_52) - (2 : Int32))) := by first | exact own_ck0 (by assumption) (by assumption) | exact own_ck1 (by assumption) (by assumption)
     have R59 : own_R p e below T56 (mkF m 82 (fA49 kkR oR p2) []) s₁ f0 := by have q := R58; rw [(hv3.symm : (own_mx (0 : Int32) ((-r_52) - (2 : Int32))) = (0 : Int32))] at q; exact q
     exact ⟨T56, _, X56, N56, p56_0, R59⟩
    ·
     have R60 : own_R p e below T52 (mkF m 82 (fA64 kkR oR p2 r_52) []) s₁ f0 := fun t k => R54 t (by
      refine XS.ifYes X52.here hx rfl (pc0 := 70) (pc' := 82) rfl (hb hby d7_70) rfl ((if0 _ _).trans (flt hg1).2.1) (by decide) (by decide) ?_
      exact k)
     have hv3 : (0 : Int32) = r_52 := by first | exact own_ck0 (by assumption) (by assumption) | exact own_ck1 (by assumption) (by assumption)
     have R61 : own_R p e below T52 (mkF m 82 (fA49 kkR oR p2) []) s₁ f0 := by have q := R60; rw [(hv3.symm : r_52 = (0 : Int32))] at q; exact q
     exact ⟨T52, _, X52, N52, p52_0, R61⟩
   have R63 : own_R p e below T62 (mkF m 83 (fA49 kkR oR p2) [(.ref oR)]) s₁ f0 := fun t k => R62 t (by
    refine XS.aloadN X62.here hx rfl (hb hby d7_82) rfl rfl ?_
    exact k)
   obtain ⟨T64, X64, e64, R65⟩ := own_gF R63 X62 hx hZ hown (host := "") (Or.inl (hU 40 _ rfl)) Via.refl e62 F_chunks_oR rfl rfl (hb hby d7_83)
   have R66 : own_R p e below T64 (mkF m 87 (fA49 kkR oR p2) [(.int 0), (.ref ckR)]) s₁ f0 := fun t k => R65 t (by
    refine XS.iloadN X64.here hx rfl (hb hby d7_86) rfl ?_
    exact k)
   obtain ⟨cl67, Ar67, q67, S67, n67_, H67, G67⟩ := id A_ckR
   have hin67 : ¬ ((0 : Int32) < 0 ∨ cl67.slots.size ≤ ((0 : Int32)).toNatClampNeg) := inb_of S67 ⟨by decide, by decide⟩
   have hat67 : cl67.slots[((0 : Int32)).toNatClampNeg]? = some (.ref kkR) := Has.at H67 hin67 rfl
   have R68 : own_R p e below T64 (mkF m 88 (fA49 kkR oR p2) [(.ref kkR)]) s₁ f0 := fun t k => R66 t (X64.aaload hx (j := (0 : Int32)) (v := (.ref kkR)) (by rw [e64]; exact Ar67.1) (State.isArrayOf_alike hZ.alike Ar67.2.1) rfl Ar67.2.2 hin67 hat67 (g := (mkF m 87 (fA49 kkR oR p2) [(.int 0), (.ref ckR)])) rfl rfl (hb hby d7_87) _ k)
   have R69 : own_R p e below T64 (mkF m 92 (fA66 kkR oR p2) [(.ref kkR)]) s₁ f0 := fun t k => R68 t (by
    refine XS.astore X64.here hx rfl (hb hby d7_88) rfl rfl (l' := (fA66 kkR oR p2)) rfl ?_
    refine XS.aload X64.here hx rfl (hb hby d7_90) rfl rfl ?_
    exact k)
   obtain ⟨T70, X70, e70, R71⟩ := own_gF R69 X64 hx hZ hown (Or.inr (hU 106 _ rfl)) Via.refl e64 F_starts_kkR rfl rfl (hb hby d7_92)
   have R72 : own_R p e below T70 (mkF m 98 (fA66 kkR oR p2) [(.ref kkR), (.int 0), (.ref saR)]) s₁ f0 := fun t k => R71 t (by
    refine XS.iconst X70.here hx rfl (hb hby d7_95) ?_
    refine XS.aload X70.here hx rfl (hb hby d7_96) rfl rfl ?_
    exact k)
   obtain ⟨T73, X73, e73, R74⟩ := own_gF R72 X70 hx hZ hown (Or.inr (hU 63 _ rfl)) Via.refl e70 F_size_kkR rfl rfl (hb hby d7_98)
   have R75 : own_R p e below T73 (mkF m 102 (fA66 kkR oR p2) [(.int p2), (.int (own_n xs)), (.int 0), (.ref saR)]) s₁ f0 := fun t k => R74 t (by
    refine XS.iloadN X73.here hx rfl (hb hby d7_101) rfl ?_
    exact k)
   obtain ⟨_, _, ⟨T76, L76, k76, n76⟩, -, X76, ⟨Lc76, hQ76, l76, y76, z76⟩, st76⟩ := Jvm.LawKit.callS X73 hx (y := yN12) hown (mvT hZ (hU 111 _ rfl)) (mvT hZ (hU 112 _ rfl)) (mvT hZ (hU 113 _ rfl)) (mvT hZ (hU 114 _ rfl)) (by decide) (backOf (W := 0) (rmBs l Z a0 hw [] saR kstR (256 : Int32) (own_v xs) (own_n xs) p2 (own_brg xs p2) h0 n0 Z0 A_saR (own_n0 xs) (own_n256 xs) (rmBzG l Z a0 hw [] saR p2 kstR xs h0 n0 Z0 A_saR hlen h0n)) hZ (hU 114 _ rfl) (hU 113 _ rfl) (by decide) (by decide)) (g := (mkF m 102 (fA66 kkR oR p2) [(.int p2), (.int (own_n xs)), (.int 0), (.ref saR)])) rfl (by rw [hml]; rfl) (argsL := [(.ref saR), (.int 0), (.int (own_n xs)), (.int p2)]) (rest := []) (lenOf pd_5 rfl) rfl (Nat.le_of_eq rfl) (hb hby d7_102) (fun _ _ => ⟨rfl, e73, (by decide : 0 + 0 ≤ _), (by decide : 0 + 0 ≤ _)⟩)
   dsimp only [Pt.U, Pt.locs, Pt.cells, Pt.slots] at X76 l76 y76 z76 st76 hQ76
   subst l76 y76 z76
   obtain ⟨r_76, rfl, N76q, p76_0, p76_1⟩ := hQ76
   have N76 := Fr.app N62 N76q
   have R77 := fun t k => R75 t (st76 t k)
   have R78 : own_R p e below T76 (mkF m 109 (fA46 kkR oR p2 r_76) [(.int r_76)]) s₁ f0 := fun t k => R77 t (by
    refine XS.istore X76.here hx rfl (hb hby d7_105) rfl (l' := (fA46 kkR oR p2 r_76)) rfl ?_
    refine XS.iload X76.here hx rfl (hb hby d7_107) rfl ?_
    exact k)
   by_cases hg_ : r_76 < (0 : Int32)
   ·
    have R79 : own_R p e below T76 (mkF m 125 #[rv oR, iv p2, rv kkR, iv 0, rv kkR, iv ((256 : Int32) + ((-r_76) - (1 : Int32)))] [(.long ((0 : Int32).toInt64))]) s₁ f0 := fun t k => R78 t (by
     refine XS.ifNo X76.here hx rfl (hb hby d7_109) rfl ((if0 _ _).trans (tlt hg_).2.1) ?_
     refine XS.sipush X76.here hx rfl (hb hby d7_112) ?_
     refine XS.iload X76.here hx rfl (hb hby d7_115) rfl ?_
     refine XS.ineg X76.here hx rfl (hb hby d7_117) rfl ?_
     refine XS.iconst X76.here hx rfl (hb hby d7_118) ?_
     refine XS.isub X76.here hx rfl (hb hby d7_119) rfl ?_
     refine XS.iadd X76.here hx rfl (hb hby d7_120) rfl ?_
     refine XS.istore X76.here hx rfl (hb hby d7_121) rfl (l' := #[rv oR, iv p2, rv kkR, iv 0, rv kkR, iv ((256 : Int32) + ((-r_76) - (1 : Int32)))]) rfl ?_
     refine XS.iloadN X76.here hx rfl (hb hby d7_123) rfl ?_
     refine XS.i2l X76.here hx rfl (hb hby d7_124) rfl ?_
     exact k)
    have R80 : own_R p e below T76 (mkF m 125 #[rv oR, iv p2, rv kkR, iv 0, rv kkR, iv ((256 : Int32) + ((-r_76) - (1 : Int32)))] [(.long (0 : Int64))]) s₁ f0 := by have q := R79; rw [((by decide) : ((0 : Int32).toInt64) = (0 : Int64))] at q; exact q
    have R81 : own_R p e below T76 (mkF m 128 #[rv oR, iv p2, rv kkR, iv 0, rv kkR, iv ((256 : Int32) + ((-r_76) - (1 : Int32)))] [(.long ((0 : Int64) <<< ((32 : Int32) &&& 0x3f).toInt64))]) s₁ f0 := fun t k => R80 t (by
     refine XS.bipush X76.here hx rfl (hb hby d7_125) ?_
     refine XS.lshl X76.here hx rfl (hb hby d7_127) rfl ?_
     exact k)
    have R82 : own_R p e below T76 (mkF m 128 #[rv oR, iv p2, rv kkR, iv 0, rv kkR, iv ((256 : Int32) + ((-r_76) - (1 : Int32)))] [(.long (0 : Int64))]) s₁ f0 := by have q := R81; rw [((by decide) : ((0 : Int64) <<< ((32 : Int32) &&& 0x3f).toInt64) = (0 : Int64))] at q; exact q
    have R83 : own_R p e below T76 (mkF m 132 #[rv oR, iv p2, rv kkR, iv 0, rv kkR, iv ((256 : Int32) + ((-r_76) - (1 : Int32)))] [(.long ((0 : Int64) ||| (((256 : Int32) + ((-r_76) - (1 : Int32))).toInt64)))]) s₁ f0 := fun t k => R82 t (by
     refine XS.iload X76.here hx rfl (hb hby d7_128) rfl ?_
     refine XS.i2l X76.here hx rfl (hb hby d7_130) rfl ?_
     refine XS.lor X76.here hx rfl (hb hby d7_131) rfl ?_
     exact k)
    obtain ⟨fs, hr, hrun, hended, hW, hsame⟩ := X76.leave (v := some (.long ((0 : Int64) ||| (((256 : Int32) + ((-r_76) - (1 : Int32))).toInt64)))) (fun h => by rw [Bd.returns] at h; cases h)
    refine ⟨_, _, pre0 _ (R83 _ ?_), hrun, hended, _, _, rfl, ?_, ⟨_, rfl⟩, hW, hsame.mono (by decide) (by decide)⟩
    ·
     show own_S p e below T76 (mkF m 132 #[rv oR, iv p2, rv kkR, iv 0, rv kkR, iv ((256 : Int32) + ((-r_76) - (1 : Int32)))] [(.long ((0 : Int64) ||| (((256 : Int32) + ((-r_76) - (1 : Int32))).toInt64)))]) _
     exact retOut X76 hx (t := .long) Bd.returns rfl (Or.inr (Or.inl ⟨rfl, rfl, _, rfl⟩)) (hb hby d7_132) hr
    ·
     show Q_rmFind Z oR p2 ckR kckR kkR fiR kfiR saR kstR xs h0 n0 _ T76.heap _
     rw [p76_0]
     exact ⟨((0 : Int64) ||| (((256 : Int32) + ((-r_76) - (1 : Int32))).toInt64)), rfl, N76, rfl, (own_bsN hlen hso h0n p76_1 hg_)⟩
   ·
    have R84 : own_R p e below T76 (mkF m 125 (fA46 kkR oR p2 r_76) [(.long ((0 : Int32).toInt64))]) s₁ f0 := fun t k => R78 t (by
     refine XS.ifYes X76.here hx rfl (pc0 := 109) (pc' := 123) rfl (hb hby d7_109) rfl ((if0 _ _).trans (flt hg_).2.1) (by decide) (by decide) ?_
     refine XS.iloadN X76.here hx rfl (hb hby d7_123) rfl ?_
     refine XS.i2l X76.here hx rfl (hb hby d7_124) rfl ?_
     exact k)
    have R85 : own_R p e below T76 (mkF m 125 (fA46 kkR oR p2 r_76) [(.long (0 : Int64))]) s₁ f0 := by have q := R84; rw [((by decide) : ((0 : Int32).toInt64) = (0 : Int64))] at q; exact q
    have R86 : own_R p e below T76 (mkF m 128 (fA46 kkR oR p2 r_76) [(.long ((0 : Int64) <<< ((32 : Int32) &&& 0x3f).toInt64))]) s₁ f0 := fun t k => R85 t (by
     refine XS.bipush X76.here hx rfl (hb hby d7_125) ?_
     refine XS.lshl X76.here hx rfl (hb hby d7_127) rfl ?_
     exact k)
    have R87 : own_R p e below T76 (mkF m 128 (fA46 kkR oR p2 r_76) [(.long (0 : Int64))]) s₁ f0 := by have q := R86; rw [((by decide) : ((0 : Int64) <<< ((32 : Int32) &&& 0x3f).toInt64) = (0 : Int64))] at q; exact q
    have R88 : own_R p e below T76 (mkF m 132 (fA46 kkR oR p2 r_76) [(.long ((0 : Int64) ||| (r_76.toInt64)))]) s₁ f0 := fun t k => R87 t (by
     refine XS.iload X76.here hx rfl (hb hby d7_128) rfl ?_
     refine XS.i2l X76.here hx rfl (hb hby d7_130) rfl ?_
     refine XS.lor X76.here hx rfl (hb hby d7_131) rfl ?_
     exact k)
    obtain ⟨fs, hr, hrun, hended, hW, hsame⟩ := X76.leave (v := some (.long ((0 : Int64) ||| (r_76.toInt64)))) (fun h => by rw [Bd.returns] at h; cases h)
    refine ⟨_, _, pre0 _ (R88 _ ?_), hrun, hended, _, _, rfl, ?_, ⟨_, rfl⟩, hW, hsame.mono (by decide) (by decide)⟩
    ·
     show own_S p e below T76 (mkF m 132 (fA46 kkR oR p2 r_76) [(.long ((0 : Int64) ||| (r_76.toInt64)))]) _
     exact retOut X76 hx (t := .long) Bd.returns rfl (Or.inr (Or.inl ⟨rfl, rfl, _, rfl⟩)) (hb hby d7_132) hr
    ·
     show Q_rmFind Z oR p2 ckR kckR kkR fiR kfiR saR kstR xs h0 n0 _ T76.heap _
     rw [p76_0]
     exact ⟨((0 : Int64) ||| (r_76.toInt64)), rfl, N76, rfl, (own_bsF hlen hso h0n p76_1 hg_)⟩
theorem ef_rmEmp (m : MethodId) (x0 : Addr) : entryFrame m #[(.ref x0)] 1 = mkF m 0 #[rv x0] [] := by first | (simp [entryFrame, mkF, argsToLocals, Value.category]; done) | rfl
def Q_rmEmp (Z : State) (oR : Addr) (ckR : Addr) (kckR : ClassId) (kkR : Addr) (xs : List Int32) (h0 : Heap) (n0 : Nat) (v : Option Value) (h : Heap) (L : List Loc) : Prop := v = some (.int (own_ie xs)) ∧ Fr n0 L ∧ h = h0
set_option maxRecDepth 65536 in
set_option maxHeartbeats 40000000 in
theorem rmEmp (l : Launch) (Z : State) (a0 : Array Value) (hw : ∀ d ∈ tables_1, d.before a0 Z = true) (ws : List Jvm.Cond) (oR : Addr) (ckR : Addr) (kckR : ClassId) (kkR : Addr) (xs : List Int32) (h0 : Heap) (n0 : Nat) (Z0 : n0 ≤ h0.size) (F_chunks_oR : Fld Z h0 oR sN1 "chunks" sN2 (.ref ckR)) (A_ckR : Arv Z h0 ckR kckR (.object sN0) (1 : Int32) [(.ref kkR)] .null) (F_size_kkR : Fld Z h0 kkR sN0 "size" "I" (.int (own_n xs))) :
  own_M l yN4 (Jvm.Cond.code yN4 prog_118_method_9_code 1 (some .boolean) :: ws) ({ frames := 0, cells := 0, slots := 0, locals := 0 } : Room) #[(.ref oR)] Z h0 (Q_rmEmp Z oR ckR kckR kkR xs h0 n0) := by
 refine MetFree.of_bodySF (plainFor_of_name pn_1) hisR ?_
 intro p e s m args below meth c s₁ Bd hml0 hP hK
 obtain ⟨rfl, hZ, hh⟩ := hP
 have hx := Bd.exec
 have hby := Bd.bytes
 have hml : c.maxLocals = 1 := hml0
 have hown : s.vm.findClass sN1 = some m.cls := findClass_of_methodNamed Bd.named
 have hnm := (name_of_methodNamed Bd.named Bd.method).1
 have X0 : Stand p l e ({ frames := 0, cells := 0, slots := 0, locals := 0 } : Room) s m #[(.ref oR)] below meth c s₁ [] 0 0 := Stand.of_body Bd
 have hU : ∀ (i : Nat) (d : Jvm.Cond), tables_1[i]? = some d → d.before a0 Z = true := fun i d h => hw d (List.mem_of_getElem? h)
 have e0 : s₁.heap = h0 := by rw [← hh, Bd.state]; rfl
 have N0 := Fr.nil n0
 obtain ⟨f0, hf0⟩ : ∃ f : JFrame, f = mkF m 0 #[rv oR] [] := ⟨_, rfl⟩
 have pre0 : ∀ t, own_S p e below s₁ f0 t → Steps p.tables e below (s₁.setTop (entryFrame m #[(.ref oR)] 1)) t := fun t k => castTop ((ef_rmEmp m oR).trans hf0.symm) k
 have R0 : own_R p e below s₁ (mkF m 0 #[rv oR] []) s₁ f0 := by rw [hf0]; exact fun t k => k
 have R1 : own_R p e below s₁ (mkF m 1 #[rv oR] [(.ref oR)]) s₁ f0 := fun t k => R0 t (by
  refine XS.aloadN X0.here hx rfl (hb hby d8_0) rfl rfl ?_
  exact k)
 obtain ⟨T2, X2, e2, R3⟩ := own_gF R1 X0 hx hZ hown (host := "") (Or.inl (hU 40 _ rfl)) Via.refl e0 F_chunks_oR rfl rfl (hb hby d8_1)
 have R4 : own_R p e below T2 (mkF m 5 #[rv oR] [(.int 0), (.ref ckR)]) s₁ f0 := fun t k => R3 t (by
  refine XS.iconst X2.here hx rfl (hb hby d8_4) ?_
  exact k)
 obtain ⟨cl5, Ar5, q5, S5, n5_, H5, G5⟩ := id A_ckR
 have hin5 : ¬ ((0 : Int32) < 0 ∨ cl5.slots.size ≤ ((0 : Int32)).toNatClampNeg) := inb_of S5 ⟨by decide, by decide⟩
 have hat5 : cl5.slots[((0 : Int32)).toNatClampNeg]? = some (.ref kkR) := Has.at H5 hin5 rfl
 have R6 : own_R p e below T2 (mkF m 6 #[rv oR] [(.ref kkR)]) s₁ f0 := fun t k => R4 t (X2.aaload hx (j := (0 : Int32)) (v := (.ref kkR)) (by rw [e2]; exact Ar5.1) (State.isArrayOf_alike hZ.alike Ar5.2.1) rfl Ar5.2.2 hin5 hat5 (g := (mkF m 5 #[rv oR] [(.int 0), (.ref ckR)])) rfl rfl (hb hby d8_5) _ k)
 obtain ⟨T7, X7, e7, R8⟩ := own_gF R6 X2 hx hZ hown (Or.inr (hU 63 _ rfl)) Via.refl e2 F_size_kkR rfl rfl (hb hby d8_6)
 by_cases hs1 : (own_n xs) = (0 : Int32)
 ·
  have R9 : own_R p e below T7 (mkF m 17 #[rv oR] [(.int 1)]) s₁ f0 := fun t k => R8 t (by
   refine XS.ifNo X7.here hx rfl (hb hby d8_9) rfl ((if0 _ _).trans (teq hs1).2) ?_
   refine XS.iconst X7.here hx rfl (hb hby d8_12) ?_
   refine XS.goto X7.here hx rfl (pc0 := 13) (pc' := 17) rfl (hb hby d8_13) (by decide) (by decide) ?_
   exact k)
  obtain ⟨fs, hr, hrun, hended, hW, hsame⟩ := X7.leave (v := some (.int 1)) (fun h => by rw [Bd.returns] at h; cases h)
  refine ⟨_, _, pre0 _ (R9 _ ?_), hrun, hended, _, _, rfl, ?_, ⟨_, rfl⟩, hW, hsame.mono (by decide) (by decide)⟩
  ·
   show own_S p e below T7 (mkF m 17 #[rv oR] [(.int 1)]) _
   exact retN X7 hx (t := .boolean) Bd.returns (by simp) (hb hby d8_17) hr
  ·
   show Q_rmEmp Z oR ckR kckR kkR xs h0 n0 _ T7.heap _
   rw [e7]
   exact ⟨(by simp [own_ie, hs1]), N0, rfl⟩
 ·
  have R10 : own_R p e below T7 (mkF m 17 #[rv oR] [(.int 0)]) s₁ f0 := fun t k => R8 t (by
   refine XS.ifYes X7.here hx rfl (pc0 := 9) (pc' := 16) rfl (hb hby d8_9) rfl ((if0 _ _).trans (feq hs1).2) (by decide) (by decide) ?_
   refine XS.iconst X7.here hx rfl (hb hby d8_16) ?_
   exact k)
  obtain ⟨fs, hr, hrun, hended, hW, hsame⟩ := X7.leave (v := some (.int 0)) (fun h => by rw [Bd.returns] at h; cases h)
  refine ⟨_, _, pre0 _ (R10 _ ?_), hrun, hended, _, _, rfl, ?_, ⟨_, rfl⟩, hW, hsame.mono (by decide) (by decide)⟩
  ·
   show own_S p e below T7 (mkF m 17 #[rv oR] [(.int 0)]) _
   exact retN X7 hx (t := .boolean) Bd.returns (by simp) (hb hby d8_17) hr
  ·
   show Q_rmEmp Z oR ckR kckR kkR xs h0 n0 _ T7.heap _
   rw [e7]
   exact ⟨(by simp [own_ie, hs1]), N0, rfl⟩
theorem ef_rmFf (m : MethodId) (x0 : Addr) (x1 : Int32) : entryFrame m #[(.ref x0), (.int x1)] 4 = mkF m 0 #[rv x0, iv x1, .unset, .unset] [] := by first | (simp [entryFrame, mkF, argsToLocals, Value.category]; done) | rfl
def Q_rmFf (Z : State) (a1 : Addr) (p2 : Int32) (oR : Addr) (ckR : Addr) (kckR : ClassId) (kkR : Addr) (fiR : Addr) (kfiR : ClassId) (saR : Addr) (kstR : ClassId) (oU : Addr) (ckU : Addr) (kckU : ClassId) (kkU : Addr) (fiU : Addr) (kfiU : ClassId) (saU : Addr) (kstU : ClassId) (rs : List Int32) (us : List Int32) (h0 : Heap) (n0 : Nat) (v : Option Value) (h : Heap) (L : List Loc) : Prop := ∃ pv : Int64, v = some (.long pv) ∧ Fr n0 L ∧ h = h0 ∧ (own_ff rs us p2 pv)
set_option maxRecDepth 65536 in
set_option maxHeartbeats 40000000 in
theorem rmFf (l : Launch) (Z : State) (a0 : Array Value) (hw : ∀ d ∈ tables_1, d.before a0 Z = true) (ws : List Jvm.Cond) (a1 : Addr) (p2 : Int32) (oR : Addr) (ckR : Addr) (kckR : ClassId) (kkR : Addr) (fiR : Addr) (kfiR : ClassId) (saR : Addr) (kstR : ClassId) (oU : Addr) (ckU : Addr) (kckU : ClassId) (kkU : Addr) (fiU : Addr) (kfiU : ClassId) (saU : Addr) (kstU : ClassId) (rs : List Int32) (us : List Int32) (h0 : Heap) (n0 : Nat) (Z0 : n0 ≤ h0.size) (F_read_a1 : Fld Z h0 a1 sN3 "read" sN4 (.ref oR)) (F_unread_a1 : Fld Z h0 a1 sN3 "unread" sN4 (.ref oU)) (E_oR : Exa Z h0 oR sN1) (F_chunks_oR : Fld Z h0 oR sN1 "chunks" sN2 (.ref ckR)) (F_chunkCount_oR : Fld Z h0 oR sN1 "chunkCount" "I" (.int 1)) (F_firsts_oR : Fld Z h0 oR sN1 "firsts" "[I" (.ref fiR)) (A_ckR : Arv Z h0 ckR kckR (.object sN0) (1 : Int32) [(.ref kkR)] .null) (F_size_kkR : Fld Z h0 kkR sN0 "size" "I" (.int (own_n rs))) (F_starts_kkR : Fld Z h0 kkR sN0 "starts" "[I" (.ref saR)) (A_fiR : Arv Z h0 fiR kfiR .int 1 [(.int (own_h rs))] (.int 0)) (A_saR : Arv Z h0 saR kstR .int 256 (own_v rs) (.int 0)) (E_oU : Exa Z h0 oU sN1) (F_chunks_oU : Fld Z h0 oU sN1 "chunks" sN2 (.ref ckU)) (F_chunkCount_oU : Fld Z h0 oU sN1 "chunkCount" "I" (.int 1)) (F_firsts_oU : Fld Z h0 oU sN1 "firsts" "[I" (.ref fiU)) (A_ckU : Arv Z h0 ckU kckU (.object sN0) (1 : Int32) [(.ref kkU)] .null) (F_size_kkU : Fld Z h0 kkU sN0 "size" "I" (.int (own_n us))) (F_starts_kkU : Fld Z h0 kkU sN0 "starts" "[I" (.ref saU)) (A_fiU : Arv Z h0 fiU kfiU .int 1 [(.int (own_h us))] (.int 0)) (A_saU : Arv Z h0 saU kstU .int 256 (own_v us) (.int 0)) (hlR : rs.length ≤ 3) (hsR : own_so rs) (hlU : us.length ≤ 3) (hsU : own_so us) :
  own_M l yN2 (Jvm.Cond.code yN2 prog_116_method_2_code 4 (some .long) :: ws) ({ frames := 3, cells := 0, slots := 0, locals := 51 } : Room) #[(.ref a1), (.int p2)] Z h0 (Q_rmFf Z a1 p2 oR ckR kckR kkR fiR kfiR saR kstR oU ckU kckU kkU fiU kfiU saU kstU rs us h0 n0) := by
 refine MetFree.of_bodySF (plainFor_of_name pn_7) hisR ?_
 intro p e s m args below meth c s₁ Bd hml0 hP hK
 obtain ⟨rfl, hZ, hh⟩ := hP
 have hx := Bd.exec
 have hby := Bd.bytes
 have hml : c.maxLocals = 4 := hml0
 have hown : s.vm.findClass sN3 = some m.cls := findClass_of_methodNamed Bd.named
 have hnm := (name_of_methodNamed Bd.named Bd.method).1
 have X0 : Stand p l e ({ frames := 3, cells := 0, slots := 0, locals := 51 } : Room) s m #[(.ref a1), (.int p2)] below meth c s₁ [] 0 0 := Stand.of_body Bd
 have hU : ∀ (i : Nat) (d : Jvm.Cond), tables_1[i]? = some d → d.before a0 Z = true := fun i d h => hw d (List.mem_of_getElem? h)
 have e0 : s₁.heap = h0 := by rw [← hh, Bd.state]; rfl
 have N0 := Fr.nil n0
 obtain ⟨f0, hf0⟩ : ∃ f : JFrame, f = mkF m 0 #[rv a1, iv p2, .unset, .unset] [] := ⟨_, rfl⟩
 have pre0 : ∀ t, own_S p e below s₁ f0 t → Steps p.tables e below (s₁.setTop (entryFrame m #[(.ref a1), (.int p2)] 4)) t := fun t k => castTop ((ef_rmFf m a1 p2).trans hf0.symm) k
 have R0 : own_R p e below s₁ (mkF m 0 #[rv a1, iv p2, .unset, .unset] []) s₁ f0 := by rw [hf0]; exact fun t k => k
 have R1 : own_R p e below s₁ (mkF m 1 #[rv a1, iv p2, .unset, .unset] [(.ref a1)]) s₁ f0 := fun t k => R0 t (by
  refine XS.aloadN X0.here hx rfl (hb hby d6_0) rfl rfl ?_
  exact k)
 obtain ⟨T2, X2, e2, R3⟩ := own_gF R1 X0 hx hZ hown (host := "") (Or.inl (hU 42 _ rfl)) Via.refl e0 F_read_a1 rfl rfl (hb hby d6_1)
 have R4 : own_R p e below T2 (mkF m 5 #[rv a1, iv p2, .unset, .unset] [(.int p2), (.ref oR)]) s₁ f0 := fun t k => R3 t (by
  refine XS.iloadN X2.here hx rfl (hb hby d6_4) rfl ?_
  exact k)
 obtain ⟨cq5, kq5, q5a, q5b, q5c⟩ := isOf hZ e2 E_oR
 obtain ⟨_, _, ⟨T5, L5, k5, n5⟩, -, X5, ⟨Lc5, hQ5, l5, y5, z5⟩, st5⟩ := X2.virtualBack hx (y := yN3) (z := yN3) hown (mvT hZ (hU 58 _ rfl)) (mvT hZ (hU 59 _ rfl)) (notFace_of_selects (args := #[]) (mvT hZ (hU 61 _ rfl))) (mvT hZ (hU 61 _ rfl)) (mvT hZ (hU 60 _ rfl)) (by decide) (backOf (W := 0) (rmFind l Z a0 hw [] oR p2 ckR kckR kkR fiR kfiR saR kstR rs h0 n0 Z0 E_oR F_chunks_oR F_chunkCount_oR F_firsts_oR A_ckR F_size_kkR F_starts_kkR A_fiR A_saR hlR hsR) hZ (hU 62 _ rfl) (hU 11 _ rfl) (by decide) (by decide)) q5a q5c (g := (mkF m 5 #[rv a1, iv p2, .unset, .unset] [(.int p2), (.ref oR)])) rfl (by rw [hml]; rfl) (Steps.refl _) (argsL := [(.int p2)]) (rest := []) (lenOf pd_8 rfl) rfl (Nat.le_of_eq rfl) (hb hby d6_5) (fun _ _ => ⟨rfl, e2, (by decide : 0 + 0 ≤ _), (by decide : 0 + 0 ≤ _)⟩)
 dsimp only [Pt.U, Pt.locs, Pt.cells, Pt.slots] at X5 l5 y5 z5 st5 hQ5
 subst l5 y5 z5
 obtain ⟨pr_5, rfl, N5q, p5_0, p5_1⟩ := hQ5
 have N5 := Fr.app N0 N5q
 have R6 := fun t k => R4 t (st5.trans k)
 have R7 : own_R p e below T5 (mkF m 14 (fA35 a1 p2 pr_5) [(.int 256), (.int (pr_5.toInt32))]) s₁ f0 := fun t k => R6 t (by
  refine XS.lstoreN X5.here hx rfl (hb hby d6_8) rfl (l' := (fA35 a1 p2 pr_5)) rfl ?_
  refine XS.lloadN X5.here hx rfl (hb hby d6_9) rfl ?_
  refine XS.l2i X5.here hx rfl (hb hby d6_10) rfl ?_
  refine XS.sipush X5.here hx rfl (hb hby d6_11) ?_
  exact k)
 by_cases hA : (pr_5.toInt32) < (256 : Int32)
 ·
  have R8 : own_R p e below T5 (mkF m 43 (fA35 a1 p2 pr_5) [(.long pr_5)]) s₁ f0 := fun t k => R7 t (by
   refine XS.icmpYes X5.here hx rfl (pc0 := 14) (pc' := 42) rfl (hb hby d6_14) rfl (tlt hA).1 (by decide) (by decide) ?_
   refine XS.lloadN X5.here hx rfl (hb hby d6_42) rfl ?_
   exact k)
  obtain ⟨fs, hr, hrun, hended, hW, hsame⟩ := X5.leave (v := some (.long pr_5)) (fun h => by rw [Bd.returns] at h; cases h)
  refine ⟨_, _, pre0 _ (R8 _ ?_), hrun, hended, _, _, rfl, ?_, ⟨_, rfl⟩, hW, hsame.mono (by decide) (by decide)⟩
  ·
   show own_S p e below T5 (mkF m 43 (fA35 a1 p2 pr_5) [(.long pr_5)]) _
   exact retOut X5 hx (t := .long) Bd.returns rfl (Or.inr (Or.inl ⟨rfl, rfl, _, rfl⟩)) (hb hby d6_43) hr
  ·
   show Q_rmFf Z a1 p2 oR ckR kckR kkR fiR kfiR saR kstR oU ckU kckU kkU fiU kfiU saU kstU rs us h0 n0 _ T5.heap _
   rw [p5_0]
   exact ⟨pr_5, rfl, N5, rfl, (own_ffA p5_1 hA)⟩
 ·
  have R9 : own_R p e below T5 (mkF m 18 (fA35 a1 p2 pr_5) [(.ref a1)]) s₁ f0 := fun t k => R7 t (by
   refine XS.icmpNo X5.here hx rfl (hb hby d6_14) rfl (flt hA).1 ?_
   refine XS.aloadN X5.here hx rfl (hb hby d6_17) rfl rfl ?_
   exact k)
  obtain ⟨T10, X10, e10, R11⟩ := own_gF R9 X5 hx hZ hown (host := "") (Or.inl (hU 44 _ rfl)) Via.refl p5_0 F_unread_a1 rfl rfl (hb hby d6_18)
  obtain ⟨cq12, kq12, q12a, q12b, q12c⟩ := isOf hZ e10 E_oU
  obtain ⟨_, _, ⟨T12, L12, k12, n12⟩, -, X12, ⟨Lc12, hQ12, l12, y12, z12⟩, st12⟩ := X10.virtualBack hx (y := yN4) (z := yN4) hown (mvT hZ (hU 65 _ rfl)) (mvT hZ (hU 66 _ rfl)) (notFace_of_selects (args := #[]) (mvT hZ (hU 68 _ rfl))) (mvT hZ (hU 68 _ rfl)) (mvT hZ (hU 67 _ rfl)) (by decide) (backOf (W := 0) (rmEmp l Z a0 hw [] oU ckU kckU kkU us h0 n0 Z0 F_chunks_oU A_ckU F_size_kkU) hZ (hU 69 _ rfl) (hU 11 _ rfl) (by decide) (by decide)) q12a q12c (g := (mkF m 21 (fA35 a1 p2 pr_5) [(.ref oU)])) rfl (by rw [hml]; rfl) (Steps.refl _) (argsL := []) (rest := []) (lenOf pd_9 rfl) rfl (Nat.le_of_eq rfl) (hb hby d6_21) (fun _ _ => ⟨rfl, e10, (by decide : 0 + 0 ≤ _), (by decide : 0 + 0 ≤ _)⟩)
  dsimp only [Pt.U, Pt.locs, Pt.cells, Pt.slots] at X12 l12 y12 z12 st12 hQ12
  subst l12 y12 z12
  obtain ⟨rfl, N12q, p12_0⟩ := hQ12
  have N12 := Fr.app N5 N12q
  have R13 := fun t k => R11 t (st12.trans k)
  by_cases hB : (own_ie us) = (0 : Int32)
  ·
   have R14 : own_R p e below T12 (mkF m 28 (fA35 a1 p2 pr_5) [(.ref a1)]) s₁ f0 := fun t k => R13 t (by
    refine XS.ifNo X12.here hx rfl (hb hby d6_24) rfl ((if0 _ _).trans (teq hB).2) ?_
    refine XS.aloadN X12.here hx rfl (hb hby d6_27) rfl rfl ?_
    exact k)
   obtain ⟨T15, X15, e15, R16⟩ := own_gF R14 X12 hx hZ hown (host := "") (Or.inl (hU 44 _ rfl)) Via.refl p12_0 F_unread_a1 rfl rfl (hb hby d6_28)
   have R17 : own_R p e below T15 (mkF m 32 (fA35 a1 p2 pr_5) [(.int p2), (.ref oU)]) s₁ f0 := fun t k => R16 t (by
    refine XS.iloadN X15.here hx rfl (hb hby d6_31) rfl ?_
    exact k)
   obtain ⟨cq18, kq18, q18a, q18b, q18c⟩ := isOf hZ e15 E_oU
   obtain ⟨_, _, ⟨T18, L18, k18, n18⟩, -, X18, ⟨Lc18, hQ18, l18, y18, z18⟩, st18⟩ := X15.virtualBack hx (y := yN3) (z := yN3) hown (mvT hZ (hU 58 _ rfl)) (mvT hZ (hU 59 _ rfl)) (notFace_of_selects (args := #[]) (mvT hZ (hU 61 _ rfl))) (mvT hZ (hU 61 _ rfl)) (mvT hZ (hU 60 _ rfl)) (by decide) (backOf (W := 0) (rmFind l Z a0 hw [] oU p2 ckU kckU kkU fiU kfiU saU kstU us h0 n0 Z0 E_oU F_chunks_oU F_chunkCount_oU F_firsts_oU A_ckU F_size_kkU F_starts_kkU A_fiU A_saU hlU hsU) hZ (hU 62 _ rfl) (hU 11 _ rfl) (by decide) (by decide)) q18a q18c (g := (mkF m 32 (fA35 a1 p2 pr_5) [(.int p2), (.ref oU)])) rfl (by rw [hml]; rfl) (Steps.refl _) (argsL := [(.int p2)]) (rest := []) (lenOf pd_8 rfl) rfl (Nat.le_of_eq rfl) (hb hby d6_32) (fun _ _ => ⟨rfl, e15, (by decide : 0 + 0 ≤ _), (by decide : 0 + 0 ≤ _)⟩)
   dsimp only [Pt.U, Pt.locs, Pt.cells, Pt.slots] at X18 l18 y18 z18 st18 hQ18
   subst l18 y18 z18
   obtain ⟨pr_18, rfl, N18q, p18_0, p18_1⟩ := hQ18
   have N18 := Fr.app N12 N18q
   have R19 := fun t k => R17 t (st18.trans k)
   have R20 : own_R p e below T18 (mkF m 39 (fA35 a1 p2 pr_5) [(.int 256), (.int (pr_18.toInt32))]) s₁ f0 := fun t k => R19 t (by
    refine XS.l2i X18.here hx rfl (hb hby d6_35) rfl ?_
    refine XS.sipush X18.here hx rfl (hb hby d6_36) ?_
    exact k)
   by_cases hC : (pr_18.toInt32) < (256 : Int32)
   ·
    have R21 : own_R p e below T18 (mkF m 49 (fA35 a1 p2 pr_5) [(.long (pr_5 ||| (1073741824 : Int64)))]) s₁ f0 := fun t k => R20 t (by
     refine XS.icmpYes X18.here hx rfl (pc0 := 39) (pc' := 44) rfl (hb hby d6_39) rfl (tlt hC).1 (by decide) (by decide) ?_
     refine XS.lloadN X18.here hx rfl (hb hby d6_44) rfl ?_
     refine X18.ldc2Long hx hown (mvT hZ (hU 138 _ rfl)) (g := (mkF m 45 (fA35 a1 p2 pr_5) [(.long pr_5)])) rfl (hb hby d6_45) _ ?_
     refine XS.lor X18.here hx rfl (hb hby d6_48) rfl ?_
     exact k)
    obtain ⟨fs, hr, hrun, hended, hW, hsame⟩ := X18.leave (v := some (.long (pr_5 ||| (1073741824 : Int64)))) (fun h => by rw [Bd.returns] at h; cases h)
    refine ⟨_, _, pre0 _ (R21 _ ?_), hrun, hended, _, _, rfl, ?_, ⟨_, rfl⟩, hW, hsame.mono (by decide) (by decide)⟩
    ·
     show own_S p e below T18 (mkF m 49 (fA35 a1 p2 pr_5) [(.long (pr_5 ||| (1073741824 : Int64)))]) _
     exact retOut X18 hx (t := .long) Bd.returns rfl (Or.inr (Or.inl ⟨rfl, rfl, _, rfl⟩)) (hb hby d6_49) hr
    ·
     show Q_rmFf Z a1 p2 oR ckR kckR kkR fiR kfiR saR kstR oU ckU kckU kkU fiU kfiU saU kstU rs us h0 n0 _ T18.heap _
     rw [p18_0]
     exact ⟨(pr_5 ||| (1073741824 : Int64)), rfl, N18, rfl, (own_ffC p5_1 hA p18_1 hC)⟩
   ·
    have R22 : own_R p e below T18 (mkF m 43 (fA35 a1 p2 pr_5) [(.long pr_5)]) s₁ f0 := fun t k => R20 t (by
     refine XS.icmpNo X18.here hx rfl (hb hby d6_39) rfl (flt hC).1 ?_
     refine XS.lloadN X18.here hx rfl (hb hby d6_42) rfl ?_
     exact k)
    obtain ⟨fs, hr, hrun, hended, hW, hsame⟩ := X18.leave (v := some (.long pr_5)) (fun h => by rw [Bd.returns] at h; cases h)
    refine ⟨_, _, pre0 _ (R22 _ ?_), hrun, hended, _, _, rfl, ?_, ⟨_, rfl⟩, hW, hsame.mono (by decide) (by decide)⟩
    ·
     show own_S p e below T18 (mkF m 43 (fA35 a1 p2 pr_5) [(.long pr_5)]) _
     exact retOut X18 hx (t := .long) Bd.returns rfl (Or.inr (Or.inl ⟨rfl, rfl, _, rfl⟩)) (hb hby d6_43) hr
    ·
     show Q_rmFf Z a1 p2 oR ckR kckR kkR fiR kfiR saR kstR oU ckU kckU kkU fiU kfiU saU kstU rs us h0 n0 _ T18.heap _
     rw [p18_0]
     exact ⟨pr_5, rfl, N18, rfl, (own_ffD p5_1 hA p18_1 hC)⟩
  ·
   have R23 : own_R p e below T12 (mkF m 43 (fA35 a1 p2 pr_5) [(.long pr_5)]) s₁ f0 := fun t k => R13 t (by
    refine XS.ifYes X12.here hx rfl (pc0 := 24) (pc' := 42) rfl (hb hby d6_24) rfl ((if0 _ _).trans (feq hB).2) (by decide) (by decide) ?_
    refine XS.lloadN X12.here hx rfl (hb hby d6_42) rfl ?_
    exact k)
   obtain ⟨fs, hr, hrun, hended, hW, hsame⟩ := X12.leave (v := some (.long pr_5)) (fun h => by rw [Bd.returns] at h; cases h)
   refine ⟨_, _, pre0 _ (R23 _ ?_), hrun, hended, _, _, rfl, ?_, ⟨_, rfl⟩, hW, hsame.mono (by decide) (by decide)⟩
   ·
    show own_S p e below T12 (mkF m 43 (fA35 a1 p2 pr_5) [(.long pr_5)]) _
    exact retOut X12 hx (t := .long) Bd.returns rfl (Or.inr (Or.inl ⟨rfl, rfl, _, rfl⟩)) (hb hby d6_43) hr
   ·
    show Q_rmFf Z a1 p2 oR ckR kckR kkR fiR kfiR saR kstR oU ckU kckU kkU fiU kfiU saU kstU rs us h0 n0 _ T12.heap _
    rw [p12_0]
    exact ⟨pr_5, rfl, N12, rfl, (own_ffB p5_1 hA hB)⟩
theorem ef_rmHolds (m : MethodId) (x0 : Addr) (x1 : Int64) (x2 : Int32) : entryFrame m #[(.ref x0), (.long x1), (.int x2)] 9 = mkF m 0 #[rv x0, own_l x1, .second, iv x2, .unset, .unset, .unset, .unset, .unset] [] := by first | (simp [entryFrame, mkF, argsToLocals, Value.category]; done) | rfl
def Q_rmHolds (Z : State) (oR : Addr) (p3 : Int32) (ckR : Addr) (kckR : ClassId) (kkR : Addr) (saR : Addr) (kstR : ClassId) (xs : List Int32) (h0 : Heap) (n0 : Nat) (v : Option Value) (h : Heap) (L : List Loc) : Prop := v = some (.int 1) ∧ Fr n0 L ∧ h = h0
set_option maxRecDepth 65536 in
set_option maxHeartbeats 40000000 in
theorem rmHolds (l : Launch) (Z : State) (a0 : Array Value) (hw : ∀ d ∈ tables_1, d.before a0 Z = true) (ws : List Jvm.Cond) (oR : Addr) (p3 : Int32) (ckR : Addr) (kckR : ClassId) (kkR : Addr) (saR : Addr) (kstR : ClassId) (xs : List Int32) (h0 : Heap) (n0 : Nat) (Z0 : n0 ≤ h0.size) (F_chunks_oR : Fld Z h0 oR sN1 "chunks" sN2 (.ref ckR)) (F_chunkCount_oR : Fld Z h0 oR sN1 "chunkCount" "I" (.int 1)) (A_ckR : Arv Z h0 ckR kckR (.object sN0) (1 : Int32) [(.ref kkR)] .null) (F_size_kkR : Fld Z h0 kkR sN0 "size" "I" (.int (own_n xs))) (F_starts_kkR : Fld Z h0 kkR sN0 "starts" "[I" (.ref saR)) (A_saR : Arv Z h0 saR kstR .int 256 (own_v xs) (.int 0)) (hlen : xs.length ≤ 2) (hso : own_so xs) (hq : p3 ∉ xs) :
  own_M l yN10 (Jvm.Cond.code yN10 prog_118_method_4_code 9 (some .boolean) :: ws) ({ frames := 0, cells := 0, slots := 0, locals := 0 } : Room) #[(.ref oR), (.long (own_p xs p3)), (.int p3)] Z h0 (Q_rmHolds Z oR p3 ckR kckR kkR saR kstR xs h0 n0) := by
 refine MetFree.of_bodySF (plainFor_of_name pn_1) hisR ?_
 intro p e s m args below meth c s₁ Bd hml0 hP hK
 obtain ⟨rfl, hZ, hh⟩ := hP
 have hx := Bd.exec
 have hby := Bd.bytes
 have hml : c.maxLocals = 9 := hml0
 have hown : s.vm.findClass sN1 = some m.cls := findClass_of_methodNamed Bd.named
 have hnm := (name_of_methodNamed Bd.named Bd.method).1
 have X0 : Stand p l e ({ frames := 0, cells := 0, slots := 0, locals := 0 } : Room) s m #[(.ref oR), (.long (own_p xs p3)), (.int p3)] below meth c s₁ [] 0 0 := Stand.of_body Bd
 have hU : ∀ (i : Nat) (d : Jvm.Cond), tables_1[i]? = some d → d.before a0 Z = true := fun i d h => hw d (List.mem_of_getElem? h)
 have e0 : s₁.heap = h0 := by rw [← hh, Bd.state]; rfl
 have N0 := Fr.nil n0
 obtain ⟨f0, hf0⟩ : ∃ f : JFrame, f = mkF m 0 (fA47 oR p3 xs) [] := ⟨_, rfl⟩
 have pre0 : ∀ t, own_S p e below s₁ f0 t → Steps p.tables e below (s₁.setTop (entryFrame m #[(.ref oR), (.long (own_p xs p3)), (.int p3)] 9)) t := fun t k => castTop ((ef_rmHolds m oR (own_p xs p3) p3).trans hf0.symm) k
 have R0 : own_R p e below s₁ (mkF m 0 (fA47 oR p3 xs) []) s₁ f0 := by rw [hf0]; exact fun t k => k
 have R1 : own_R p e below s₁ (mkF m 5 (fA47 oR p3 xs) [(.int ((((own_p xs p3).toUInt64 >>> ((32 : Int32) &&& 0x3f).toInt64.toUInt64).toInt64).toInt32))]) s₁ f0 := fun t k => R0 t (by
  refine XS.lloadN X0.here hx rfl (hb hby d14_0) rfl ?_
  refine XS.bipush X0.here hx rfl (hb hby d14_1) ?_
  refine XS.lushr X0.here hx rfl (hb hby d14_3) rfl ?_
  refine XS.l2i X0.here hx rfl (hb hby d14_4) rfl ?_
  exact k)
 have R2 : own_R p e below s₁ (mkF m 5 (fA47 oR p3 xs) [(.int 0)]) s₁ f0 := by have q := R1; rw [((own_sh32 xs p3) : ((((own_p xs p3).toUInt64 >>> ((32 : Int32) &&& 0x3f).toInt64.toUInt64).toInt64).toInt32) = (0 : Int32))] at q; exact q
 have R3 : own_R p e below s₁ (mkF m 13 #[rv oR, own_l (own_p xs p3), .second, iv p3, iv 0, .unset, .unset, .unset, .unset] [(.int (((own_p xs p3).toInt32) - (256 : Int32)))]) s₁ f0 := fun t k => R2 t (by
  refine XS.istore X0.here hx rfl (hb hby d14_5) rfl (l' := #[rv oR, own_l (own_p xs p3), .second, iv p3, iv 0, .unset, .unset, .unset, .unset]) rfl ?_
  refine XS.lloadN X0.here hx rfl (hb hby d14_7) rfl ?_
  refine XS.l2i X0.here hx rfl (hb hby d14_8) rfl ?_
  refine XS.sipush X0.here hx rfl (hb hby d14_9) ?_
  refine XS.isub X0.here hx rfl (hb hby d14_12) rfl ?_
  exact k)
 have R4 : own_R p e below s₁ (mkF m 13 #[rv oR, own_l (own_p xs p3), .second, iv p3, iv 0, .unset, .unset, .unset, .unset] [(.int (own_c xs p3))]) s₁ f0 := by have q := R3; rw [((own_pc xs p3) : (((own_p xs p3).toInt32) - (256 : Int32)) = (own_c xs p3))] at q; exact q
 have R5 : own_R p e below s₁ (mkF m 23 (fA23 oR p3 xs) [(.ref oR), (.int 0)]) s₁ f0 := fun t k => R4 t (by
  refine XS.istore X0.here hx rfl (hb hby d14_13) rfl (l' := (fA23 oR p3 xs)) rfl ?_
  refine XS.iload X0.here hx rfl (hb hby d14_15) rfl ?_
  refine XS.ifNo X0.here hx rfl (hb hby d14_17) rfl ((if0 _ _).trans (flt (by decide : ¬ ((0 : Int32) < (0 : Int32)))).1) ?_
  refine XS.iload X0.here hx rfl (hb hby d14_20) rfl ?_
  refine XS.aloadN X0.here hx rfl (hb hby d14_22) rfl rfl ?_
  exact k)
 obtain ⟨T6, X6, e6, R7⟩ := own_gF R5 X0 hx hZ hown (host := "") (Or.inl (hU 19 _ rfl)) Via.refl e0 F_chunkCount_oR rfl rfl (hb hby d14_23)
 have R8 : own_R p e below T6 (mkF m 37 (fA23 oR p3 xs) [(.ref oR), (.int (own_c xs p3))]) s₁ f0 := fun t k => R7 t (by
  refine XS.icmpNo X6.here hx rfl (hb hby d14_26) rfl (tlt (by decide : (0 : Int32) < (1 : Int32))).2.1 ?_
  refine XS.iload X6.here hx rfl (hb hby d14_29) rfl ?_
  refine XS.ifNo X6.here hx rfl (hb hby d14_31) rfl ((if0 _ _).trans (flt (own_cb xs p3).1).1) ?_
  refine XS.iload X6.here hx rfl (hb hby d14_34) rfl ?_
  refine XS.aloadN X6.here hx rfl (hb hby d14_36) rfl rfl ?_
  exact k)
 obtain ⟨T9, X9, e9, R10⟩ := own_gF R8 X6 hx hZ hown (host := "") (Or.inl (hU 40 _ rfl)) Via.refl e6 F_chunks_oR rfl rfl (hb hby d14_37)
 have R11 : own_R p e below T9 (mkF m 42 (fA23 oR p3 xs) [(.int 0), (.ref ckR), (.int (own_c xs p3))]) s₁ f0 := fun t k => R10 t (by
  refine XS.iload X9.here hx rfl (hb hby d14_40) rfl ?_
  exact k)
 obtain ⟨cl12, Ar12, q12, S12, n12_, H12, G12⟩ := id A_ckR
 have hin12 : ¬ ((0 : Int32) < 0 ∨ cl12.slots.size ≤ ((0 : Int32)).toNatClampNeg) := inb_of S12 ⟨by decide, by decide⟩
 have hat12 : cl12.slots[((0 : Int32)).toNatClampNeg]? = some (.ref kkR) := Has.at H12 hin12 rfl
 have R13 : own_R p e below T9 (mkF m 43 (fA23 oR p3 xs) [(.ref kkR), (.int (own_c xs p3))]) s₁ f0 := fun t k => R11 t (X9.aaload hx (j := (0 : Int32)) (v := (.ref kkR)) (by rw [e9]; exact Ar12.1) (State.isArrayOf_alike hZ.alike Ar12.2.1) rfl Ar12.2.2 hin12 hat12 (g := (mkF m 42 (fA23 oR p3 xs) [(.int 0), (.ref ckR), (.int (own_c xs p3))])) rfl rfl (hb hby d14_42) _ k)
 obtain ⟨T14, X14, e14, R15⟩ := own_gF R13 X9 hx hZ hown (Or.inr (hU 63 _ rfl)) Via.refl e9 F_size_kkR rfl rfl (hb hby d14_43)
 have R16 : own_R p e below T14 (mkF m 52 (fA23 oR p3 xs) [(.ref oR)]) s₁ f0 := fun t k => R15 t (by
  refine XS.icmpYes X14.here hx rfl (pc0 := 46) (pc' := 51) rfl (hb hby d14_46) rfl (flt (own_cn xs p3)).2.2.2 (by decide) (by decide) ?_
  refine XS.aloadN X14.here hx rfl (hb hby d14_51) rfl rfl ?_
  exact k)
 obtain ⟨T17, X17, e17, R18⟩ := own_gF R16 X14 hx hZ hown (host := "") (Or.inl (hU 40 _ rfl)) Via.refl e14 F_chunks_oR rfl rfl (hb hby d14_52)
 have R19 : own_R p e below T17 (mkF m 57 (fA23 oR p3 xs) [(.int 0), (.ref ckR)]) s₁ f0 := fun t k => R18 t (by
  refine XS.iload X17.here hx rfl (hb hby d14_55) rfl ?_
  exact k)
 obtain ⟨cl20, Ar20, q20, S20, n20_, H20, G20⟩ := id A_ckR
 have hin20 : ¬ ((0 : Int32) < 0 ∨ cl20.slots.size ≤ ((0 : Int32)).toNatClampNeg) := inb_of S20 ⟨by decide, by decide⟩
 have hat20 : cl20.slots[((0 : Int32)).toNatClampNeg]? = some (.ref kkR) := Has.at H20 hin20 rfl
 have R21 : own_R p e below T17 (mkF m 58 (fA23 oR p3 xs) [(.ref kkR)]) s₁ f0 := fun t k => R19 t (X17.aaload hx (j := (0 : Int32)) (v := (.ref kkR)) (by rw [e17]; exact Ar20.1) (State.isArrayOf_alike hZ.alike Ar20.2.1) rfl Ar20.2.2 hin20 hat20 (g := (mkF m 57 (fA23 oR p3 xs) [(.int 0), (.ref ckR)])) rfl rfl (hb hby d14_57) _ k)
 have R22 : own_R p e below T17 (mkF m 62 (fA38 kkR oR p3 xs) [(.int (own_c xs p3))]) s₁ f0 := fun t k => R21 t (by
  refine XS.astore X17.here hx rfl (hb hby d14_58) rfl rfl (l' := (fA38 kkR oR p3 xs)) rfl ?_
  refine XS.iload X17.here hx rfl (hb hby d14_60) rfl ?_
  exact k)
 by_cases hp : (0 : Int32) < (own_c xs p3)
 ·
  have R23 : own_R p e below T17 (mkF m 67 (fA38 kkR oR p3 xs) [(.ref kkR)]) s₁ f0 := fun t k => R22 t (by
   refine XS.ifNo X17.here hx rfl (hb hby d14_62) rfl ((if0 _ _).trans (tlt hp).2.2.2) ?_
   refine XS.aload X17.here hx rfl (hb hby d14_65) rfl rfl ?_
   exact k)
  obtain ⟨T24, X24, e24, R25⟩ := own_gF R23 X17 hx hZ hown (Or.inr (hU 106 _ rfl)) Via.refl e17 F_starts_kkR rfl rfl (hb hby d14_67)
  have R26 : own_R p e below T24 (mkF m 74 (fA38 kkR oR p3 xs) [(.int ((own_c xs p3) - (1 : Int32))), (.ref saR)]) s₁ f0 := fun t k => R25 t (by
   refine XS.iload X24.here hx rfl (hb hby d14_70) rfl ?_
   refine XS.iconst X24.here hx rfl (hb hby d14_72) ?_
   refine XS.isub X24.here hx rfl (hb hby d14_73) rfl ?_
   exact k)
  obtain ⟨cl27, Ar27, q27, S27, n27_, H27, G27⟩ := id A_saR
  have hin27 : ¬ (((own_c xs p3) - (1 : Int32)) < 0 ∨ cl27.slots.size ≤ (((own_c xs p3) - (1 : Int32))).toNatClampNeg) := inb_of S27 (own_cb1 hp)
  have hat27 : cl27.slots[(((own_c xs p3) - (1 : Int32))).toNatClampNeg]? = some (.int (own_y xs p3)) := Has.at H27 hin27 (own_vy hp)
  have R28 : own_R p e below T24 (mkF m 75 (fA38 kkR oR p3 xs) [(.int (own_y xs p3))]) s₁ f0 := fun t k => R26 t (X24.iaload hx (j := ((own_c xs p3) - (1 : Int32))) (v := (.int (own_y xs p3))) (by rw [e24]; exact Ar27.1) (State.isArrayOf_alike hZ.alike Ar27.2.1) Ar27.2.2 hin27 hat27 (g := (mkF m 74 (fA38 kkR oR p3 xs) [(.int ((own_c xs p3) - (1 : Int32))), (.ref saR)])) rfl rfl (hb hby d14_74) _ k)
  have R29 : own_R p e below T24 (mkF m 134 (fA14 kkR oR p3 xs) [(.ref kkR), (.int (own_c xs p3))]) s₁ f0 := fun t k => R28 t (by
   refine XS.iloadN X24.here hx rfl (hb hby d14_75) rfl ?_
   refine XS.icmpNo X24.here hx rfl (hb hby d14_76) rfl (tlt (own_yl hp)).2.1 ?_
   refine XS.iconst X24.here hx rfl (hb hby d14_79) ?_
   refine XS.goto X24.here hx rfl (pc0 := 80) (pc' := 128) rfl (hb hby d14_80) (by decide) (by decide) ?_
   refine XS.istore X24.here hx rfl (hb hby d14_128) rfl (l' := (fA14 kkR oR p3 xs)) rfl ?_
   refine XS.iload X24.here hx rfl (hb hby d14_130) rfl ?_
   refine XS.aload X24.here hx rfl (hb hby d14_132) rfl rfl ?_
   exact k)
  obtain ⟨T30, X30, e30, R31⟩ := own_gF R29 X24 hx hZ hown (Or.inr (hU 63 _ rfl)) Via.refl e24 F_size_kkR rfl rfl (hb hby d14_134)
  by_cases hn : (own_c xs p3) < (own_n xs)
  ·
   have R32 : own_R p e below T30 (mkF m 142 (fA14 kkR oR p3 xs) [(.ref kkR)]) s₁ f0 := fun t k => R31 t (by
    refine XS.icmpNo X30.here hx rfl (hb hby d14_137) rfl (tlt hn).2.1 ?_
    refine XS.aload X30.here hx rfl (hb hby d14_140) rfl rfl ?_
    exact k)
   obtain ⟨T33, X33, e33, R34⟩ := own_gF R32 X30 hx hZ hown (Or.inr (hU 106 _ rfl)) Via.refl e30 F_starts_kkR rfl rfl (hb hby d14_142)
   have R35 : own_R p e below T33 (mkF m 147 (fA14 kkR oR p3 xs) [(.int (own_c xs p3)), (.ref saR)]) s₁ f0 := fun t k => R34 t (by
    refine XS.iload X33.here hx rfl (hb hby d14_145) rfl ?_
    exact k)
   obtain ⟨cl36, Ar36, q36, S36, n36_, H36, G36⟩ := id A_saR
   have hin36 : ¬ ((own_c xs p3) < 0 ∨ cl36.slots.size ≤ ((own_c xs p3)).toNatClampNeg) := inb_of S36 (own_cb xs p3)
   have hat36 : cl36.slots[((own_c xs p3)).toNatClampNeg]? = some (.int (own_x xs p3)) := Has.at H36 hin36 (own_va xs p3)
   have R37 : own_R p e below T33 (mkF m 148 (fA14 kkR oR p3 xs) [(.int (own_x xs p3))]) s₁ f0 := fun t k => R35 t (X33.iaload hx (j := (own_c xs p3)) (v := (.int (own_x xs p3))) (by rw [e33]; exact Ar36.1) (State.isArrayOf_alike hZ.alike Ar36.2.1) Ar36.2.2 hin36 hat36 (g := (mkF m 147 (fA14 kkR oR p3 xs) [(.int (own_c xs p3)), (.ref saR)])) rfl rfl (hb hby d14_147) _ k)
   have R38 : own_R p e below T33 (mkF m 211 (fA18 kkR oR p3 xs) [(.int 1)]) s₁ f0 := fun t k => R37 t (by
    refine XS.iloadN X33.here hx rfl (hb hby d14_148) rfl ?_
    refine XS.icmpNo X33.here hx rfl (hb hby d14_149) rfl (tlt (own_xg hlen hso hq hn)).2.2.2 ?_
    refine XS.iconst X33.here hx rfl (hb hby d14_152) ?_
    refine XS.goto X33.here hx rfl (pc0 := 153) (pc' := 194) rfl (hb hby d14_153) (by decide) (by decide) ?_
    refine XS.istore X33.here hx rfl (hb hby d14_194) rfl (l' := (fA18 kkR oR p3 xs)) rfl ?_
    refine XS.iload X33.here hx rfl (hb hby d14_196) rfl ?_
    refine XS.ifNo X33.here hx rfl (hb hby d14_198) rfl ((if0 _ _).trans (feq (by decide : ¬ ((1 : Int32) = (0 : Int32)))).1) ?_
    refine XS.iload X33.here hx rfl (hb hby d14_201) rfl ?_
    refine XS.ifNo X33.here hx rfl (hb hby d14_203) rfl ((if0 _ _).trans (feq (by decide : ¬ ((1 : Int32) = (0 : Int32)))).1) ?_
    refine XS.iconst X33.here hx rfl (hb hby d14_206) ?_
    refine XS.goto X33.here hx rfl (pc0 := 207) (pc' := 211) rfl (hb hby d14_207) (by decide) (by decide) ?_
    exact k)
   obtain ⟨fs, hr, hrun, hended, hW, hsame⟩ := X33.leave (v := some (.int 1)) (fun h => by rw [Bd.returns] at h; cases h)
   refine ⟨_, _, pre0 _ (R38 _ ?_), hrun, hended, _, _, rfl, ?_, ⟨_, rfl⟩, hW, hsame.mono (by decide) (by decide)⟩
   ·
    show own_S p e below T33 (mkF m 211 (fA18 kkR oR p3 xs) [(.int 1)]) _
    exact retN X33 hx (t := .boolean) Bd.returns (by simp) (hb hby d14_211) hr
   ·
    show Q_rmHolds Z oR p3 ckR kckR kkR saR kstR xs h0 n0 _ T33.heap _
    rw [e33]
    exact ⟨rfl, N0, rfl⟩
  ·
   have R39 : own_R p e below T30 (mkF m 163 (fA14 kkR oR p3 xs) [(.ref oR), (.int 0)]) s₁ f0 := fun t k => R31 t (by
    refine XS.icmpYes X30.here hx rfl (pc0 := 137) (pc' := 160) rfl (hb hby d14_137) rfl (flt hn).2.1 (by decide) (by decide) ?_
    refine XS.iload X30.here hx rfl (hb hby d14_160) rfl ?_
    refine XS.aloadN X30.here hx rfl (hb hby d14_162) rfl rfl ?_
    exact k)
   obtain ⟨T40, X40, e40, R41⟩ := own_gF R39 X30 hx hZ hown (host := "") (Or.inl (hU 19 _ rfl)) Via.refl e30 F_chunkCount_oR rfl rfl (hb hby d14_163)
   have R42 : own_R p e below T40 (mkF m 211 (fA18 kkR oR p3 xs) [(.int 1)]) s₁ f0 := fun t k => R41 t (by
    refine XS.iconst X40.here hx rfl (hb hby d14_166) ?_
    refine XS.isub X40.here hx rfl (hb hby d14_167) rfl ?_
    refine XS.icmpYes X40.here hx rfl (pc0 := 168) (pc' := 189) rfl (hb hby d14_168) rfl (teq (by decide : (0 : Int32) = (0 : Int32))).1 (by decide) (by decide) ?_
    refine XS.iconst X40.here hx rfl (hb hby d14_189) ?_
    refine XS.goto X40.here hx rfl (pc0 := 190) (pc' := 194) rfl (hb hby d14_190) (by decide) (by decide) ?_
    refine XS.istore X40.here hx rfl (hb hby d14_194) rfl (l' := (fA18 kkR oR p3 xs)) rfl ?_
    refine XS.iload X40.here hx rfl (hb hby d14_196) rfl ?_
    refine XS.ifNo X40.here hx rfl (hb hby d14_198) rfl ((if0 _ _).trans (feq (by decide : ¬ ((1 : Int32) = (0 : Int32)))).1) ?_
    refine XS.iload X40.here hx rfl (hb hby d14_201) rfl ?_
    refine XS.ifNo X40.here hx rfl (hb hby d14_203) rfl ((if0 _ _).trans (feq (by decide : ¬ ((1 : Int32) = (0 : Int32)))).1) ?_
    refine XS.iconst X40.here hx rfl (hb hby d14_206) ?_
    refine XS.goto X40.here hx rfl (pc0 := 207) (pc' := 211) rfl (hb hby d14_207) (by decide) (by decide) ?_
    exact k)
   obtain ⟨fs, hr, hrun, hended, hW, hsame⟩ := X40.leave (v := some (.int 1)) (fun h => by rw [Bd.returns] at h; cases h)
   refine ⟨_, _, pre0 _ (R42 _ ?_), hrun, hended, _, _, rfl, ?_, ⟨_, rfl⟩, hW, hsame.mono (by decide) (by decide)⟩
   ·
    show own_S p e below T40 (mkF m 211 (fA18 kkR oR p3 xs) [(.int 1)]) _
    exact retN X40 hx (t := .boolean) Bd.returns (by simp) (hb hby d14_211) hr
   ·
    show Q_rmHolds Z oR p3 ckR kckR kkR saR kstR xs h0 n0 _ T40.heap _
    rw [e40]
    exact ⟨rfl, N0, rfl⟩
 ·
  have R43 : own_R p e below T17 (mkF m 134 (fA14 kkR oR p3 xs) [(.ref kkR), (.int (own_c xs p3))]) s₁ f0 := fun t k => R22 t (by
   refine XS.ifYes X17.here hx rfl (pc0 := 62) (pc' := 87) rfl (hb hby d14_62) rfl ((if0 _ _).trans (flt hp).2.2.2) (by decide) (by decide) ?_
   refine XS.iload X17.here hx rfl (hb hby d14_87) rfl ?_
   refine XS.ifYes X17.here hx rfl (pc0 := 89) (pc' := 123) rfl (hb hby d14_89) rfl ((if0 _ _).trans (teq (by decide : (0 : Int32) = (0 : Int32))).1) (by decide) (by decide) ?_
   refine XS.iconst X17.here hx rfl (hb hby d14_123) ?_
   refine XS.goto X17.here hx rfl (pc0 := 124) (pc' := 128) rfl (hb hby d14_124) (by decide) (by decide) ?_
   refine XS.istore X17.here hx rfl (hb hby d14_128) rfl (l' := (fA14 kkR oR p3 xs)) rfl ?_
   refine XS.iload X17.here hx rfl (hb hby d14_130) rfl ?_
   refine XS.aload X17.here hx rfl (hb hby d14_132) rfl rfl ?_
   exact k)
  obtain ⟨T44, X44, e44, R45⟩ := own_gF R43 X17 hx hZ hown (Or.inr (hU 63 _ rfl)) Via.refl e17 F_size_kkR rfl rfl (hb hby d14_134)
  by_cases hn : (own_c xs p3) < (own_n xs)
  ·
   have R46 : own_R p e below T44 (mkF m 142 (fA14 kkR oR p3 xs) [(.ref kkR)]) s₁ f0 := fun t k => R45 t (by
    refine XS.icmpNo X44.here hx rfl (hb hby d14_137) rfl (tlt hn).2.1 ?_
    refine XS.aload X44.here hx rfl (hb hby d14_140) rfl rfl ?_
    exact k)
   obtain ⟨T47, X47, e47, R48⟩ := own_gF R46 X44 hx hZ hown (Or.inr (hU 106 _ rfl)) Via.refl e44 F_starts_kkR rfl rfl (hb hby d14_142)
   have R49 : own_R p e below T47 (mkF m 147 (fA14 kkR oR p3 xs) [(.int (own_c xs p3)), (.ref saR)]) s₁ f0 := fun t k => R48 t (by
    refine XS.iload X47.here hx rfl (hb hby d14_145) rfl ?_
    exact k)
   obtain ⟨cl50, Ar50, q50, S50, n50_, H50, G50⟩ := id A_saR
   have hin50 : ¬ ((own_c xs p3) < 0 ∨ cl50.slots.size ≤ ((own_c xs p3)).toNatClampNeg) := inb_of S50 (own_cb xs p3)
   have hat50 : cl50.slots[((own_c xs p3)).toNatClampNeg]? = some (.int (own_x xs p3)) := Has.at H50 hin50 (own_va xs p3)
   have R51 : own_R p e below T47 (mkF m 148 (fA14 kkR oR p3 xs) [(.int (own_x xs p3))]) s₁ f0 := fun t k => R49 t (X47.iaload hx (j := (own_c xs p3)) (v := (.int (own_x xs p3))) (by rw [e47]; exact Ar50.1) (State.isArrayOf_alike hZ.alike Ar50.2.1) Ar50.2.2 hin50 hat50 (g := (mkF m 147 (fA14 kkR oR p3 xs) [(.int (own_c xs p3)), (.ref saR)])) rfl rfl (hb hby d14_147) _ k)
   have R52 : own_R p e below T47 (mkF m 211 (fA18 kkR oR p3 xs) [(.int 1)]) s₁ f0 := fun t k => R51 t (by
    refine XS.iloadN X47.here hx rfl (hb hby d14_148) rfl ?_
    refine XS.icmpNo X47.here hx rfl (hb hby d14_149) rfl (tlt (own_xg hlen hso hq hn)).2.2.2 ?_
    refine XS.iconst X47.here hx rfl (hb hby d14_152) ?_
    refine XS.goto X47.here hx rfl (pc0 := 153) (pc' := 194) rfl (hb hby d14_153) (by decide) (by decide) ?_
    refine XS.istore X47.here hx rfl (hb hby d14_194) rfl (l' := (fA18 kkR oR p3 xs)) rfl ?_
    refine XS.iload X47.here hx rfl (hb hby d14_196) rfl ?_
    refine XS.ifNo X47.here hx rfl (hb hby d14_198) rfl ((if0 _ _).trans (feq (by decide : ¬ ((1 : Int32) = (0 : Int32)))).1) ?_
    refine XS.iload X47.here hx rfl (hb hby d14_201) rfl ?_
    refine XS.ifNo X47.here hx rfl (hb hby d14_203) rfl ((if0 _ _).trans (feq (by decide : ¬ ((1 : Int32) = (0 : Int32)))).1) ?_
    refine XS.iconst X47.here hx rfl (hb hby d14_206) ?_
    refine XS.goto X47.here hx rfl (pc0 := 207) (pc' := 211) rfl (hb hby d14_207) (by decide) (by decide) ?_
    exact k)
   obtain ⟨fs, hr, hrun, hended, hW, hsame⟩ := X47.leave (v := some (.int 1)) (fun h => by rw [Bd.returns] at h; cases h)
   refine ⟨_, _, pre0 _ (R52 _ ?_), hrun, hended, _, _, rfl, ?_, ⟨_, rfl⟩, hW, hsame.mono (by decide) (by decide)⟩
   ·
    show own_S p e below T47 (mkF m 211 (fA18 kkR oR p3 xs) [(.int 1)]) _
    exact retN X47 hx (t := .boolean) Bd.returns (by simp) (hb hby d14_211) hr
   ·
    show Q_rmHolds Z oR p3 ckR kckR kkR saR kstR xs h0 n0 _ T47.heap _
    rw [e47]
    exact ⟨rfl, N0, rfl⟩
  ·
   have R53 : own_R p e below T44 (mkF m 163 (fA14 kkR oR p3 xs) [(.ref oR), (.int 0)]) s₁ f0 := fun t k => R45 t (by
    refine XS.icmpYes X44.here hx rfl (pc0 := 137) (pc' := 160) rfl (hb hby d14_137) rfl (flt hn).2.1 (by decide) (by decide) ?_
    refine XS.iload X44.here hx rfl (hb hby d14_160) rfl ?_
    refine XS.aloadN X44.here hx rfl (hb hby d14_162) rfl rfl ?_
    exact k)
   obtain ⟨T54, X54, e54, R55⟩ := own_gF R53 X44 hx hZ hown (host := "") (Or.inl (hU 19 _ rfl)) Via.refl e44 F_chunkCount_oR rfl rfl (hb hby d14_163)
   have R56 : own_R p e below T54 (mkF m 211 (fA18 kkR oR p3 xs) [(.int 1)]) s₁ f0 := fun t k => R55 t (by
    refine XS.iconst X54.here hx rfl (hb hby d14_166) ?_
    refine XS.isub X54.here hx rfl (hb hby d14_167) rfl ?_
    refine XS.icmpYes X54.here hx rfl (pc0 := 168) (pc' := 189) rfl (hb hby d14_168) rfl (teq (by decide : (0 : Int32) = (0 : Int32))).1 (by decide) (by decide) ?_
    refine XS.iconst X54.here hx rfl (hb hby d14_189) ?_
    refine XS.goto X54.here hx rfl (pc0 := 190) (pc' := 194) rfl (hb hby d14_190) (by decide) (by decide) ?_
    refine XS.istore X54.here hx rfl (hb hby d14_194) rfl (l' := (fA18 kkR oR p3 xs)) rfl ?_
    refine XS.iload X54.here hx rfl (hb hby d14_196) rfl ?_
    refine XS.ifNo X54.here hx rfl (hb hby d14_198) rfl ((if0 _ _).trans (feq (by decide : ¬ ((1 : Int32) = (0 : Int32)))).1) ?_
    refine XS.iload X54.here hx rfl (hb hby d14_201) rfl ?_
    refine XS.ifNo X54.here hx rfl (hb hby d14_203) rfl ((if0 _ _).trans (feq (by decide : ¬ ((1 : Int32) = (0 : Int32)))).1) ?_
    refine XS.iconst X54.here hx rfl (hb hby d14_206) ?_
    refine XS.goto X54.here hx rfl (pc0 := 207) (pc' := 211) rfl (hb hby d14_207) (by decide) (by decide) ?_
    exact k)
   obtain ⟨fs, hr, hrun, hended, hW, hsame⟩ := X54.leave (v := some (.int 1)) (fun h => by rw [Bd.returns] at h; cases h)
   refine ⟨_, _, pre0 _ (R56 _ ?_), hrun, hended, _, _, rfl, ?_, ⟨_, rfl⟩, hW, hsame.mono (by decide) (by decide)⟩
   ·
    show own_S p e below T54 (mkF m 211 (fA18 kkR oR p3 xs) [(.int 1)]) _
    exact retN X54 hx (t := .boolean) Bd.returns (by simp) (hb hby d14_211) hr
   ·
    show Q_rmHolds Z oR p3 ckR kckR kkR saR kstR xs h0 n0 _ T54.heap _
    rw [e54]
    exact ⟨rfl, N0, rfl⟩
theorem ef_rmApY (m : MethodId) (x0 : Addr) (x1 : Int32) (x2 : Int32) (x3 : Addr) : entryFrame m #[(.ref x0), (.int x1), (.int x2), (.ref x3)] 6 = mkF m 0 #[rv x0, iv x1, iv x2, rv x3, .unset, .unset] [] := by first | (simp [entryFrame, mkF, argsToLocals, Value.category]; done) | rfl
def Q_rmApY (Z : State) (oR : Addr) (p2 : Int32) (iv_ : Addr) (ckR : Addr) (kckR : ClassId) (kkR : Addr) (fiR : Addr) (kfiR : ClassId) (saR : Addr) (kstR : ClassId) (enR : Addr) (kenR : ClassId) (itR : Addr) (kitR : ClassId) (xs : List Int32) (h0 : Heap) (n0 : Nat) (v : Option Value) (h : Heap) (L : List Loc) : Prop := v = some (.int 1) ∧ Fr n0 L ∧ Keep h0 h [saR, enR, itR, kkR, fiR] ∧ (Fld Z h kkR sN0 "size" "I" (.int (own_n (own_ins p2 xs)))) ∧ (Fld Z h kkR sN0 "starts" "[I" (.ref saR)) ∧ (Arv Z h fiR kfiR .int 1 [(.int (own_h (own_ins p2 xs)))] (.int 0)) ∧ (Arv Z h saR kstR .int 256 (own_v (own_ins p2 xs)) (.int 0)) ∧ (Fld Z h kkR sN0 "ends" "[I" (.ref enR)) ∧ (Fld Z h kkR sN0 "items" "[Ljava/lang/Object;" (.ref itR)) ∧ (Arv Z h enR kenR .int 256 (own_e (own_ins p2 xs)) (.int 0)) ∧ (Arv Z h itR kitR (.object "java/lang/Object") (256 : Int32) (own_i iv_ (own_ins p2 xs)) .null)
set_option maxRecDepth 65536 in
set_option maxHeartbeats 40000000 in
theorem rmApY (l : Launch) (Z : State) (a0 : Array Value) (hw : ∀ d ∈ tables_1, d.before a0 Z = true) (ws : List Jvm.Cond) (oR : Addr) (p2 : Int32) (iv_ : Addr) (ckR : Addr) (kckR : ClassId) (kkR : Addr) (fiR : Addr) (kfiR : ClassId) (saR : Addr) (kstR : ClassId) (enR : Addr) (kenR : ClassId) (itR : Addr) (kitR : ClassId) (xs : List Int32) (h0 : Heap) (n0 : Nat) (Z0 : n0 ≤ h0.size) (E_oR : Exa Z h0 oR sN1) (F_chunks_oR : Fld Z h0 oR sN1 "chunks" sN2 (.ref ckR)) (F_chunkCount_oR : Fld Z h0 oR sN1 "chunkCount" "I" (.int 1)) (F_firsts_oR : Fld Z h0 oR sN1 "firsts" "[I" (.ref fiR)) (F_withItems_oR : Fld Z h0 oR sN1 "withItems" "Z" (.int 1)) (A_ckR : Arv Z h0 ckR kckR (.object sN0) (1 : Int32) [(.ref kkR)] .null) (E_kkR : Exa Z h0 kkR sN0) (F_size_kkR : Fld Z h0 kkR sN0 "size" "I" (.int (own_n xs))) (F_starts_kkR : Fld Z h0 kkR sN0 "starts" "[I" (.ref saR)) (A_fiR : Arv Z h0 fiR kfiR .int 1 [(.int (own_h xs))] (.int 0)) (A_saR : Arv Z h0 saR kstR .int 256 (own_v xs) (.int 0)) (F_ends_kkR : Fld Z h0 kkR sN0 "ends" "[I" (.ref enR)) (F_items_kkR : Fld Z h0 kkR sN0 "items" "[Ljava/lang/Object;" (.ref itR)) (A_enR : Arv Z h0 enR kenR .int 256 (own_e xs) (.int 0)) (A_itR : Arv Z h0 itR kitR (.object "java/lang/Object") (256 : Int32) (own_i iv_ xs) .null) (E_iv_ : Exa Z h0 iv_ "java/lang/Integer") (g_saR : n0 ≤ saR) (g_enR : n0 ≤ enR) (g_itR : n0 ≤ itR) (g_kkR : n0 ≤ kkR) (g_fiR : n0 ≤ fiR) (ne_fiR_ckR : fiR ≠ ckR) (ne_fiR_saR : fiR ≠ saR) (ne_fiR_enR : fiR ≠ enR) (ne_fiR_itR : fiR ≠ itR) (ne_ckR_saR : ckR ≠ saR) (ne_ckR_enR : ckR ≠ enR) (ne_ckR_itR : ckR ≠ itR) (ne_saR_enR : saR ≠ enR) (ne_saR_itR : saR ≠ itR) (ne_enR_itR : enR ≠ itR) (ovr_itR : Ovr Z kitR "java/lang/Object") (hlen : xs.length ≤ 2) (hso : own_so xs) (hap : own_ap xs p2) :
  own_M l yN5 (Jvm.Cond.code yN5 prog_118_method_5_code 6 (some .boolean) :: ws) ({ frames := 0, cells := 0, slots := 0, locals := 0 } : Room) #[(.ref oR), (.int p2), (.int (p2 + (1 : Int32))), (.ref iv_)] Z h0 (Q_rmApY Z oR p2 iv_ ckR kckR kkR fiR kfiR saR kstR enR kenR itR kitR xs h0 n0) := by
 refine MetFree.of_bodySF (plainFor_of_name pn_1) hisR ?_
 intro p e s m args below meth c s₁ Bd hml0 hP hK
 obtain ⟨rfl, hZ, hh⟩ := hP
 have hx := Bd.exec
 have hby := Bd.bytes
 have hml : c.maxLocals = 6 := hml0
 have hown : s.vm.findClass sN1 = some m.cls := findClass_of_methodNamed Bd.named
 have hnm := (name_of_methodNamed Bd.named Bd.method).1
 have X0 : Stand p l e ({ frames := 0, cells := 0, slots := 0, locals := 0 } : Room) s m #[(.ref oR), (.int p2), (.int (p2 + (1 : Int32))), (.ref iv_)] below meth c s₁ [] 0 0 := Stand.of_body Bd
 have hU : ∀ (i : Nat) (d : Jvm.Cond), tables_1[i]? = some d → d.before a0 Z = true := fun i d h => hw d (List.mem_of_getElem? h)
 have e0 : s₁.heap = h0 := by rw [← hh, Bd.state]; rfl
 have N0 := Fr.nil n0
 obtain ⟨f0, hf0⟩ : ∃ f : JFrame, f = mkF m 0 (fA9 iv_ oR p2) [] := ⟨_, rfl⟩
 have pre0 : ∀ t, own_S p e below s₁ f0 t → Steps p.tables e below (s₁.setTop (entryFrame m #[(.ref oR), (.int p2), (.int (p2 + (1 : Int32))), (.ref iv_)] 6)) t := fun t k => castTop ((ef_rmApY m oR p2 (p2 + (1 : Int32)) iv_).trans hf0.symm) k
 have R0 : own_R p e below s₁ (mkF m 0 (fA9 iv_ oR p2) []) s₁ f0 := by rw [hf0]; exact fun t k => k
 rcases own_sh2 hlen with rfl | ⟨xa, rfl⟩ | ⟨xa, xb, rfl⟩
 ·
  have lt_F_size_kkR : Fld Z h0 kkR sN0 "size" "I" (.int 0) := F_size_kkR
  have lt_A_fiR : Arv Z h0 fiR kfiR .int 1 [(.int 0)] (.int 0) := A_fiR
  have lt_A_saR : Arv Z h0 saR kstR .int 256 [(.int 0), (.int 0), (.int 0)] (.int 0) := A_saR
  have lt_A_enR : Arv Z h0 enR kenR .int 256 [(.int 0), (.int 0), (.int 0)] (.int 0) := A_enR
  have lt_A_itR : Arv Z h0 itR kitR (.object "java/lang/Object") (256 : Int32) [.null, .null, .null] .null := A_itR
  have R1 : own_R p e below s₁ (mkF m 1 (fA9 iv_ oR p2) [(.ref oR)]) s₁ f0 := fun t k => R0 t (by
   refine XS.aloadN X0.here hx rfl (hb hby d20_0) rfl rfl ?_
   exact k)
  obtain ⟨T2, X2, e2, R3⟩ := own_gF R1 X0 hx hZ hown (host := "") (Or.inl (hU 40 _ rfl)) Via.refl e0 F_chunks_oR rfl rfl (hb hby d20_1)
  have R4 : own_R p e below T2 (mkF m 5 (fA9 iv_ oR p2) [(.ref oR), (.ref ckR)]) s₁ f0 := fun t k => R3 t (by
   refine XS.aloadN X2.here hx rfl (hb hby d20_4) rfl rfl ?_
   exact k)
  obtain ⟨T5, X5, e5, R6⟩ := own_gF R4 X2 hx hZ hown (host := "") (Or.inl (hU 19 _ rfl)) Via.refl e2 F_chunkCount_oR rfl rfl (hb hby d20_5)
  have R7 : own_R p e below T5 (mkF m 10 (fA9 iv_ oR p2) [(.int 0), (.ref ckR)]) s₁ f0 := fun t k => R6 t (by
   refine XS.iconst X5.here hx rfl (hb hby d20_8) ?_
   refine XS.isub X5.here hx rfl (hb hby d20_9) rfl ?_
   exact k)
  obtain ⟨cl8, Ar8, q8, S8, n8_, H8, G8⟩ := id A_ckR
  have hin8 : ¬ ((0 : Int32) < 0 ∨ cl8.slots.size ≤ ((0 : Int32)).toNatClampNeg) := inb_of S8 ⟨by decide, by decide⟩
  have hat8 : cl8.slots[((0 : Int32)).toNatClampNeg]? = some (.ref kkR) := Has.at H8 hin8 rfl
  have R9 : own_R p e below T5 (mkF m 11 (fA9 iv_ oR p2) [(.ref kkR)]) s₁ f0 := fun t k => R7 t (X5.aaload hx (j := (0 : Int32)) (v := (.ref kkR)) (by rw [e5]; exact Ar8.1) (State.isArrayOf_alike hZ.alike Ar8.2.1) rfl Ar8.2.2 hin8 hat8 (g := (mkF m 10 (fA9 iv_ oR p2) [(.int 0), (.ref ckR)])) rfl rfl (hb hby d20_10) _ k)
  have R10 : own_R p e below T5 (mkF m 15 (fA32 iv_ kkR oR p2) [(.ref kkR)]) s₁ f0 := fun t k => R9 t (by
   refine XS.astore X5.here hx rfl (hb hby d20_11) rfl rfl (l' := (fA32 iv_ kkR oR p2)) rfl ?_
   refine XS.aload X5.here hx rfl (hb hby d20_13) rfl rfl ?_
   exact k)
  obtain ⟨T11, X11, e11, R12⟩ := own_gF R10 X5 hx hZ hown (Or.inr (hU 63 _ rfl)) Via.refl e5 lt_F_size_kkR rfl rfl (hb hby d20_15)
  have R13 : own_R p e below T11 (mkF m 64 (fA12 iv_ kkR oR p2) [(.ref kkR)]) s₁ f0 := fun t k => R12 t (by
   refine XS.istore X11.here hx rfl (hb hby d20_18) rfl (l' := (fA12 iv_ kkR oR p2)) rfl ?_
   refine XS.iload X11.here hx rfl (hb hby d20_20) rfl ?_
   refine XS.ifYes X11.here hx rfl (pc0 := 22) (pc' := 41) rfl (hb hby d20_22) rfl ((if0 _ _).trans (flt (by decide : ¬ ((0 : Int32) < (0 : Int32)))).2.2.2) (by decide) (by decide) ?_
   refine XS.iload X11.here hx rfl (hb hby d20_41) rfl ?_
   refine XS.sipush X11.here hx rfl (hb hby d20_43) ?_
   refine XS.icmpYes X11.here hx rfl (pc0 := 46) (pc' := 62) rfl (hb hby d20_46) rfl (feq (by decide : ¬ ((0 : Int32) = (256 : Int32)))).2 (by decide) (by decide) ?_
   refine XS.aload X11.here hx rfl (hb hby d20_62) rfl rfl ?_
   exact k)
  obtain ⟨T14, X14, e14, R15⟩ := own_gF R13 X11 hx hZ hown (Or.inr (hU 106 _ rfl)) Via.refl e11 F_starts_kkR rfl rfl (hb hby d20_64)
  have R16 : own_R p e below T14 (mkF m 70 (fA12 iv_ kkR oR p2) [(.int p2), (.int 0), (.ref saR)]) s₁ f0 := fun t k => R15 t (by
   refine XS.iload X14.here hx rfl (hb hby d20_67) rfl ?_
   refine XS.iloadN X14.here hx rfl (hb hby d20_69) rfl ?_
   exact k)
  obtain ⟨cl17, Ar17, q17, S17, n17_, H17, G17⟩ := id lt_A_saR
  have hin17 : ¬ ((0 : Int32) < 0 ∨ cl17.slots.size ≤ ((0 : Int32)).toNatClampNeg) := inb_of S17 ⟨by decide, by decide⟩
  obtain ⟨T17, h17, X17, e17, W17, st17⟩ := stI X14 hx hZ e14 Ar17 (j := (0 : Int32)) hin17 (g := (mkF m 70 (fA12 iv_ kkR oR p2) [(.int p2), (.int 0), (.ref saR)])) rfl rfl (hb hby d20_70)
  have f17_E_oR := E_oR.wr W17
  have f17_F_chunks_oR := F_chunks_oR.other W17 (Or.inl (Exa.neArv E_oR lt_A_saR (hU 10 _ rfl)))
  have f17_F_chunkCount_oR := F_chunkCount_oR.other W17 (Or.inl (Exa.neArv E_oR lt_A_saR (hU 10 _ rfl)))
  have f17_F_firsts_oR := F_firsts_oR.other W17 (Or.inl (Exa.neArv E_oR lt_A_saR (hU 10 _ rfl)))
  have f17_F_withItems_oR := F_withItems_oR.other W17 (Or.inl (Exa.neArv E_oR lt_A_saR (hU 10 _ rfl)))
  have f17_A_ckR := A_ckR.other W17 ne_ckR_saR
  have f17_E_kkR := E_kkR.wr W17
  have f17_F_size_kkR := lt_F_size_kkR.other W17 (Or.inl (Exa.neArv E_kkR lt_A_saR (hU 25 _ rfl)))
  have f17_F_starts_kkR := F_starts_kkR.other W17 (Or.inl (Exa.neArv E_kkR lt_A_saR (hU 25 _ rfl)))
  have f17_A_fiR := lt_A_fiR.other W17 ne_fiR_saR
  have f17_F_ends_kkR := F_ends_kkR.other W17 (Or.inl (Exa.neArv E_kkR lt_A_saR (hU 25 _ rfl)))
  have f17_F_items_kkR := F_items_kkR.other W17 (Or.inl (Exa.neArv E_kkR lt_A_saR (hU 25 _ rfl)))
  have f17_A_enR := lt_A_enR.other W17 (Ne.symm ne_saR_enR)
  have f17_A_itR := lt_A_itR.other W17 (Ne.symm ne_saR_itR)
  have f17_E_iv_ := E_iv_.wr W17
  have z17 : n0 ≤ h17.size := by rw [W17.size]; exact Z0
  have K17 : Keep h0 h17 [saR, enR, itR, kkR, fiR] := (Keep.refl h0 [saR, enR, itR, kkR, fiR]).wr W17 (Or.inl (List.mem_of_getElem? (i := 0) rfl))
  have v17 : Arv Z h17 saR kstR .int 256 [(.int p2), (.int 0), (.int 0)] (.int 0) := Arv.set Ar17 q17 S17 n17_ H17 G17 rfl W17 0 rfl (Nat.le_of_ble_eq_true rfl)
  have N17 := Fr.snoc X17 N0 g_saR
  have R18 := fun t k => R16 t (st17 t k)
  have R19 : own_R p e below T17 (mkF m 72 (fA12 iv_ kkR oR p2) [(.ref oR)]) s₁ f0 := fun t k => R18 t (by
   refine XS.aloadN X17.here hx rfl (hb hby d20_71) rfl rfl ?_
   exact k)
  obtain ⟨T20, X20, e20, R21⟩ := own_gF R19 X17 hx hZ hown (host := "") (Or.inl (hU 21 _ rfl)) Via.refl e17 f17_F_withItems_oR rfl rfl (hb hby d20_72)
  have R22 : own_R p e below T20 (mkF m 80 (fA12 iv_ kkR oR p2) [(.ref kkR)]) s₁ f0 := fun t k => R21 t (by
   refine XS.ifNo X20.here hx rfl (hb hby d20_75) rfl ((if0 _ _).trans (feq (by decide : ¬ ((1 : Int32) = (0 : Int32)))).1) ?_
   refine XS.aload X20.here hx rfl (hb hby d20_78) rfl rfl ?_
   exact k)
  obtain ⟨T23, X23, e23, R24⟩ := own_gF R22 X20 hx hZ hown (Or.inr (hU 131 _ rfl)) Via.refl e20 f17_F_ends_kkR rfl rfl (hb hby d20_80)
  have R25 : own_R p e below T23 (mkF m 86 (fA12 iv_ kkR oR p2) [(.int (p2 + (1 : Int32))), (.int 0), (.ref enR)]) s₁ f0 := fun t k => R24 t (by
   refine XS.iload X23.here hx rfl (hb hby d20_83) rfl ?_
   refine XS.iloadN X23.here hx rfl (hb hby d20_85) rfl ?_
   exact k)
  obtain ⟨cl26, Ar26, q26, S26, n26_, H26, G26⟩ := id f17_A_enR
  have hin26 : ¬ ((0 : Int32) < 0 ∨ cl26.slots.size ≤ ((0 : Int32)).toNatClampNeg) := inb_of S26 ⟨by decide, by decide⟩
  obtain ⟨T26, h26, X26, e26, W26, st26⟩ := stI X23 hx hZ e23 Ar26 (j := (0 : Int32)) hin26 (g := (mkF m 86 (fA12 iv_ kkR oR p2) [(.int (p2 + (1 : Int32))), (.int 0), (.ref enR)])) rfl rfl (hb hby d20_86)
  have f26_E_oR := f17_E_oR.wr W26
  have f26_F_chunks_oR := f17_F_chunks_oR.other W26 (Or.inl (Exa.neArv f17_E_oR f17_A_enR (hU 10 _ rfl)))
  have f26_F_chunkCount_oR := f17_F_chunkCount_oR.other W26 (Or.inl (Exa.neArv f17_E_oR f17_A_enR (hU 10 _ rfl)))
  have f26_F_firsts_oR := f17_F_firsts_oR.other W26 (Or.inl (Exa.neArv f17_E_oR f17_A_enR (hU 10 _ rfl)))
  have f26_F_withItems_oR := f17_F_withItems_oR.other W26 (Or.inl (Exa.neArv f17_E_oR f17_A_enR (hU 10 _ rfl)))
  have f26_A_ckR := f17_A_ckR.other W26 ne_ckR_enR
  have f26_E_kkR := f17_E_kkR.wr W26
  have f26_F_size_kkR := f17_F_size_kkR.other W26 (Or.inl (Exa.neArv f17_E_kkR f17_A_enR (hU 25 _ rfl)))
  have f26_F_starts_kkR := f17_F_starts_kkR.other W26 (Or.inl (Exa.neArv f17_E_kkR f17_A_enR (hU 25 _ rfl)))
  have f26_A_fiR := f17_A_fiR.other W26 ne_fiR_enR
  have f26_A_saR := v17.other W26 ne_saR_enR
  have f26_F_ends_kkR := f17_F_ends_kkR.other W26 (Or.inl (Exa.neArv f17_E_kkR f17_A_enR (hU 25 _ rfl)))
  have f26_F_items_kkR := f17_F_items_kkR.other W26 (Or.inl (Exa.neArv f17_E_kkR f17_A_enR (hU 25 _ rfl)))
  have f26_A_itR := f17_A_itR.other W26 (Ne.symm ne_enR_itR)
  have f26_E_iv_ := f17_E_iv_.wr W26
  have z26 : n0 ≤ h26.size := by rw [W26.size]; exact z17
  have K26 : Keep h0 h26 [saR, enR, itR, kkR, fiR] := K17.wr W26 (Or.inl (List.mem_of_getElem? (i := 1) rfl))
  have v26 : Arv Z h26 enR kenR .int 256 [(.int (p2 + (1 : Int32))), (.int 0), (.int 0)] (.int 0) := Arv.set Ar26 q26 S26 n26_ H26 G26 rfl W26 0 rfl (Nat.le_of_ble_eq_true rfl)
  have N26 := Fr.snoc X26 N17 g_enR
  have R27 := fun t k => R25 t (st26 t k)
  have R28 : own_R p e below T26 (mkF m 89 (fA12 iv_ kkR oR p2) [(.ref kkR)]) s₁ f0 := fun t k => R27 t (by
   refine XS.aload X26.here hx rfl (hb hby d20_87) rfl rfl ?_
   exact k)
  obtain ⟨T29, X29, e29, R30⟩ := own_gF R28 X26 hx hZ hown (Or.inr (hU 132 _ rfl)) Via.refl e26 f26_F_items_kkR rfl rfl (hb hby d20_89)
  have R31 : own_R p e below T29 (mkF m 95 (fA12 iv_ kkR oR p2) [(.ref iv_), (.int 0), (.ref itR)]) s₁ f0 := fun t k => R30 t (by
   refine XS.iload X29.here hx rfl (hb hby d20_92) rfl ?_
   refine XS.aloadN X29.here hx rfl (hb hby d20_94) rfl rfl ?_
   exact k)
  obtain ⟨cl32, Ar32, q32, S32, n32_, H32, G32⟩ := id f26_A_itR
  have hin32 : ¬ ((0 : Int32) < 0 ∨ cl32.slots.size ≤ ((0 : Int32)).toNatClampNeg) := inb_of S32 ⟨by decide, by decide⟩
  obtain ⟨T32, h32, X32, e32, W32, st32⟩ := stR X29 hx hZ e29 Ar32 (j := (0 : Int32)) hin32 rfl (Sto.ofV Ar32 q32 ovr_itR (Ins.of_exa f26_E_iv_ (hU 133 _ rfl))) (g := (mkF m 95 (fA12 iv_ kkR oR p2) [(.ref iv_), (.int 0), (.ref itR)])) rfl rfl (hb hby d20_95)
  have f32_E_oR := f26_E_oR.wr W32
  have f32_F_chunks_oR := f26_F_chunks_oR.other W32 (Or.inl (Exa.neArv f26_E_oR f26_A_itR (hU 10 _ rfl)))
  have f32_F_chunkCount_oR := f26_F_chunkCount_oR.other W32 (Or.inl (Exa.neArv f26_E_oR f26_A_itR (hU 10 _ rfl)))
  have f32_F_firsts_oR := f26_F_firsts_oR.other W32 (Or.inl (Exa.neArv f26_E_oR f26_A_itR (hU 10 _ rfl)))
  have f32_F_withItems_oR := f26_F_withItems_oR.other W32 (Or.inl (Exa.neArv f26_E_oR f26_A_itR (hU 10 _ rfl)))
  have f32_A_ckR := f26_A_ckR.other W32 ne_ckR_itR
  have f32_E_kkR := f26_E_kkR.wr W32
  have f32_F_size_kkR := f26_F_size_kkR.other W32 (Or.inl (Exa.neArv f26_E_kkR f26_A_itR (hU 25 _ rfl)))
  have f32_F_starts_kkR := f26_F_starts_kkR.other W32 (Or.inl (Exa.neArv f26_E_kkR f26_A_itR (hU 25 _ rfl)))
  have f32_A_fiR := f26_A_fiR.other W32 ne_fiR_itR
  have f32_A_saR := f26_A_saR.other W32 ne_saR_itR
  have f32_F_ends_kkR := f26_F_ends_kkR.other W32 (Or.inl (Exa.neArv f26_E_kkR f26_A_itR (hU 25 _ rfl)))
  have f32_F_items_kkR := f26_F_items_kkR.other W32 (Or.inl (Exa.neArv f26_E_kkR f26_A_itR (hU 25 _ rfl)))
  have f32_A_enR := v26.other W32 ne_enR_itR
  have f32_E_iv_ := f26_E_iv_.wr W32
  have z32 : n0 ≤ h32.size := by rw [W32.size]; exact z26
  have K32 : Keep h0 h32 [saR, enR, itR, kkR, fiR] := K26.wr W32 (Or.inl (List.mem_of_getElem? (i := 2) rfl))
  have v32 : Arv Z h32 itR kitR (.object "java/lang/Object") (256 : Int32) [(.ref iv_), .null, .null] .null := Arv.set Ar32 q32 S32 n32_ H32 G32 rfl W32 0 rfl (Nat.le_of_ble_eq_true rfl)
  have N32 := Fr.snoc X32 N26 g_itR
  have R33 := fun t k => R31 t (st32 t k)
  have R34 : own_R p e below T32 (mkF m 102 (fA12 iv_ kkR oR p2) [(.int 1), (.ref kkR)]) s₁ f0 := fun t k => R33 t (by
   refine XS.aload X32.here hx rfl (hb hby d20_96) rfl rfl ?_
   refine XS.iload X32.here hx rfl (hb hby d20_98) rfl ?_
   refine XS.iconst X32.here hx rfl (hb hby d20_100) ?_
   refine XS.iadd X32.here hx rfl (hb hby d20_101) rfl ?_
   exact k)
  obtain ⟨T35, h35, X35, e35, W35, st35⟩ := putF X32 hx hZ hown (Or.inr (hU 63 _ rfl)) Via.refl e32 f32_F_size_kkR f32_E_kkR (Or.inl (hU 64 _ rfl)) (hU 25 _ rfl) (ty := .int) (by decide) rfl rfl (g := (mkF m 102 (fA12 iv_ kkR oR p2) [(.int 1), (.ref kkR)])) rfl rfl (hb hby d20_102)
  have fw35 : Fld Z h35 kkR sN0 "size" "I" (.int 1) := f32_F_size_kkR.same W35
  have f35_E_oR := f32_E_oR.wr W35
  have f35_F_chunks_oR := f32_F_chunks_oR.other W35 (Or.inl (Exa.ne f32_E_oR f32_E_kkR (by decide)))
  have f35_F_chunkCount_oR := f32_F_chunkCount_oR.other W35 (Or.inl (Exa.ne f32_E_oR f32_E_kkR (by decide)))
  have f35_F_firsts_oR := f32_F_firsts_oR.other W35 (Or.inl (Exa.ne f32_E_oR f32_E_kkR (by decide)))
  have f35_F_withItems_oR := f32_F_withItems_oR.other W35 (Or.inl (Exa.ne f32_E_oR f32_E_kkR (by decide)))
  have f35_A_ckR := f32_A_ckR.other W35 (Ne.symm (Exa.neArv f32_E_kkR f32_A_ckR (hU 25 _ rfl)))
  have f35_E_kkR := f32_E_kkR.wr W35
  have f35_F_starts_kkR := f32_F_starts_kkR.other W35 (Or.inr (slot_ne (Or.inr (hU 32 _ rfl)) (Or.inl (hU 64 _ rfl)) (by decide) (t := (.array .int)) (t' := .int) (by decide) (by decide)))
  have f35_A_fiR := f32_A_fiR.other W35 (Ne.symm (Exa.neArv f32_E_kkR f32_A_fiR (hU 25 _ rfl)))
  have f35_A_saR := f32_A_saR.other W35 (Ne.symm (Exa.neArv f32_E_kkR f32_A_saR (hU 25 _ rfl)))
  have f35_F_ends_kkR := f32_F_ends_kkR.other W35 (Or.inr (slot_ne (Or.inr (hU 34 _ rfl)) (Or.inl (hU 64 _ rfl)) (by decide) (t := (.array .int)) (t' := .int) (by decide) (by decide)))
  have f35_F_items_kkR := f32_F_items_kkR.other W35 (Or.inr (slot_ne (Or.inr (hU 38 _ rfl)) (Or.inl (hU 64 _ rfl)) (by decide) (t := (.array (.object "java/lang/Object"))) (t' := .int) (by decide) (by decide)))
  have f35_A_enR := f32_A_enR.other W35 (Ne.symm (Exa.neArv f32_E_kkR f32_A_enR (hU 25 _ rfl)))
  have f35_A_itR := v32.other W35 (Ne.symm (Exa.neArv f32_E_kkR v32 (hU 25 _ rfl)))
  have f35_E_iv_ := f32_E_iv_.wr W35
  have z35 : n0 ≤ h35.size := by rw [W35.size]; exact z32
  have K35 : Keep h0 h35 [saR, enR, itR, kkR, fiR] := K32.wr W35 (Or.inl (List.mem_of_getElem? (i := 3) rfl))
  have N35 := Fr.snoc X35 N32 g_kkR
  have R36 := fun t k => R34 t (st35 t k)
  have R37 : own_R p e below T35 (mkF m 106 (fA12 iv_ kkR oR p2) [(.ref oR)]) s₁ f0 := fun t k => R36 t (by
   refine XS.aloadN X35.here hx rfl (hb hby d20_105) rfl rfl ?_
   exact k)
  obtain ⟨T38, X38, e38, R39⟩ := own_gF R37 X35 hx hZ hown (host := "") (Or.inl (hU 17 _ rfl)) Via.refl e35 f35_F_firsts_oR rfl rfl (hb hby d20_106)
  have R40 : own_R p e below T38 (mkF m 110 (fA12 iv_ kkR oR p2) [(.ref oR), (.ref fiR)]) s₁ f0 := fun t k => R39 t (by
   refine XS.aloadN X38.here hx rfl (hb hby d20_109) rfl rfl ?_
   exact k)
  obtain ⟨T41, X41, e41, R42⟩ := own_gF R40 X38 hx hZ hown (host := "") (Or.inl (hU 19 _ rfl)) Via.refl e38 f35_F_chunkCount_oR rfl rfl (hb hby d20_110)
  have R43 : own_R p e below T41 (mkF m 117 (fA12 iv_ kkR oR p2) [(.ref kkR), (.int 0), (.ref fiR)]) s₁ f0 := fun t k => R42 t (by
   refine XS.iconst X41.here hx rfl (hb hby d20_113) ?_
   refine XS.isub X41.here hx rfl (hb hby d20_114) rfl ?_
   refine XS.aload X41.here hx rfl (hb hby d20_115) rfl rfl ?_
   exact k)
  obtain ⟨T44, X44, e44, R45⟩ := own_gF R43 X41 hx hZ hown (Or.inr (hU 106 _ rfl)) Via.refl e41 f35_F_starts_kkR rfl rfl (hb hby d20_117)
  have R46 : own_R p e below T44 (mkF m 121 (fA12 iv_ kkR oR p2) [(.int 0), (.ref saR), (.int 0), (.ref fiR)]) s₁ f0 := fun t k => R45 t (by
   refine XS.iconst X44.here hx rfl (hb hby d20_120) ?_
   exact k)
  obtain ⟨cl47, Ar47, q47, S47, n47_, H47, G47⟩ := id f35_A_saR
  have hin47 : ¬ ((0 : Int32) < 0 ∨ cl47.slots.size ≤ ((0 : Int32)).toNatClampNeg) := inb_of S47 ⟨by decide, by decide⟩
  have hat47 : cl47.slots[((0 : Int32)).toNatClampNeg]? = some (.int p2) := Has.at H47 hin47 rfl
  have R48 : own_R p e below T44 (mkF m 122 (fA12 iv_ kkR oR p2) [(.int p2), (.int 0), (.ref fiR)]) s₁ f0 := fun t k => R46 t (X44.iaload hx (j := (0 : Int32)) (v := (.int p2)) (by rw [e44]; exact Ar47.1) (State.isArrayOf_alike hZ.alike Ar47.2.1) Ar47.2.2 hin47 hat47 (g := (mkF m 121 (fA12 iv_ kkR oR p2) [(.int 0), (.ref saR), (.int 0), (.ref fiR)])) rfl rfl (hb hby d20_121) _ k)
  obtain ⟨cl49, Ar49, q49, S49, n49_, H49, G49⟩ := id f35_A_fiR
  have hin49 : ¬ ((0 : Int32) < 0 ∨ cl49.slots.size ≤ ((0 : Int32)).toNatClampNeg) := inb_of S49 ⟨by decide, by decide⟩
  obtain ⟨T49, h49, X49, e49, W49, st49⟩ := stI X44 hx hZ e44 Ar49 (j := (0 : Int32)) hin49 (g := (mkF m 122 (fA12 iv_ kkR oR p2) [(.int p2), (.int 0), (.ref fiR)])) rfl rfl (hb hby d20_122)
  have f49_E_oR := f35_E_oR.wr W49
  have f49_F_chunks_oR := f35_F_chunks_oR.other W49 (Or.inl (Exa.neArv f35_E_oR f35_A_fiR (hU 10 _ rfl)))
  have f49_F_chunkCount_oR := f35_F_chunkCount_oR.other W49 (Or.inl (Exa.neArv f35_E_oR f35_A_fiR (hU 10 _ rfl)))
  have f49_F_firsts_oR := f35_F_firsts_oR.other W49 (Or.inl (Exa.neArv f35_E_oR f35_A_fiR (hU 10 _ rfl)))
  have f49_F_withItems_oR := f35_F_withItems_oR.other W49 (Or.inl (Exa.neArv f35_E_oR f35_A_fiR (hU 10 _ rfl)))
  have f49_A_ckR := f35_A_ckR.other W49 (Ne.symm ne_fiR_ckR)
  have f49_E_kkR := f35_E_kkR.wr W49
  have f49_F_size_kkR := fw35.other W49 (Or.inl (Exa.neArv f35_E_kkR f35_A_fiR (hU 25 _ rfl)))
  have f49_F_starts_kkR := f35_F_starts_kkR.other W49 (Or.inl (Exa.neArv f35_E_kkR f35_A_fiR (hU 25 _ rfl)))
  have f49_A_saR := f35_A_saR.other W49 (Ne.symm ne_fiR_saR)
  have f49_F_ends_kkR := f35_F_ends_kkR.other W49 (Or.inl (Exa.neArv f35_E_kkR f35_A_fiR (hU 25 _ rfl)))
  have f49_F_items_kkR := f35_F_items_kkR.other W49 (Or.inl (Exa.neArv f35_E_kkR f35_A_fiR (hU 25 _ rfl)))
  have f49_A_enR := f35_A_enR.other W49 (Ne.symm ne_fiR_enR)
  have f49_A_itR := f35_A_itR.other W49 (Ne.symm ne_fiR_itR)
  have f49_E_iv_ := f35_E_iv_.wr W49
  have z49 : n0 ≤ h49.size := by rw [W49.size]; exact z35
  have K49 : Keep h0 h49 [saR, enR, itR, kkR, fiR] := K35.wr W49 (Or.inl (List.mem_of_getElem? (i := 4) rfl))
  have v49 : Arv Z h49 fiR kfiR .int 1 [(.int p2)] (.int 0) := Arv.set Ar49 q49 S49 n49_ H49 G49 rfl W49 0 rfl (Nat.le_of_ble_eq_true rfl)
  have N49 := Fr.snoc X49 N35 g_fiR
  have R50 := fun t k => R48 t (st49 t k)
  have ei : own_ins p2 [] = [p2] := own_in0_0 p2
  have R51 : own_R p e below T49 (mkF m 124 (fA12 iv_ kkR oR p2) [(.int 1)]) s₁ f0 := fun t k => R50 t (by
   refine XS.iconst X49.here hx rfl (hb hby d20_123) ?_
   exact k)
  obtain ⟨fs, hr, hrun, hended, hW, hsame⟩ := X49.leave (v := some (.int 1)) (fun h => by rw [Bd.returns] at h; cases h)
  refine ⟨_, _, pre0 _ (R51 _ ?_), hrun, hended, _, _, rfl, ?_, ⟨_, rfl⟩, hW, hsame.mono (by decide) (by decide)⟩
  ·
   show own_S p e below T49 (mkF m 124 (fA12 iv_ kkR oR p2) [(.int 1)]) _
   exact retN X49 hx (t := .boolean) Bd.returns (by simp) (hb hby d20_124) hr
  ·
   show Q_rmApY Z oR p2 iv_ ckR kckR kkR fiR kfiR saR kstR enR kenR itR kitR [] h0 n0 _ T49.heap _
   rw [e49]
   exact ⟨rfl, N49, K49, (by rw [ei]; exact f49_F_size_kkR), f49_F_starts_kkR, (by rw [ei]; exact v49), (by rw [ei]; exact f49_A_saR), f49_F_ends_kkR, f49_F_items_kkR, (by rw [ei]; exact f49_A_enR), (by rw [ei]; exact f49_A_itR)⟩
 ·
  have lt_F_size_kkR : Fld Z h0 kkR sN0 "size" "I" (.int 1) := F_size_kkR
  have lt_A_fiR : Arv Z h0 fiR kfiR .int 1 [(.int xa)] (.int 0) := A_fiR
  have lt_A_saR : Arv Z h0 saR kstR .int 256 [(.int xa), (.int 0), (.int 0)] (.int 0) := A_saR
  have lt_A_enR : Arv Z h0 enR kenR .int 256 [(.int (xa + (1 : Int32))), (.int 0), (.int 0)] (.int 0) := A_enR
  have lt_A_itR : Arv Z h0 itR kitR (.object "java/lang/Object") (256 : Int32) [(.ref iv_), .null, .null] .null := A_itR
  have hap_ : xa < p2 := hap
  have R52 : own_R p e below s₁ (mkF m 1 (fA9 iv_ oR p2) [(.ref oR)]) s₁ f0 := fun t k => R0 t (by
   refine XS.aloadN X0.here hx rfl (hb hby d20_0) rfl rfl ?_
   exact k)
  obtain ⟨T53, X53, e53, R54⟩ := own_gF R52 X0 hx hZ hown (host := "") (Or.inl (hU 40 _ rfl)) Via.refl e0 F_chunks_oR rfl rfl (hb hby d20_1)
  have R55 : own_R p e below T53 (mkF m 5 (fA9 iv_ oR p2) [(.ref oR), (.ref ckR)]) s₁ f0 := fun t k => R54 t (by
   refine XS.aloadN X53.here hx rfl (hb hby d20_4) rfl rfl ?_
   exact k)
  obtain ⟨T56, X56, e56, R57⟩ := own_gF R55 X53 hx hZ hown (host := "") (Or.inl (hU 19 _ rfl)) Via.refl e53 F_chunkCount_oR rfl rfl (hb hby d20_5)
  have R58 : own_R p e below T56 (mkF m 10 (fA9 iv_ oR p2) [(.int 0), (.ref ckR)]) s₁ f0 := fun t k => R57 t (by
   refine XS.iconst X56.here hx rfl (hb hby d20_8) ?_
   refine XS.isub X56.here hx rfl (hb hby d20_9) rfl ?_
   exact k)
  obtain ⟨cl59, Ar59, q59, S59, n59_, H59, G59⟩ := id A_ckR
  have hin59 : ¬ ((0 : Int32) < 0 ∨ cl59.slots.size ≤ ((0 : Int32)).toNatClampNeg) := inb_of S59 ⟨by decide, by decide⟩
  have hat59 : cl59.slots[((0 : Int32)).toNatClampNeg]? = some (.ref kkR) := Has.at H59 hin59 rfl
  have R60 : own_R p e below T56 (mkF m 11 (fA9 iv_ oR p2) [(.ref kkR)]) s₁ f0 := fun t k => R58 t (X56.aaload hx (j := (0 : Int32)) (v := (.ref kkR)) (by rw [e56]; exact Ar59.1) (State.isArrayOf_alike hZ.alike Ar59.2.1) rfl Ar59.2.2 hin59 hat59 (g := (mkF m 10 (fA9 iv_ oR p2) [(.int 0), (.ref ckR)])) rfl rfl (hb hby d20_10) _ k)
  have R61 : own_R p e below T56 (mkF m 15 (fA32 iv_ kkR oR p2) [(.ref kkR)]) s₁ f0 := fun t k => R60 t (by
   refine XS.astore X56.here hx rfl (hb hby d20_11) rfl rfl (l' := (fA32 iv_ kkR oR p2)) rfl ?_
   refine XS.aload X56.here hx rfl (hb hby d20_13) rfl rfl ?_
   exact k)
  obtain ⟨T62, X62, e62, R63⟩ := own_gF R61 X56 hx hZ hown (Or.inr (hU 63 _ rfl)) Via.refl e56 lt_F_size_kkR rfl rfl (hb hby d20_15)
  have R64 : own_R p e below T62 (mkF m 28 (fA7 iv_ kkR oR p2) [(.ref kkR), (.int p2)]) s₁ f0 := fun t k => R63 t (by
   refine XS.istore X62.here hx rfl (hb hby d20_18) rfl (l' := (fA7 iv_ kkR oR p2)) rfl ?_
   refine XS.iload X62.here hx rfl (hb hby d20_20) rfl ?_
   refine XS.ifNo X62.here hx rfl (hb hby d20_22) rfl ((if0 _ _).trans (tlt (by decide : (0 : Int32) < (1 : Int32))).2.2.2) ?_
   refine XS.iloadN X62.here hx rfl (hb hby d20_25) rfl ?_
   refine XS.aload X62.here hx rfl (hb hby d20_26) rfl rfl ?_
   exact k)
  obtain ⟨T65, X65, e65, R66⟩ := own_gF R64 X62 hx hZ hown (Or.inr (hU 106 _ rfl)) Via.refl e62 F_starts_kkR rfl rfl (hb hby d20_28)
  have R67 : own_R p e below T65 (mkF m 35 (fA7 iv_ kkR oR p2) [(.int 0), (.ref saR), (.int p2)]) s₁ f0 := fun t k => R66 t (by
   refine XS.iload X65.here hx rfl (hb hby d20_31) rfl ?_
   refine XS.iconst X65.here hx rfl (hb hby d20_33) ?_
   refine XS.isub X65.here hx rfl (hb hby d20_34) rfl ?_
   exact k)
  obtain ⟨cl68, Ar68, q68, S68, n68_, H68, G68⟩ := id lt_A_saR
  have hin68 : ¬ ((0 : Int32) < 0 ∨ cl68.slots.size ≤ ((0 : Int32)).toNatClampNeg) := inb_of S68 ⟨by decide, by decide⟩
  have hat68 : cl68.slots[((0 : Int32)).toNatClampNeg]? = some (.int xa) := Has.at H68 hin68 rfl
  have R69 : own_R p e below T65 (mkF m 36 (fA7 iv_ kkR oR p2) [(.int xa), (.int p2)]) s₁ f0 := fun t k => R67 t (X65.iaload hx (j := (0 : Int32)) (v := (.int xa)) (by rw [e65]; exact Ar68.1) (State.isArrayOf_alike hZ.alike Ar68.2.1) Ar68.2.2 hin68 hat68 (g := (mkF m 35 (fA7 iv_ kkR oR p2) [(.int 0), (.ref saR), (.int p2)])) rfl rfl (hb hby d20_35) _ k)
  have R70 : own_R p e below T65 (mkF m 64 (fA7 iv_ kkR oR p2) [(.ref kkR)]) s₁ f0 := fun t k => R69 t (by
   refine XS.icmpYes X65.here hx rfl (pc0 := 36) (pc' := 41) rfl (hb hby d20_36) rfl (tlt hap_).2.2.1 (by decide) (by decide) ?_
   refine XS.iload X65.here hx rfl (hb hby d20_41) rfl ?_
   refine XS.sipush X65.here hx rfl (hb hby d20_43) ?_
   refine XS.icmpYes X65.here hx rfl (pc0 := 46) (pc' := 62) rfl (hb hby d20_46) rfl (feq (by decide : ¬ ((1 : Int32) = (256 : Int32)))).2 (by decide) (by decide) ?_
   refine XS.aload X65.here hx rfl (hb hby d20_62) rfl rfl ?_
   exact k)
  obtain ⟨T71, X71, e71, R72⟩ := own_gF R70 X65 hx hZ hown (Or.inr (hU 106 _ rfl)) Via.refl e65 F_starts_kkR rfl rfl (hb hby d20_64)
  have R73 : own_R p e below T71 (mkF m 70 (fA7 iv_ kkR oR p2) [(.int p2), (.int 1), (.ref saR)]) s₁ f0 := fun t k => R72 t (by
   refine XS.iload X71.here hx rfl (hb hby d20_67) rfl ?_
   refine XS.iloadN X71.here hx rfl (hb hby d20_69) rfl ?_
   exact k)
  obtain ⟨cl74, Ar74, q74, S74, n74_, H74, G74⟩ := id lt_A_saR
  have hin74 : ¬ ((1 : Int32) < 0 ∨ cl74.slots.size ≤ ((1 : Int32)).toNatClampNeg) := inb_of S74 ⟨by decide, by decide⟩
  obtain ⟨T74, h74, X74, e74, W74, st74⟩ := stI X71 hx hZ e71 Ar74 (j := (1 : Int32)) hin74 (g := (mkF m 70 (fA7 iv_ kkR oR p2) [(.int p2), (.int 1), (.ref saR)])) rfl rfl (hb hby d20_70)
  have f74_E_oR := E_oR.wr W74
  have f74_F_chunks_oR := F_chunks_oR.other W74 (Or.inl (Exa.neArv E_oR lt_A_saR (hU 10 _ rfl)))
  have f74_F_chunkCount_oR := F_chunkCount_oR.other W74 (Or.inl (Exa.neArv E_oR lt_A_saR (hU 10 _ rfl)))
  have f74_F_firsts_oR := F_firsts_oR.other W74 (Or.inl (Exa.neArv E_oR lt_A_saR (hU 10 _ rfl)))
  have f74_F_withItems_oR := F_withItems_oR.other W74 (Or.inl (Exa.neArv E_oR lt_A_saR (hU 10 _ rfl)))
  have f74_A_ckR := A_ckR.other W74 ne_ckR_saR
  have f74_E_kkR := E_kkR.wr W74
  have f74_F_size_kkR := lt_F_size_kkR.other W74 (Or.inl (Exa.neArv E_kkR lt_A_saR (hU 25 _ rfl)))
  have f74_F_starts_kkR := F_starts_kkR.other W74 (Or.inl (Exa.neArv E_kkR lt_A_saR (hU 25 _ rfl)))
  have f74_A_fiR := lt_A_fiR.other W74 ne_fiR_saR
  have f74_F_ends_kkR := F_ends_kkR.other W74 (Or.inl (Exa.neArv E_kkR lt_A_saR (hU 25 _ rfl)))
  have f74_F_items_kkR := F_items_kkR.other W74 (Or.inl (Exa.neArv E_kkR lt_A_saR (hU 25 _ rfl)))
  have f74_A_enR := lt_A_enR.other W74 (Ne.symm ne_saR_enR)
  have f74_A_itR := lt_A_itR.other W74 (Ne.symm ne_saR_itR)
  have f74_E_iv_ := E_iv_.wr W74
  have z74 : n0 ≤ h74.size := by rw [W74.size]; exact Z0
  have K74 : Keep h0 h74 [saR, enR, itR, kkR, fiR] := (Keep.refl h0 [saR, enR, itR, kkR, fiR]).wr W74 (Or.inl (List.mem_of_getElem? (i := 0) rfl))
  have v74 : Arv Z h74 saR kstR .int 256 [(.int xa), (.int p2), (.int 0)] (.int 0) := Arv.set Ar74 q74 S74 n74_ H74 G74 rfl W74 1 rfl (Nat.le_of_ble_eq_true rfl)
  have N74 := Fr.snoc X74 N0 g_saR
  have R75 := fun t k => R73 t (st74 t k)
  have R76 : own_R p e below T74 (mkF m 72 (fA7 iv_ kkR oR p2) [(.ref oR)]) s₁ f0 := fun t k => R75 t (by
   refine XS.aloadN X74.here hx rfl (hb hby d20_71) rfl rfl ?_
   exact k)
  obtain ⟨T77, X77, e77, R78⟩ := own_gF R76 X74 hx hZ hown (host := "") (Or.inl (hU 21 _ rfl)) Via.refl e74 f74_F_withItems_oR rfl rfl (hb hby d20_72)
  have R79 : own_R p e below T77 (mkF m 80 (fA7 iv_ kkR oR p2) [(.ref kkR)]) s₁ f0 := fun t k => R78 t (by
   refine XS.ifNo X77.here hx rfl (hb hby d20_75) rfl ((if0 _ _).trans (feq (by decide : ¬ ((1 : Int32) = (0 : Int32)))).1) ?_
   refine XS.aload X77.here hx rfl (hb hby d20_78) rfl rfl ?_
   exact k)
  obtain ⟨T80, X80, e80, R81⟩ := own_gF R79 X77 hx hZ hown (Or.inr (hU 131 _ rfl)) Via.refl e77 f74_F_ends_kkR rfl rfl (hb hby d20_80)
  have R82 : own_R p e below T80 (mkF m 86 (fA7 iv_ kkR oR p2) [(.int (p2 + (1 : Int32))), (.int 1), (.ref enR)]) s₁ f0 := fun t k => R81 t (by
   refine XS.iload X80.here hx rfl (hb hby d20_83) rfl ?_
   refine XS.iloadN X80.here hx rfl (hb hby d20_85) rfl ?_
   exact k)
  obtain ⟨cl83, Ar83, q83, S83, n83_, H83, G83⟩ := id f74_A_enR
  have hin83 : ¬ ((1 : Int32) < 0 ∨ cl83.slots.size ≤ ((1 : Int32)).toNatClampNeg) := inb_of S83 ⟨by decide, by decide⟩
  obtain ⟨T83, h83, X83, e83, W83, st83⟩ := stI X80 hx hZ e80 Ar83 (j := (1 : Int32)) hin83 (g := (mkF m 86 (fA7 iv_ kkR oR p2) [(.int (p2 + (1 : Int32))), (.int 1), (.ref enR)])) rfl rfl (hb hby d20_86)
  have f83_E_oR := f74_E_oR.wr W83
  have f83_F_chunks_oR := f74_F_chunks_oR.other W83 (Or.inl (Exa.neArv f74_E_oR f74_A_enR (hU 10 _ rfl)))
  have f83_F_chunkCount_oR := f74_F_chunkCount_oR.other W83 (Or.inl (Exa.neArv f74_E_oR f74_A_enR (hU 10 _ rfl)))
  have f83_F_firsts_oR := f74_F_firsts_oR.other W83 (Or.inl (Exa.neArv f74_E_oR f74_A_enR (hU 10 _ rfl)))
  have f83_F_withItems_oR := f74_F_withItems_oR.other W83 (Or.inl (Exa.neArv f74_E_oR f74_A_enR (hU 10 _ rfl)))
  have f83_A_ckR := f74_A_ckR.other W83 ne_ckR_enR
  have f83_E_kkR := f74_E_kkR.wr W83
  have f83_F_size_kkR := f74_F_size_kkR.other W83 (Or.inl (Exa.neArv f74_E_kkR f74_A_enR (hU 25 _ rfl)))
  have f83_F_starts_kkR := f74_F_starts_kkR.other W83 (Or.inl (Exa.neArv f74_E_kkR f74_A_enR (hU 25 _ rfl)))
  have f83_A_fiR := f74_A_fiR.other W83 ne_fiR_enR
  have f83_A_saR := v74.other W83 ne_saR_enR
  have f83_F_ends_kkR := f74_F_ends_kkR.other W83 (Or.inl (Exa.neArv f74_E_kkR f74_A_enR (hU 25 _ rfl)))
  have f83_F_items_kkR := f74_F_items_kkR.other W83 (Or.inl (Exa.neArv f74_E_kkR f74_A_enR (hU 25 _ rfl)))
  have f83_A_itR := f74_A_itR.other W83 (Ne.symm ne_enR_itR)
  have f83_E_iv_ := f74_E_iv_.wr W83
  have z83 : n0 ≤ h83.size := by rw [W83.size]; exact z74
  have K83 : Keep h0 h83 [saR, enR, itR, kkR, fiR] := K74.wr W83 (Or.inl (List.mem_of_getElem? (i := 1) rfl))
  have v83 : Arv Z h83 enR kenR .int 256 [(.int (xa + (1 : Int32))), (.int (p2 + (1 : Int32))), (.int 0)] (.int 0) := Arv.set Ar83 q83 S83 n83_ H83 G83 rfl W83 1 rfl (Nat.le_of_ble_eq_true rfl)
  have N83 := Fr.snoc X83 N74 g_enR
  have R84 := fun t k => R82 t (st83 t k)
  have R85 : own_R p e below T83 (mkF m 89 (fA7 iv_ kkR oR p2) [(.ref kkR)]) s₁ f0 := fun t k => R84 t (by
   refine XS.aload X83.here hx rfl (hb hby d20_87) rfl rfl ?_
   exact k)
  obtain ⟨T86, X86, e86, R87⟩ := own_gF R85 X83 hx hZ hown (Or.inr (hU 132 _ rfl)) Via.refl e83 f83_F_items_kkR rfl rfl (hb hby d20_89)
  have R88 : own_R p e below T86 (mkF m 95 (fA7 iv_ kkR oR p2) [(.ref iv_), (.int 1), (.ref itR)]) s₁ f0 := fun t k => R87 t (by
   refine XS.iload X86.here hx rfl (hb hby d20_92) rfl ?_
   refine XS.aloadN X86.here hx rfl (hb hby d20_94) rfl rfl ?_
   exact k)
  obtain ⟨cl89, Ar89, q89, S89, n89_, H89, G89⟩ := id f83_A_itR
  have hin89 : ¬ ((1 : Int32) < 0 ∨ cl89.slots.size ≤ ((1 : Int32)).toNatClampNeg) := inb_of S89 ⟨by decide, by decide⟩
  obtain ⟨T89, h89, X89, e89, W89, st89⟩ := stR X86 hx hZ e86 Ar89 (j := (1 : Int32)) hin89 rfl (Sto.ofV Ar89 q89 ovr_itR (Ins.of_exa f83_E_iv_ (hU 133 _ rfl))) (g := (mkF m 95 (fA7 iv_ kkR oR p2) [(.ref iv_), (.int 1), (.ref itR)])) rfl rfl (hb hby d20_95)
  have f89_E_oR := f83_E_oR.wr W89
  have f89_F_chunks_oR := f83_F_chunks_oR.other W89 (Or.inl (Exa.neArv f83_E_oR f83_A_itR (hU 10 _ rfl)))
  have f89_F_chunkCount_oR := f83_F_chunkCount_oR.other W89 (Or.inl (Exa.neArv f83_E_oR f83_A_itR (hU 10 _ rfl)))
  have f89_F_firsts_oR := f83_F_firsts_oR.other W89 (Or.inl (Exa.neArv f83_E_oR f83_A_itR (hU 10 _ rfl)))
  have f89_F_withItems_oR := f83_F_withItems_oR.other W89 (Or.inl (Exa.neArv f83_E_oR f83_A_itR (hU 10 _ rfl)))
  have f89_A_ckR := f83_A_ckR.other W89 ne_ckR_itR
  have f89_E_kkR := f83_E_kkR.wr W89
  have f89_F_size_kkR := f83_F_size_kkR.other W89 (Or.inl (Exa.neArv f83_E_kkR f83_A_itR (hU 25 _ rfl)))
  have f89_F_starts_kkR := f83_F_starts_kkR.other W89 (Or.inl (Exa.neArv f83_E_kkR f83_A_itR (hU 25 _ rfl)))
  have f89_A_fiR := f83_A_fiR.other W89 ne_fiR_itR
  have f89_A_saR := f83_A_saR.other W89 ne_saR_itR
  have f89_F_ends_kkR := f83_F_ends_kkR.other W89 (Or.inl (Exa.neArv f83_E_kkR f83_A_itR (hU 25 _ rfl)))
  have f89_F_items_kkR := f83_F_items_kkR.other W89 (Or.inl (Exa.neArv f83_E_kkR f83_A_itR (hU 25 _ rfl)))
  have f89_A_enR := v83.other W89 ne_enR_itR
  have f89_E_iv_ := f83_E_iv_.wr W89
  have z89 : n0 ≤ h89.size := by rw [W89.size]; exact z83
  have K89 : Keep h0 h89 [saR, enR, itR, kkR, fiR] := K83.wr W89 (Or.inl (List.mem_of_getElem? (i := 2) rfl))
  have v89 : Arv Z h89 itR kitR (.object "java/lang/Object") (256 : Int32) [(.ref iv_), (.ref iv_), .null] .null := Arv.set Ar89 q89 S89 n89_ H89 G89 rfl W89 1 rfl (Nat.le_of_ble_eq_true rfl)
  have N89 := Fr.snoc X89 N83 g_itR
  have R90 := fun t k => R88 t (st89 t k)
  have R91 : own_R p e below T89 (mkF m 102 (fA7 iv_ kkR oR p2) [(.int 2), (.ref kkR)]) s₁ f0 := fun t k => R90 t (by
   refine XS.aload X89.here hx rfl (hb hby d20_96) rfl rfl ?_
   refine XS.iload X89.here hx rfl (hb hby d20_98) rfl ?_
   refine XS.iconst X89.here hx rfl (hb hby d20_100) ?_
   refine XS.iadd X89.here hx rfl (hb hby d20_101) rfl ?_
   exact k)
  obtain ⟨T92, h92, X92, e92, W92, st92⟩ := putF X89 hx hZ hown (Or.inr (hU 63 _ rfl)) Via.refl e89 f89_F_size_kkR f89_E_kkR (Or.inl (hU 64 _ rfl)) (hU 25 _ rfl) (ty := .int) (by decide) rfl rfl (g := (mkF m 102 (fA7 iv_ kkR oR p2) [(.int 2), (.ref kkR)])) rfl rfl (hb hby d20_102)
  have fw92 : Fld Z h92 kkR sN0 "size" "I" (.int 2) := f89_F_size_kkR.same W92
  have f92_E_oR := f89_E_oR.wr W92
  have f92_F_chunks_oR := f89_F_chunks_oR.other W92 (Or.inl (Exa.ne f89_E_oR f89_E_kkR (by decide)))
  have f92_F_chunkCount_oR := f89_F_chunkCount_oR.other W92 (Or.inl (Exa.ne f89_E_oR f89_E_kkR (by decide)))
  have f92_F_firsts_oR := f89_F_firsts_oR.other W92 (Or.inl (Exa.ne f89_E_oR f89_E_kkR (by decide)))
  have f92_F_withItems_oR := f89_F_withItems_oR.other W92 (Or.inl (Exa.ne f89_E_oR f89_E_kkR (by decide)))
  have f92_A_ckR := f89_A_ckR.other W92 (Ne.symm (Exa.neArv f89_E_kkR f89_A_ckR (hU 25 _ rfl)))
  have f92_E_kkR := f89_E_kkR.wr W92
  have f92_F_starts_kkR := f89_F_starts_kkR.other W92 (Or.inr (slot_ne (Or.inr (hU 32 _ rfl)) (Or.inl (hU 64 _ rfl)) (by decide) (t := (.array .int)) (t' := .int) (by decide) (by decide)))
  have f92_A_fiR := f89_A_fiR.other W92 (Ne.symm (Exa.neArv f89_E_kkR f89_A_fiR (hU 25 _ rfl)))
  have f92_A_saR := f89_A_saR.other W92 (Ne.symm (Exa.neArv f89_E_kkR f89_A_saR (hU 25 _ rfl)))
  have f92_F_ends_kkR := f89_F_ends_kkR.other W92 (Or.inr (slot_ne (Or.inr (hU 34 _ rfl)) (Or.inl (hU 64 _ rfl)) (by decide) (t := (.array .int)) (t' := .int) (by decide) (by decide)))
  have f92_F_items_kkR := f89_F_items_kkR.other W92 (Or.inr (slot_ne (Or.inr (hU 38 _ rfl)) (Or.inl (hU 64 _ rfl)) (by decide) (t := (.array (.object "java/lang/Object"))) (t' := .int) (by decide) (by decide)))
  have f92_A_enR := f89_A_enR.other W92 (Ne.symm (Exa.neArv f89_E_kkR f89_A_enR (hU 25 _ rfl)))
  have f92_A_itR := v89.other W92 (Ne.symm (Exa.neArv f89_E_kkR v89 (hU 25 _ rfl)))
  have f92_E_iv_ := f89_E_iv_.wr W92
  have z92 : n0 ≤ h92.size := by rw [W92.size]; exact z89
  have K92 : Keep h0 h92 [saR, enR, itR, kkR, fiR] := K89.wr W92 (Or.inl (List.mem_of_getElem? (i := 3) rfl))
  have N92 := Fr.snoc X92 N89 g_kkR
  have R93 := fun t k => R91 t (st92 t k)
  have R94 : own_R p e below T92 (mkF m 106 (fA7 iv_ kkR oR p2) [(.ref oR)]) s₁ f0 := fun t k => R93 t (by
   refine XS.aloadN X92.here hx rfl (hb hby d20_105) rfl rfl ?_
   exact k)
  obtain ⟨T95, X95, e95, R96⟩ := own_gF R94 X92 hx hZ hown (host := "") (Or.inl (hU 17 _ rfl)) Via.refl e92 f92_F_firsts_oR rfl rfl (hb hby d20_106)
  have R97 : own_R p e below T95 (mkF m 110 (fA7 iv_ kkR oR p2) [(.ref oR), (.ref fiR)]) s₁ f0 := fun t k => R96 t (by
   refine XS.aloadN X95.here hx rfl (hb hby d20_109) rfl rfl ?_
   exact k)
  obtain ⟨T98, X98, e98, R99⟩ := own_gF R97 X95 hx hZ hown (host := "") (Or.inl (hU 19 _ rfl)) Via.refl e95 f92_F_chunkCount_oR rfl rfl (hb hby d20_110)
  have R100 : own_R p e below T98 (mkF m 117 (fA7 iv_ kkR oR p2) [(.ref kkR), (.int 0), (.ref fiR)]) s₁ f0 := fun t k => R99 t (by
   refine XS.iconst X98.here hx rfl (hb hby d20_113) ?_
   refine XS.isub X98.here hx rfl (hb hby d20_114) rfl ?_
   refine XS.aload X98.here hx rfl (hb hby d20_115) rfl rfl ?_
   exact k)
  obtain ⟨T101, X101, e101, R102⟩ := own_gF R100 X98 hx hZ hown (Or.inr (hU 106 _ rfl)) Via.refl e98 f92_F_starts_kkR rfl rfl (hb hby d20_117)
  have R103 : own_R p e below T101 (mkF m 121 (fA7 iv_ kkR oR p2) [(.int 0), (.ref saR), (.int 0), (.ref fiR)]) s₁ f0 := fun t k => R102 t (by
   refine XS.iconst X101.here hx rfl (hb hby d20_120) ?_
   exact k)
  obtain ⟨cl104, Ar104, q104, S104, n104_, H104, G104⟩ := id f92_A_saR
  have hin104 : ¬ ((0 : Int32) < 0 ∨ cl104.slots.size ≤ ((0 : Int32)).toNatClampNeg) := inb_of S104 ⟨by decide, by decide⟩
  have hat104 : cl104.slots[((0 : Int32)).toNatClampNeg]? = some (.int xa) := Has.at H104 hin104 rfl
  have R105 : own_R p e below T101 (mkF m 122 (fA7 iv_ kkR oR p2) [(.int xa), (.int 0), (.ref fiR)]) s₁ f0 := fun t k => R103 t (X101.iaload hx (j := (0 : Int32)) (v := (.int xa)) (by rw [e101]; exact Ar104.1) (State.isArrayOf_alike hZ.alike Ar104.2.1) Ar104.2.2 hin104 hat104 (g := (mkF m 121 (fA7 iv_ kkR oR p2) [(.int 0), (.ref saR), (.int 0), (.ref fiR)])) rfl rfl (hb hby d20_121) _ k)
  obtain ⟨cl106, Ar106, q106, S106, n106_, H106, G106⟩ := id f92_A_fiR
  have hin106 : ¬ ((0 : Int32) < 0 ∨ cl106.slots.size ≤ ((0 : Int32)).toNatClampNeg) := inb_of S106 ⟨by decide, by decide⟩
  obtain ⟨T106, h106, X106, e106, W106, st106⟩ := stI X101 hx hZ e101 Ar106 (j := (0 : Int32)) hin106 (g := (mkF m 122 (fA7 iv_ kkR oR p2) [(.int xa), (.int 0), (.ref fiR)])) rfl rfl (hb hby d20_122)
  have f106_E_oR := f92_E_oR.wr W106
  have f106_F_chunks_oR := f92_F_chunks_oR.other W106 (Or.inl (Exa.neArv f92_E_oR f92_A_fiR (hU 10 _ rfl)))
  have f106_F_chunkCount_oR := f92_F_chunkCount_oR.other W106 (Or.inl (Exa.neArv f92_E_oR f92_A_fiR (hU 10 _ rfl)))
  have f106_F_firsts_oR := f92_F_firsts_oR.other W106 (Or.inl (Exa.neArv f92_E_oR f92_A_fiR (hU 10 _ rfl)))
  have f106_F_withItems_oR := f92_F_withItems_oR.other W106 (Or.inl (Exa.neArv f92_E_oR f92_A_fiR (hU 10 _ rfl)))
  have f106_A_ckR := f92_A_ckR.other W106 (Ne.symm ne_fiR_ckR)
  have f106_E_kkR := f92_E_kkR.wr W106
  have f106_F_size_kkR := fw92.other W106 (Or.inl (Exa.neArv f92_E_kkR f92_A_fiR (hU 25 _ rfl)))
  have f106_F_starts_kkR := f92_F_starts_kkR.other W106 (Or.inl (Exa.neArv f92_E_kkR f92_A_fiR (hU 25 _ rfl)))
  have f106_A_saR := f92_A_saR.other W106 (Ne.symm ne_fiR_saR)
  have f106_F_ends_kkR := f92_F_ends_kkR.other W106 (Or.inl (Exa.neArv f92_E_kkR f92_A_fiR (hU 25 _ rfl)))
  have f106_F_items_kkR := f92_F_items_kkR.other W106 (Or.inl (Exa.neArv f92_E_kkR f92_A_fiR (hU 25 _ rfl)))
  have f106_A_enR := f92_A_enR.other W106 (Ne.symm ne_fiR_enR)
  have f106_A_itR := f92_A_itR.other W106 (Ne.symm ne_fiR_itR)
  have f106_E_iv_ := f92_E_iv_.wr W106
  have z106 : n0 ≤ h106.size := by rw [W106.size]; exact z92
  have K106 : Keep h0 h106 [saR, enR, itR, kkR, fiR] := K92.wr W106 (Or.inl (List.mem_of_getElem? (i := 4) rfl))
  have v106 : Arv Z h106 fiR kfiR .int 1 [(.int xa)] (.int 0) := Arv.set Ar106 q106 S106 n106_ H106 G106 rfl W106 0 rfl (Nat.le_of_ble_eq_true rfl)
  have N106 := Fr.snoc X106 N92 g_fiR
  have R107 := fun t k => R105 t (st106 t k)
  have ei : own_ins p2 [xa] = [xa, p2] := own_in1_1 hap_
  have R108 : own_R p e below T106 (mkF m 124 (fA7 iv_ kkR oR p2) [(.int 1)]) s₁ f0 := fun t k => R107 t (by
   refine XS.iconst X106.here hx rfl (hb hby d20_123) ?_
   exact k)
  obtain ⟨fs, hr, hrun, hended, hW, hsame⟩ := X106.leave (v := some (.int 1)) (fun h => by rw [Bd.returns] at h; cases h)
  refine ⟨_, _, pre0 _ (R108 _ ?_), hrun, hended, _, _, rfl, ?_, ⟨_, rfl⟩, hW, hsame.mono (by decide) (by decide)⟩
  ·
   show own_S p e below T106 (mkF m 124 (fA7 iv_ kkR oR p2) [(.int 1)]) _
   exact retN X106 hx (t := .boolean) Bd.returns (by simp) (hb hby d20_124) hr
  ·
   show Q_rmApY Z oR p2 iv_ ckR kckR kkR fiR kfiR saR kstR enR kenR itR kitR [xa] h0 n0 _ T106.heap _
   rw [e106]
   exact ⟨rfl, N106, K106, (by rw [ei]; exact f106_F_size_kkR), f106_F_starts_kkR, (by rw [ei]; exact v106), (by rw [ei]; exact f106_A_saR), f106_F_ends_kkR, f106_F_items_kkR, (by rw [ei]; exact f106_A_enR), (by rw [ei]; exact f106_A_itR)⟩
 ·
  have lt_F_size_kkR : Fld Z h0 kkR sN0 "size" "I" (.int 2) := F_size_kkR
  have lt_A_fiR : Arv Z h0 fiR kfiR .int 1 [(.int xa)] (.int 0) := A_fiR
  have lt_A_saR : Arv Z h0 saR kstR .int 256 [(.int xa), (.int xb), (.int 0)] (.int 0) := A_saR
  have lt_A_enR : Arv Z h0 enR kenR .int 256 [(.int (xa + (1 : Int32))), (.int (xb + (1 : Int32))), (.int 0)] (.int 0) := A_enR
  have lt_A_itR : Arv Z h0 itR kitR (.object "java/lang/Object") (256 : Int32) [(.ref iv_), (.ref iv_), .null] .null := A_itR
  have hap_ : xb < p2 := hap
  have R109 : own_R p e below s₁ (mkF m 1 (fA9 iv_ oR p2) [(.ref oR)]) s₁ f0 := fun t k => R0 t (by
   refine XS.aloadN X0.here hx rfl (hb hby d20_0) rfl rfl ?_
   exact k)
  obtain ⟨T110, X110, e110, R111⟩ := own_gF R109 X0 hx hZ hown (host := "") (Or.inl (hU 40 _ rfl)) Via.refl e0 F_chunks_oR rfl rfl (hb hby d20_1)
  have R112 : own_R p e below T110 (mkF m 5 (fA9 iv_ oR p2) [(.ref oR), (.ref ckR)]) s₁ f0 := fun t k => R111 t (by
   refine XS.aloadN X110.here hx rfl (hb hby d20_4) rfl rfl ?_
   exact k)
  obtain ⟨T113, X113, e113, R114⟩ := own_gF R112 X110 hx hZ hown (host := "") (Or.inl (hU 19 _ rfl)) Via.refl e110 F_chunkCount_oR rfl rfl (hb hby d20_5)
  have R115 : own_R p e below T113 (mkF m 10 (fA9 iv_ oR p2) [(.int 0), (.ref ckR)]) s₁ f0 := fun t k => R114 t (by
   refine XS.iconst X113.here hx rfl (hb hby d20_8) ?_
   refine XS.isub X113.here hx rfl (hb hby d20_9) rfl ?_
   exact k)
  obtain ⟨cl116, Ar116, q116, S116, n116_, H116, G116⟩ := id A_ckR
  have hin116 : ¬ ((0 : Int32) < 0 ∨ cl116.slots.size ≤ ((0 : Int32)).toNatClampNeg) := inb_of S116 ⟨by decide, by decide⟩
  have hat116 : cl116.slots[((0 : Int32)).toNatClampNeg]? = some (.ref kkR) := Has.at H116 hin116 rfl
  have R117 : own_R p e below T113 (mkF m 11 (fA9 iv_ oR p2) [(.ref kkR)]) s₁ f0 := fun t k => R115 t (X113.aaload hx (j := (0 : Int32)) (v := (.ref kkR)) (by rw [e113]; exact Ar116.1) (State.isArrayOf_alike hZ.alike Ar116.2.1) rfl Ar116.2.2 hin116 hat116 (g := (mkF m 10 (fA9 iv_ oR p2) [(.int 0), (.ref ckR)])) rfl rfl (hb hby d20_10) _ k)
  have R118 : own_R p e below T113 (mkF m 15 (fA32 iv_ kkR oR p2) [(.ref kkR)]) s₁ f0 := fun t k => R117 t (by
   refine XS.astore X113.here hx rfl (hb hby d20_11) rfl rfl (l' := (fA32 iv_ kkR oR p2)) rfl ?_
   refine XS.aload X113.here hx rfl (hb hby d20_13) rfl rfl ?_
   exact k)
  obtain ⟨T119, X119, e119, R120⟩ := own_gF R118 X113 hx hZ hown (Or.inr (hU 63 _ rfl)) Via.refl e113 lt_F_size_kkR rfl rfl (hb hby d20_15)
  have R121 : own_R p e below T119 (mkF m 28 (fA8 iv_ kkR oR p2) [(.ref kkR), (.int p2)]) s₁ f0 := fun t k => R120 t (by
   refine XS.istore X119.here hx rfl (hb hby d20_18) rfl (l' := (fA8 iv_ kkR oR p2)) rfl ?_
   refine XS.iload X119.here hx rfl (hb hby d20_20) rfl ?_
   refine XS.ifNo X119.here hx rfl (hb hby d20_22) rfl ((if0 _ _).trans (tlt (by decide : (0 : Int32) < (2 : Int32))).2.2.2) ?_
   refine XS.iloadN X119.here hx rfl (hb hby d20_25) rfl ?_
   refine XS.aload X119.here hx rfl (hb hby d20_26) rfl rfl ?_
   exact k)
  obtain ⟨T122, X122, e122, R123⟩ := own_gF R121 X119 hx hZ hown (Or.inr (hU 106 _ rfl)) Via.refl e119 F_starts_kkR rfl rfl (hb hby d20_28)
  have R124 : own_R p e below T122 (mkF m 35 (fA8 iv_ kkR oR p2) [(.int 1), (.ref saR), (.int p2)]) s₁ f0 := fun t k => R123 t (by
   refine XS.iload X122.here hx rfl (hb hby d20_31) rfl ?_
   refine XS.iconst X122.here hx rfl (hb hby d20_33) ?_
   refine XS.isub X122.here hx rfl (hb hby d20_34) rfl ?_
   exact k)
  obtain ⟨cl125, Ar125, q125, S125, n125_, H125, G125⟩ := id lt_A_saR
  have hin125 : ¬ ((1 : Int32) < 0 ∨ cl125.slots.size ≤ ((1 : Int32)).toNatClampNeg) := inb_of S125 ⟨by decide, by decide⟩
  have hat125 : cl125.slots[((1 : Int32)).toNatClampNeg]? = some (.int xb) := Has.at H125 hin125 rfl
  have R126 : own_R p e below T122 (mkF m 36 (fA8 iv_ kkR oR p2) [(.int xb), (.int p2)]) s₁ f0 := fun t k => R124 t (X122.iaload hx (j := (1 : Int32)) (v := (.int xb)) (by rw [e122]; exact Ar125.1) (State.isArrayOf_alike hZ.alike Ar125.2.1) Ar125.2.2 hin125 hat125 (g := (mkF m 35 (fA8 iv_ kkR oR p2) [(.int 1), (.ref saR), (.int p2)])) rfl rfl (hb hby d20_35) _ k)
  have R127 : own_R p e below T122 (mkF m 64 (fA8 iv_ kkR oR p2) [(.ref kkR)]) s₁ f0 := fun t k => R126 t (by
   refine XS.icmpYes X122.here hx rfl (pc0 := 36) (pc' := 41) rfl (hb hby d20_36) rfl (tlt hap_).2.2.1 (by decide) (by decide) ?_
   refine XS.iload X122.here hx rfl (hb hby d20_41) rfl ?_
   refine XS.sipush X122.here hx rfl (hb hby d20_43) ?_
   refine XS.icmpYes X122.here hx rfl (pc0 := 46) (pc' := 62) rfl (hb hby d20_46) rfl (feq (by decide : ¬ ((2 : Int32) = (256 : Int32)))).2 (by decide) (by decide) ?_
   refine XS.aload X122.here hx rfl (hb hby d20_62) rfl rfl ?_
   exact k)
  obtain ⟨T128, X128, e128, R129⟩ := own_gF R127 X122 hx hZ hown (Or.inr (hU 106 _ rfl)) Via.refl e122 F_starts_kkR rfl rfl (hb hby d20_64)
  have R130 : own_R p e below T128 (mkF m 70 (fA8 iv_ kkR oR p2) [(.int p2), (.int 2), (.ref saR)]) s₁ f0 := fun t k => R129 t (by
   refine XS.iload X128.here hx rfl (hb hby d20_67) rfl ?_
   refine XS.iloadN X128.here hx rfl (hb hby d20_69) rfl ?_
   exact k)
  obtain ⟨cl131, Ar131, q131, S131, n131_, H131, G131⟩ := id lt_A_saR
  have hin131 : ¬ ((2 : Int32) < 0 ∨ cl131.slots.size ≤ ((2 : Int32)).toNatClampNeg) := inb_of S131 ⟨by decide, by decide⟩
  obtain ⟨T131, h131, X131, e131, W131, st131⟩ := stI X128 hx hZ e128 Ar131 (j := (2 : Int32)) hin131 (g := (mkF m 70 (fA8 iv_ kkR oR p2) [(.int p2), (.int 2), (.ref saR)])) rfl rfl (hb hby d20_70)
  have f131_E_oR := E_oR.wr W131
  have f131_F_chunks_oR := F_chunks_oR.other W131 (Or.inl (Exa.neArv E_oR lt_A_saR (hU 10 _ rfl)))
  have f131_F_chunkCount_oR := F_chunkCount_oR.other W131 (Or.inl (Exa.neArv E_oR lt_A_saR (hU 10 _ rfl)))
  have f131_F_firsts_oR := F_firsts_oR.other W131 (Or.inl (Exa.neArv E_oR lt_A_saR (hU 10 _ rfl)))
  have f131_F_withItems_oR := F_withItems_oR.other W131 (Or.inl (Exa.neArv E_oR lt_A_saR (hU 10 _ rfl)))
  have f131_A_ckR := A_ckR.other W131 ne_ckR_saR
  have f131_E_kkR := E_kkR.wr W131
  have f131_F_size_kkR := lt_F_size_kkR.other W131 (Or.inl (Exa.neArv E_kkR lt_A_saR (hU 25 _ rfl)))
  have f131_F_starts_kkR := F_starts_kkR.other W131 (Or.inl (Exa.neArv E_kkR lt_A_saR (hU 25 _ rfl)))
  have f131_A_fiR := lt_A_fiR.other W131 ne_fiR_saR
  have f131_F_ends_kkR := F_ends_kkR.other W131 (Or.inl (Exa.neArv E_kkR lt_A_saR (hU 25 _ rfl)))
  have f131_F_items_kkR := F_items_kkR.other W131 (Or.inl (Exa.neArv E_kkR lt_A_saR (hU 25 _ rfl)))
  have f131_A_enR := lt_A_enR.other W131 (Ne.symm ne_saR_enR)
  have f131_A_itR := lt_A_itR.other W131 (Ne.symm ne_saR_itR)
  have f131_E_iv_ := E_iv_.wr W131
  have z131 : n0 ≤ h131.size := by rw [W131.size]; exact Z0
  have K131 : Keep h0 h131 [saR, enR, itR, kkR, fiR] := (Keep.refl h0 [saR, enR, itR, kkR, fiR]).wr W131 (Or.inl (List.mem_of_getElem? (i := 0) rfl))
  have v131 : Arv Z h131 saR kstR .int 256 [(.int xa), (.int xb), (.int p2)] (.int 0) := Arv.set Ar131 q131 S131 n131_ H131 G131 rfl W131 2 rfl (Nat.le_of_ble_eq_true rfl)
  have N131 := Fr.snoc X131 N0 g_saR
  have R132 := fun t k => R130 t (st131 t k)
  have R133 : own_R p e below T131 (mkF m 72 (fA8 iv_ kkR oR p2) [(.ref oR)]) s₁ f0 := fun t k => R132 t (by
   refine XS.aloadN X131.here hx rfl (hb hby d20_71) rfl rfl ?_
   exact k)
  obtain ⟨T134, X134, e134, R135⟩ := own_gF R133 X131 hx hZ hown (host := "") (Or.inl (hU 21 _ rfl)) Via.refl e131 f131_F_withItems_oR rfl rfl (hb hby d20_72)
  have R136 : own_R p e below T134 (mkF m 80 (fA8 iv_ kkR oR p2) [(.ref kkR)]) s₁ f0 := fun t k => R135 t (by
   refine XS.ifNo X134.here hx rfl (hb hby d20_75) rfl ((if0 _ _).trans (feq (by decide : ¬ ((1 : Int32) = (0 : Int32)))).1) ?_
   refine XS.aload X134.here hx rfl (hb hby d20_78) rfl rfl ?_
   exact k)
  obtain ⟨T137, X137, e137, R138⟩ := own_gF R136 X134 hx hZ hown (Or.inr (hU 131 _ rfl)) Via.refl e134 f131_F_ends_kkR rfl rfl (hb hby d20_80)
  have R139 : own_R p e below T137 (mkF m 86 (fA8 iv_ kkR oR p2) [(.int (p2 + (1 : Int32))), (.int 2), (.ref enR)]) s₁ f0 := fun t k => R138 t (by
   refine XS.iload X137.here hx rfl (hb hby d20_83) rfl ?_
   refine XS.iloadN X137.here hx rfl (hb hby d20_85) rfl ?_
   exact k)
  obtain ⟨cl140, Ar140, q140, S140, n140_, H140, G140⟩ := id f131_A_enR
  have hin140 : ¬ ((2 : Int32) < 0 ∨ cl140.slots.size ≤ ((2 : Int32)).toNatClampNeg) := inb_of S140 ⟨by decide, by decide⟩
  obtain ⟨T140, h140, X140, e140, W140, st140⟩ := stI X137 hx hZ e137 Ar140 (j := (2 : Int32)) hin140 (g := (mkF m 86 (fA8 iv_ kkR oR p2) [(.int (p2 + (1 : Int32))), (.int 2), (.ref enR)])) rfl rfl (hb hby d20_86)
  have f140_E_oR := f131_E_oR.wr W140
  have f140_F_chunks_oR := f131_F_chunks_oR.other W140 (Or.inl (Exa.neArv f131_E_oR f131_A_enR (hU 10 _ rfl)))
  have f140_F_chunkCount_oR := f131_F_chunkCount_oR.other W140 (Or.inl (Exa.neArv f131_E_oR f131_A_enR (hU 10 _ rfl)))
  have f140_F_firsts_oR := f131_F_firsts_oR.other W140 (Or.inl (Exa.neArv f131_E_oR f131_A_enR (hU 10 _ rfl)))
  have f140_F_withItems_oR := f131_F_withItems_oR.other W140 (Or.inl (Exa.neArv f131_E_oR f131_A_enR (hU 10 _ rfl)))
  have f140_A_ckR := f131_A_ckR.other W140 ne_ckR_enR
  have f140_E_kkR := f131_E_kkR.wr W140
  have f140_F_size_kkR := f131_F_size_kkR.other W140 (Or.inl (Exa.neArv f131_E_kkR f131_A_enR (hU 25 _ rfl)))
  have f140_F_starts_kkR := f131_F_starts_kkR.other W140 (Or.inl (Exa.neArv f131_E_kkR f131_A_enR (hU 25 _ rfl)))
  have f140_A_fiR := f131_A_fiR.other W140 ne_fiR_enR
  have f140_A_saR := v131.other W140 ne_saR_enR
  have f140_F_ends_kkR := f131_F_ends_kkR.other W140 (Or.inl (Exa.neArv f131_E_kkR f131_A_enR (hU 25 _ rfl)))
  have f140_F_items_kkR := f131_F_items_kkR.other W140 (Or.inl (Exa.neArv f131_E_kkR f131_A_enR (hU 25 _ rfl)))
  have f140_A_itR := f131_A_itR.other W140 (Ne.symm ne_enR_itR)
  have f140_E_iv_ := f131_E_iv_.wr W140
  have z140 : n0 ≤ h140.size := by rw [W140.size]; exact z131
  have K140 : Keep h0 h140 [saR, enR, itR, kkR, fiR] := K131.wr W140 (Or.inl (List.mem_of_getElem? (i := 1) rfl))
  have v140 : Arv Z h140 enR kenR .int 256 [(.int (xa + (1 : Int32))), (.int (xb + (1 : Int32))), (.int (p2 + (1 : Int32)))] (.int 0) := Arv.set Ar140 q140 S140 n140_ H140 G140 rfl W140 2 rfl (Nat.le_of_ble_eq_true rfl)
  have N140 := Fr.snoc X140 N131 g_enR
  have R141 := fun t k => R139 t (st140 t k)
  have R142 : own_R p e below T140 (mkF m 89 (fA8 iv_ kkR oR p2) [(.ref kkR)]) s₁ f0 := fun t k => R141 t (by
   refine XS.aload X140.here hx rfl (hb hby d20_87) rfl rfl ?_
   exact k)
  obtain ⟨T143, X143, e143, R144⟩ := own_gF R142 X140 hx hZ hown (Or.inr (hU 132 _ rfl)) Via.refl e140 f140_F_items_kkR rfl rfl (hb hby d20_89)
  have R145 : own_R p e below T143 (mkF m 95 (fA8 iv_ kkR oR p2) [(.ref iv_), (.int 2), (.ref itR)]) s₁ f0 := fun t k => R144 t (by
   refine XS.iload X143.here hx rfl (hb hby d20_92) rfl ?_
   refine XS.aloadN X143.here hx rfl (hb hby d20_94) rfl rfl ?_
   exact k)
  obtain ⟨cl146, Ar146, q146, S146, n146_, H146, G146⟩ := id f140_A_itR
  have hin146 : ¬ ((2 : Int32) < 0 ∨ cl146.slots.size ≤ ((2 : Int32)).toNatClampNeg) := inb_of S146 ⟨by decide, by decide⟩
  obtain ⟨T146, h146, X146, e146, W146, st146⟩ := stR X143 hx hZ e143 Ar146 (j := (2 : Int32)) hin146 rfl (Sto.ofV Ar146 q146 ovr_itR (Ins.of_exa f140_E_iv_ (hU 133 _ rfl))) (g := (mkF m 95 (fA8 iv_ kkR oR p2) [(.ref iv_), (.int 2), (.ref itR)])) rfl rfl (hb hby d20_95)
  have f146_E_oR := f140_E_oR.wr W146
  have f146_F_chunks_oR := f140_F_chunks_oR.other W146 (Or.inl (Exa.neArv f140_E_oR f140_A_itR (hU 10 _ rfl)))
  have f146_F_chunkCount_oR := f140_F_chunkCount_oR.other W146 (Or.inl (Exa.neArv f140_E_oR f140_A_itR (hU 10 _ rfl)))
  have f146_F_firsts_oR := f140_F_firsts_oR.other W146 (Or.inl (Exa.neArv f140_E_oR f140_A_itR (hU 10 _ rfl)))
  have f146_F_withItems_oR := f140_F_withItems_oR.other W146 (Or.inl (Exa.neArv f140_E_oR f140_A_itR (hU 10 _ rfl)))
  have f146_A_ckR := f140_A_ckR.other W146 ne_ckR_itR
  have f146_E_kkR := f140_E_kkR.wr W146
  have f146_F_size_kkR := f140_F_size_kkR.other W146 (Or.inl (Exa.neArv f140_E_kkR f140_A_itR (hU 25 _ rfl)))
  have f146_F_starts_kkR := f140_F_starts_kkR.other W146 (Or.inl (Exa.neArv f140_E_kkR f140_A_itR (hU 25 _ rfl)))
  have f146_A_fiR := f140_A_fiR.other W146 ne_fiR_itR
  have f146_A_saR := f140_A_saR.other W146 ne_saR_itR
  have f146_F_ends_kkR := f140_F_ends_kkR.other W146 (Or.inl (Exa.neArv f140_E_kkR f140_A_itR (hU 25 _ rfl)))
  have f146_F_items_kkR := f140_F_items_kkR.other W146 (Or.inl (Exa.neArv f140_E_kkR f140_A_itR (hU 25 _ rfl)))
  have f146_A_enR := v140.other W146 ne_enR_itR
  have f146_E_iv_ := f140_E_iv_.wr W146
  have z146 : n0 ≤ h146.size := by rw [W146.size]; exact z140
  have K146 : Keep h0 h146 [saR, enR, itR, kkR, fiR] := K140.wr W146 (Or.inl (List.mem_of_getElem? (i := 2) rfl))
  have v146 : Arv Z h146 itR kitR (.object "java/lang/Object") (256 : Int32) [(.ref iv_), (.ref iv_), (.ref iv_)] .null := Arv.set Ar146 q146 S146 n146_ H146 G146 rfl W146 2 rfl (Nat.le_of_ble_eq_true rfl)
  have N146 := Fr.snoc X146 N140 g_itR
  have R147 := fun t k => R145 t (st146 t k)
  have R148 : own_R p e below T146 (mkF m 102 (fA8 iv_ kkR oR p2) [(.int 3), (.ref kkR)]) s₁ f0 := fun t k => R147 t (by
   refine XS.aload X146.here hx rfl (hb hby d20_96) rfl rfl ?_
   refine XS.iload X146.here hx rfl (hb hby d20_98) rfl ?_
   refine XS.iconst X146.here hx rfl (hb hby d20_100) ?_
   refine XS.iadd X146.here hx rfl (hb hby d20_101) rfl ?_
   exact k)
  obtain ⟨T149, h149, X149, e149, W149, st149⟩ := putF X146 hx hZ hown (Or.inr (hU 63 _ rfl)) Via.refl e146 f146_F_size_kkR f146_E_kkR (Or.inl (hU 64 _ rfl)) (hU 25 _ rfl) (ty := .int) (by decide) rfl rfl (g := (mkF m 102 (fA8 iv_ kkR oR p2) [(.int 3), (.ref kkR)])) rfl rfl (hb hby d20_102)
  have fw149 : Fld Z h149 kkR sN0 "size" "I" (.int 3) := f146_F_size_kkR.same W149
  have f149_E_oR := f146_E_oR.wr W149
  have f149_F_chunks_oR := f146_F_chunks_oR.other W149 (Or.inl (Exa.ne f146_E_oR f146_E_kkR (by decide)))
  have f149_F_chunkCount_oR := f146_F_chunkCount_oR.other W149 (Or.inl (Exa.ne f146_E_oR f146_E_kkR (by decide)))
  have f149_F_firsts_oR := f146_F_firsts_oR.other W149 (Or.inl (Exa.ne f146_E_oR f146_E_kkR (by decide)))
  have f149_F_withItems_oR := f146_F_withItems_oR.other W149 (Or.inl (Exa.ne f146_E_oR f146_E_kkR (by decide)))
  have f149_A_ckR := f146_A_ckR.other W149 (Ne.symm (Exa.neArv f146_E_kkR f146_A_ckR (hU 25 _ rfl)))
  have f149_E_kkR := f146_E_kkR.wr W149
  have f149_F_starts_kkR := f146_F_starts_kkR.other W149 (Or.inr (slot_ne (Or.inr (hU 32 _ rfl)) (Or.inl (hU 64 _ rfl)) (by decide) (t := (.array .int)) (t' := .int) (by decide) (by decide)))
  have f149_A_fiR := f146_A_fiR.other W149 (Ne.symm (Exa.neArv f146_E_kkR f146_A_fiR (hU 25 _ rfl)))
  have f149_A_saR := f146_A_saR.other W149 (Ne.symm (Exa.neArv f146_E_kkR f146_A_saR (hU 25 _ rfl)))
  have f149_F_ends_kkR := f146_F_ends_kkR.other W149 (Or.inr (slot_ne (Or.inr (hU 34 _ rfl)) (Or.inl (hU 64 _ rfl)) (by decide) (t := (.array .int)) (t' := .int) (by decide) (by decide)))
  have f149_F_items_kkR := f146_F_items_kkR.other W149 (Or.inr (slot_ne (Or.inr (hU 38 _ rfl)) (Or.inl (hU 64 _ rfl)) (by decide) (t := (.array (.object "java/lang/Object"))) (t' := .int) (by decide) (by decide)))
  have f149_A_enR := f146_A_enR.other W149 (Ne.symm (Exa.neArv f146_E_kkR f146_A_enR (hU 25 _ rfl)))
  have f149_A_itR := v146.other W149 (Ne.symm (Exa.neArv f146_E_kkR v146 (hU 25 _ rfl)))
  have f149_E_iv_ := f146_E_iv_.wr W149
  have z149 : n0 ≤ h149.size := by rw [W149.size]; exact z146
  have K149 : Keep h0 h149 [saR, enR, itR, kkR, fiR] := K146.wr W149 (Or.inl (List.mem_of_getElem? (i := 3) rfl))
  have N149 := Fr.snoc X149 N146 g_kkR
  have R150 := fun t k => R148 t (st149 t k)
  have R151 : own_R p e below T149 (mkF m 106 (fA8 iv_ kkR oR p2) [(.ref oR)]) s₁ f0 := fun t k => R150 t (by
   refine XS.aloadN X149.here hx rfl (hb hby d20_105) rfl rfl ?_
   exact k)
  obtain ⟨T152, X152, e152, R153⟩ := own_gF R151 X149 hx hZ hown (host := "") (Or.inl (hU 17 _ rfl)) Via.refl e149 f149_F_firsts_oR rfl rfl (hb hby d20_106)
  have R154 : own_R p e below T152 (mkF m 110 (fA8 iv_ kkR oR p2) [(.ref oR), (.ref fiR)]) s₁ f0 := fun t k => R153 t (by
   refine XS.aloadN X152.here hx rfl (hb hby d20_109) rfl rfl ?_
   exact k)
  obtain ⟨T155, X155, e155, R156⟩ := own_gF R154 X152 hx hZ hown (host := "") (Or.inl (hU 19 _ rfl)) Via.refl e152 f149_F_chunkCount_oR rfl rfl (hb hby d20_110)
  have R157 : own_R p e below T155 (mkF m 117 (fA8 iv_ kkR oR p2) [(.ref kkR), (.int 0), (.ref fiR)]) s₁ f0 := fun t k => R156 t (by
   refine XS.iconst X155.here hx rfl (hb hby d20_113) ?_
   refine XS.isub X155.here hx rfl (hb hby d20_114) rfl ?_
   refine XS.aload X155.here hx rfl (hb hby d20_115) rfl rfl ?_
   exact k)
  obtain ⟨T158, X158, e158, R159⟩ := own_gF R157 X155 hx hZ hown (Or.inr (hU 106 _ rfl)) Via.refl e155 f149_F_starts_kkR rfl rfl (hb hby d20_117)
  have R160 : own_R p e below T158 (mkF m 121 (fA8 iv_ kkR oR p2) [(.int 0), (.ref saR), (.int 0), (.ref fiR)]) s₁ f0 := fun t k => R159 t (by
   refine XS.iconst X158.here hx rfl (hb hby d20_120) ?_
   exact k)
  obtain ⟨cl161, Ar161, q161, S161, n161_, H161, G161⟩ := id f149_A_saR
  have hin161 : ¬ ((0 : Int32) < 0 ∨ cl161.slots.size ≤ ((0 : Int32)).toNatClampNeg) := inb_of S161 ⟨by decide, by decide⟩
  have hat161 : cl161.slots[((0 : Int32)).toNatClampNeg]? = some (.int xa) := Has.at H161 hin161 rfl
  have R162 : own_R p e below T158 (mkF m 122 (fA8 iv_ kkR oR p2) [(.int xa), (.int 0), (.ref fiR)]) s₁ f0 := fun t k => R160 t (X158.iaload hx (j := (0 : Int32)) (v := (.int xa)) (by rw [e158]; exact Ar161.1) (State.isArrayOf_alike hZ.alike Ar161.2.1) Ar161.2.2 hin161 hat161 (g := (mkF m 121 (fA8 iv_ kkR oR p2) [(.int 0), (.ref saR), (.int 0), (.ref fiR)])) rfl rfl (hb hby d20_121) _ k)
  obtain ⟨cl163, Ar163, q163, S163, n163_, H163, G163⟩ := id f149_A_fiR
  have hin163 : ¬ ((0 : Int32) < 0 ∨ cl163.slots.size ≤ ((0 : Int32)).toNatClampNeg) := inb_of S163 ⟨by decide, by decide⟩
  obtain ⟨T163, h163, X163, e163, W163, st163⟩ := stI X158 hx hZ e158 Ar163 (j := (0 : Int32)) hin163 (g := (mkF m 122 (fA8 iv_ kkR oR p2) [(.int xa), (.int 0), (.ref fiR)])) rfl rfl (hb hby d20_122)
  have f163_E_oR := f149_E_oR.wr W163
  have f163_F_chunks_oR := f149_F_chunks_oR.other W163 (Or.inl (Exa.neArv f149_E_oR f149_A_fiR (hU 10 _ rfl)))
  have f163_F_chunkCount_oR := f149_F_chunkCount_oR.other W163 (Or.inl (Exa.neArv f149_E_oR f149_A_fiR (hU 10 _ rfl)))
  have f163_F_firsts_oR := f149_F_firsts_oR.other W163 (Or.inl (Exa.neArv f149_E_oR f149_A_fiR (hU 10 _ rfl)))
  have f163_F_withItems_oR := f149_F_withItems_oR.other W163 (Or.inl (Exa.neArv f149_E_oR f149_A_fiR (hU 10 _ rfl)))
  have f163_A_ckR := f149_A_ckR.other W163 (Ne.symm ne_fiR_ckR)
  have f163_E_kkR := f149_E_kkR.wr W163
  have f163_F_size_kkR := fw149.other W163 (Or.inl (Exa.neArv f149_E_kkR f149_A_fiR (hU 25 _ rfl)))
  have f163_F_starts_kkR := f149_F_starts_kkR.other W163 (Or.inl (Exa.neArv f149_E_kkR f149_A_fiR (hU 25 _ rfl)))
  have f163_A_saR := f149_A_saR.other W163 (Ne.symm ne_fiR_saR)
  have f163_F_ends_kkR := f149_F_ends_kkR.other W163 (Or.inl (Exa.neArv f149_E_kkR f149_A_fiR (hU 25 _ rfl)))
  have f163_F_items_kkR := f149_F_items_kkR.other W163 (Or.inl (Exa.neArv f149_E_kkR f149_A_fiR (hU 25 _ rfl)))
  have f163_A_enR := f149_A_enR.other W163 (Ne.symm ne_fiR_enR)
  have f163_A_itR := f149_A_itR.other W163 (Ne.symm ne_fiR_itR)
  have f163_E_iv_ := f149_E_iv_.wr W163
  have z163 : n0 ≤ h163.size := by rw [W163.size]; exact z149
  have K163 : Keep h0 h163 [saR, enR, itR, kkR, fiR] := K149.wr W163 (Or.inl (List.mem_of_getElem? (i := 4) rfl))
  have v163 : Arv Z h163 fiR kfiR .int 1 [(.int xa)] (.int 0) := Arv.set Ar163 q163 S163 n163_ H163 G163 rfl W163 0 rfl (Nat.le_of_ble_eq_true rfl)
  have N163 := Fr.snoc X163 N149 g_fiR
  have R164 := fun t k => R162 t (st163 t k)
  have ei : own_ins p2 [xa, xb] = [xa, xb, p2] := own_in2_2 hap_
  have R165 : own_R p e below T163 (mkF m 124 (fA8 iv_ kkR oR p2) [(.int 1)]) s₁ f0 := fun t k => R164 t (by
   refine XS.iconst X163.here hx rfl (hb hby d20_123) ?_
   exact k)
  obtain ⟨fs, hr, hrun, hended, hW, hsame⟩ := X163.leave (v := some (.int 1)) (fun h => by rw [Bd.returns] at h; cases h)
  refine ⟨_, _, pre0 _ (R165 _ ?_), hrun, hended, _, _, rfl, ?_, ⟨_, rfl⟩, hW, hsame.mono (by decide) (by decide)⟩
  ·
   show own_S p e below T163 (mkF m 124 (fA8 iv_ kkR oR p2) [(.int 1)]) _
   exact retN X163 hx (t := .boolean) Bd.returns (by simp) (hb hby d20_124) hr
  ·
   show Q_rmApY Z oR p2 iv_ ckR kckR kkR fiR kfiR saR kstR enR kenR itR kitR [xa, xb] h0 n0 _ T163.heap _
   rw [e163]
   exact ⟨rfl, N163, K163, (by rw [ei]; exact f163_F_size_kkR), f163_F_starts_kkR, (by rw [ei]; exact v163), (by rw [ei]; exact f163_A_saR), f163_F_ends_kkR, f163_F_items_kkR, (by rw [ei]; exact f163_A_enR), (by rw [ei]; exact f163_A_itR)⟩
theorem ef_rmApN (m : MethodId) (x0 : Addr) (x1 : Int32) (x2 : Int32) (x3 : Addr) : entryFrame m #[(.ref x0), (.int x1), (.int x2), (.ref x3)] 6 = mkF m 0 #[rv x0, iv x1, iv x2, rv x3, .unset, .unset] [] := by first | (simp [entryFrame, mkF, argsToLocals, Value.category]; done) | rfl
def Q_rmApN (Z : State) (oR : Addr) (p2 : Int32) (iv_ : Addr) (ckR : Addr) (kckR : ClassId) (kkR : Addr) (saR : Addr) (kstR : ClassId) (xs : List Int32) (h0 : Heap) (n0 : Nat) (v : Option Value) (h : Heap) (L : List Loc) : Prop := v = some (.int 0) ∧ Fr n0 L ∧ h = h0
set_option maxRecDepth 65536 in
set_option maxHeartbeats 40000000 in
theorem rmApN (l : Launch) (Z : State) (a0 : Array Value) (hw : ∀ d ∈ tables_1, d.before a0 Z = true) (ws : List Jvm.Cond) (oR : Addr) (p2 : Int32) (iv_ : Addr) (ckR : Addr) (kckR : ClassId) (kkR : Addr) (saR : Addr) (kstR : ClassId) (xs : List Int32) (h0 : Heap) (n0 : Nat) (Z0 : n0 ≤ h0.size) (F_chunks_oR : Fld Z h0 oR sN1 "chunks" sN2 (.ref ckR)) (F_chunkCount_oR : Fld Z h0 oR sN1 "chunkCount" "I" (.int 1)) (A_ckR : Arv Z h0 ckR kckR (.object sN0) (1 : Int32) [(.ref kkR)] .null) (F_size_kkR : Fld Z h0 kkR sN0 "size" "I" (.int (own_n xs))) (F_starts_kkR : Fld Z h0 kkR sN0 "starts" "[I" (.ref saR)) (A_saR : Arv Z h0 saR kstR .int 256 (own_v xs) (.int 0)) (hlen : xs.length ≤ 2) (hna : ¬ own_ap xs p2) :
  own_M l yN5 (Jvm.Cond.code yN5 prog_118_method_5_code 6 (some .boolean) :: ws) ({ frames := 0, cells := 0, slots := 0, locals := 0 } : Room) #[(.ref oR), (.int p2), (.int (p2 + (1 : Int32))), (.ref iv_)] Z h0 (Q_rmApN Z oR p2 iv_ ckR kckR kkR saR kstR xs h0 n0) := by
 refine MetFree.of_bodySF (plainFor_of_name pn_1) hisR ?_
 intro p e s m args below meth c s₁ Bd hml0 hP hK
 obtain ⟨rfl, hZ, hh⟩ := hP
 have hx := Bd.exec
 have hby := Bd.bytes
 have hml : c.maxLocals = 6 := hml0
 have hown : s.vm.findClass sN1 = some m.cls := findClass_of_methodNamed Bd.named
 have hnm := (name_of_methodNamed Bd.named Bd.method).1
 have X0 : Stand p l e ({ frames := 0, cells := 0, slots := 0, locals := 0 } : Room) s m #[(.ref oR), (.int p2), (.int (p2 + (1 : Int32))), (.ref iv_)] below meth c s₁ [] 0 0 := Stand.of_body Bd
 have hU : ∀ (i : Nat) (d : Jvm.Cond), tables_1[i]? = some d → d.before a0 Z = true := fun i d h => hw d (List.mem_of_getElem? h)
 have e0 : s₁.heap = h0 := by rw [← hh, Bd.state]; rfl
 have N0 := Fr.nil n0
 obtain ⟨f0, hf0⟩ : ∃ f : JFrame, f = mkF m 0 (fA9 iv_ oR p2) [] := ⟨_, rfl⟩
 have pre0 : ∀ t, own_S p e below s₁ f0 t → Steps p.tables e below (s₁.setTop (entryFrame m #[(.ref oR), (.int p2), (.int (p2 + (1 : Int32))), (.ref iv_)] 6)) t := fun t k => castTop ((ef_rmApN m oR p2 (p2 + (1 : Int32)) iv_).trans hf0.symm) k
 have R0 : own_R p e below s₁ (mkF m 0 (fA9 iv_ oR p2) []) s₁ f0 := by rw [hf0]; exact fun t k => k
 rcases own_sh2 hlen with rfl | ⟨xa, rfl⟩ | ⟨xa, xb, rfl⟩
 ·
  exact absurd (show own_ap [] p2 from trivial) hna
 ·
  have lt_F_size_kkR : Fld Z h0 kkR sN0 "size" "I" (.int 1) := F_size_kkR
  have lt_A_saR : Arv Z h0 saR kstR .int 256 [(.int xa), (.int 0), (.int 0)] (.int 0) := A_saR
  have hna_ : ¬ xa < p2 := hna
  have R1 : own_R p e below s₁ (mkF m 1 (fA9 iv_ oR p2) [(.ref oR)]) s₁ f0 := fun t k => R0 t (by
   refine XS.aloadN X0.here hx rfl (hb hby d20_0) rfl rfl ?_
   exact k)
  obtain ⟨T2, X2, e2, R3⟩ := own_gF R1 X0 hx hZ hown (host := "") (Or.inl (hU 40 _ rfl)) Via.refl e0 F_chunks_oR rfl rfl (hb hby d20_1)
  have R4 : own_R p e below T2 (mkF m 5 (fA9 iv_ oR p2) [(.ref oR), (.ref ckR)]) s₁ f0 := fun t k => R3 t (by
   refine XS.aloadN X2.here hx rfl (hb hby d20_4) rfl rfl ?_
   exact k)
  obtain ⟨T5, X5, e5, R6⟩ := own_gF R4 X2 hx hZ hown (host := "") (Or.inl (hU 19 _ rfl)) Via.refl e2 F_chunkCount_oR rfl rfl (hb hby d20_5)
  have R7 : own_R p e below T5 (mkF m 10 (fA9 iv_ oR p2) [(.int 0), (.ref ckR)]) s₁ f0 := fun t k => R6 t (by
   refine XS.iconst X5.here hx rfl (hb hby d20_8) ?_
   refine XS.isub X5.here hx rfl (hb hby d20_9) rfl ?_
   exact k)
  obtain ⟨cl8, Ar8, q8, S8, n8_, H8, G8⟩ := id A_ckR
  have hin8 : ¬ ((0 : Int32) < 0 ∨ cl8.slots.size ≤ ((0 : Int32)).toNatClampNeg) := inb_of S8 ⟨by decide, by decide⟩
  have hat8 : cl8.slots[((0 : Int32)).toNatClampNeg]? = some (.ref kkR) := Has.at H8 hin8 rfl
  have R9 : own_R p e below T5 (mkF m 11 (fA9 iv_ oR p2) [(.ref kkR)]) s₁ f0 := fun t k => R7 t (X5.aaload hx (j := (0 : Int32)) (v := (.ref kkR)) (by rw [e5]; exact Ar8.1) (State.isArrayOf_alike hZ.alike Ar8.2.1) rfl Ar8.2.2 hin8 hat8 (g := (mkF m 10 (fA9 iv_ oR p2) [(.int 0), (.ref ckR)])) rfl rfl (hb hby d20_10) _ k)
  have R10 : own_R p e below T5 (mkF m 15 (fA32 iv_ kkR oR p2) [(.ref kkR)]) s₁ f0 := fun t k => R9 t (by
   refine XS.astore X5.here hx rfl (hb hby d20_11) rfl rfl (l' := (fA32 iv_ kkR oR p2)) rfl ?_
   refine XS.aload X5.here hx rfl (hb hby d20_13) rfl rfl ?_
   exact k)
  obtain ⟨T11, X11, e11, R12⟩ := own_gF R10 X5 hx hZ hown (Or.inr (hU 63 _ rfl)) Via.refl e5 lt_F_size_kkR rfl rfl (hb hby d20_15)
  have R13 : own_R p e below T11 (mkF m 28 (fA7 iv_ kkR oR p2) [(.ref kkR), (.int p2)]) s₁ f0 := fun t k => R12 t (by
   refine XS.istore X11.here hx rfl (hb hby d20_18) rfl (l' := (fA7 iv_ kkR oR p2)) rfl ?_
   refine XS.iload X11.here hx rfl (hb hby d20_20) rfl ?_
   refine XS.ifNo X11.here hx rfl (hb hby d20_22) rfl ((if0 _ _).trans (tlt (by decide : (0 : Int32) < (1 : Int32))).2.2.2) ?_
   refine XS.iloadN X11.here hx rfl (hb hby d20_25) rfl ?_
   refine XS.aload X11.here hx rfl (hb hby d20_26) rfl rfl ?_
   exact k)
  obtain ⟨T14, X14, e14, R15⟩ := own_gF R13 X11 hx hZ hown (Or.inr (hU 106 _ rfl)) Via.refl e11 F_starts_kkR rfl rfl (hb hby d20_28)
  have R16 : own_R p e below T14 (mkF m 35 (fA7 iv_ kkR oR p2) [(.int 0), (.ref saR), (.int p2)]) s₁ f0 := fun t k => R15 t (by
   refine XS.iload X14.here hx rfl (hb hby d20_31) rfl ?_
   refine XS.iconst X14.here hx rfl (hb hby d20_33) ?_
   refine XS.isub X14.here hx rfl (hb hby d20_34) rfl ?_
   exact k)
  obtain ⟨cl17, Ar17, q17, S17, n17_, H17, G17⟩ := id lt_A_saR
  have hin17 : ¬ ((0 : Int32) < 0 ∨ cl17.slots.size ≤ ((0 : Int32)).toNatClampNeg) := inb_of S17 ⟨by decide, by decide⟩
  have hat17 : cl17.slots[((0 : Int32)).toNatClampNeg]? = some (.int xa) := Has.at H17 hin17 rfl
  have R18 : own_R p e below T14 (mkF m 36 (fA7 iv_ kkR oR p2) [(.int xa), (.int p2)]) s₁ f0 := fun t k => R16 t (X14.iaload hx (j := (0 : Int32)) (v := (.int xa)) (by rw [e14]; exact Ar17.1) (State.isArrayOf_alike hZ.alike Ar17.2.1) Ar17.2.2 hin17 hat17 (g := (mkF m 35 (fA7 iv_ kkR oR p2) [(.int 0), (.ref saR), (.int p2)])) rfl rfl (hb hby d20_35) _ k)
  have R19 : own_R p e below T14 (mkF m 40 (fA7 iv_ kkR oR p2) [(.int 0)]) s₁ f0 := fun t k => R18 t (by
   refine XS.icmpNo X14.here hx rfl (hb hby d20_36) rfl (flt hna_).2.2.1 ?_
   refine XS.iconst X14.here hx rfl (hb hby d20_39) ?_
   exact k)
  obtain ⟨fs, hr, hrun, hended, hW, hsame⟩ := X14.leave (v := some (.int 0)) (fun h => by rw [Bd.returns] at h; cases h)
  refine ⟨_, _, pre0 _ (R19 _ ?_), hrun, hended, _, _, rfl, ?_, ⟨_, rfl⟩, hW, hsame.mono (by decide) (by decide)⟩
  ·
   show own_S p e below T14 (mkF m 40 (fA7 iv_ kkR oR p2) [(.int 0)]) _
   exact retN X14 hx (t := .boolean) Bd.returns (by simp) (hb hby d20_40) hr
  ·
   show Q_rmApN Z oR p2 iv_ ckR kckR kkR saR kstR [xa] h0 n0 _ T14.heap _
   rw [e14]
   exact ⟨rfl, N0, rfl⟩
 ·
  have lt_F_size_kkR : Fld Z h0 kkR sN0 "size" "I" (.int 2) := F_size_kkR
  have lt_A_saR : Arv Z h0 saR kstR .int 256 [(.int xa), (.int xb), (.int 0)] (.int 0) := A_saR
  have hna_ : ¬ xb < p2 := hna
  have R20 : own_R p e below s₁ (mkF m 1 (fA9 iv_ oR p2) [(.ref oR)]) s₁ f0 := fun t k => R0 t (by
   refine XS.aloadN X0.here hx rfl (hb hby d20_0) rfl rfl ?_
   exact k)
  obtain ⟨T21, X21, e21, R22⟩ := own_gF R20 X0 hx hZ hown (host := "") (Or.inl (hU 40 _ rfl)) Via.refl e0 F_chunks_oR rfl rfl (hb hby d20_1)
  have R23 : own_R p e below T21 (mkF m 5 (fA9 iv_ oR p2) [(.ref oR), (.ref ckR)]) s₁ f0 := fun t k => R22 t (by
   refine XS.aloadN X21.here hx rfl (hb hby d20_4) rfl rfl ?_
   exact k)
  obtain ⟨T24, X24, e24, R25⟩ := own_gF R23 X21 hx hZ hown (host := "") (Or.inl (hU 19 _ rfl)) Via.refl e21 F_chunkCount_oR rfl rfl (hb hby d20_5)
  have R26 : own_R p e below T24 (mkF m 10 (fA9 iv_ oR p2) [(.int 0), (.ref ckR)]) s₁ f0 := fun t k => R25 t (by
   refine XS.iconst X24.here hx rfl (hb hby d20_8) ?_
   refine XS.isub X24.here hx rfl (hb hby d20_9) rfl ?_
   exact k)
  obtain ⟨cl27, Ar27, q27, S27, n27_, H27, G27⟩ := id A_ckR
  have hin27 : ¬ ((0 : Int32) < 0 ∨ cl27.slots.size ≤ ((0 : Int32)).toNatClampNeg) := inb_of S27 ⟨by decide, by decide⟩
  have hat27 : cl27.slots[((0 : Int32)).toNatClampNeg]? = some (.ref kkR) := Has.at H27 hin27 rfl
  have R28 : own_R p e below T24 (mkF m 11 (fA9 iv_ oR p2) [(.ref kkR)]) s₁ f0 := fun t k => R26 t (X24.aaload hx (j := (0 : Int32)) (v := (.ref kkR)) (by rw [e24]; exact Ar27.1) (State.isArrayOf_alike hZ.alike Ar27.2.1) rfl Ar27.2.2 hin27 hat27 (g := (mkF m 10 (fA9 iv_ oR p2) [(.int 0), (.ref ckR)])) rfl rfl (hb hby d20_10) _ k)
  have R29 : own_R p e below T24 (mkF m 15 (fA32 iv_ kkR oR p2) [(.ref kkR)]) s₁ f0 := fun t k => R28 t (by
   refine XS.astore X24.here hx rfl (hb hby d20_11) rfl rfl (l' := (fA32 iv_ kkR oR p2)) rfl ?_
   refine XS.aload X24.here hx rfl (hb hby d20_13) rfl rfl ?_
   exact k)
  obtain ⟨T30, X30, e30, R31⟩ := own_gF R29 X24 hx hZ hown (Or.inr (hU 63 _ rfl)) Via.refl e24 lt_F_size_kkR rfl rfl (hb hby d20_15)
  have R32 : own_R p e below T30 (mkF m 28 (fA8 iv_ kkR oR p2) [(.ref kkR), (.int p2)]) s₁ f0 := fun t k => R31 t (by
   refine XS.istore X30.here hx rfl (hb hby d20_18) rfl (l' := (fA8 iv_ kkR oR p2)) rfl ?_
   refine XS.iload X30.here hx rfl (hb hby d20_20) rfl ?_
   refine XS.ifNo X30.here hx rfl (hb hby d20_22) rfl ((if0 _ _).trans (tlt (by decide : (0 : Int32) < (2 : Int32))).2.2.2) ?_
   refine XS.iloadN X30.here hx rfl (hb hby d20_25) rfl ?_
   refine XS.aload X30.here hx rfl (hb hby d20_26) rfl rfl ?_
   exact k)
  obtain ⟨T33, X33, e33, R34⟩ := own_gF R32 X30 hx hZ hown (Or.inr (hU 106 _ rfl)) Via.refl e30 F_starts_kkR rfl rfl (hb hby d20_28)
  have R35 : own_R p e below T33 (mkF m 35 (fA8 iv_ kkR oR p2) [(.int 1), (.ref saR), (.int p2)]) s₁ f0 := fun t k => R34 t (by
   refine XS.iload X33.here hx rfl (hb hby d20_31) rfl ?_
   refine XS.iconst X33.here hx rfl (hb hby d20_33) ?_
   refine XS.isub X33.here hx rfl (hb hby d20_34) rfl ?_
   exact k)
  obtain ⟨cl36, Ar36, q36, S36, n36_, H36, G36⟩ := id lt_A_saR
  have hin36 : ¬ ((1 : Int32) < 0 ∨ cl36.slots.size ≤ ((1 : Int32)).toNatClampNeg) := inb_of S36 ⟨by decide, by decide⟩
  have hat36 : cl36.slots[((1 : Int32)).toNatClampNeg]? = some (.int xb) := Has.at H36 hin36 rfl
  have R37 : own_R p e below T33 (mkF m 36 (fA8 iv_ kkR oR p2) [(.int xb), (.int p2)]) s₁ f0 := fun t k => R35 t (X33.iaload hx (j := (1 : Int32)) (v := (.int xb)) (by rw [e33]; exact Ar36.1) (State.isArrayOf_alike hZ.alike Ar36.2.1) Ar36.2.2 hin36 hat36 (g := (mkF m 35 (fA8 iv_ kkR oR p2) [(.int 1), (.ref saR), (.int p2)])) rfl rfl (hb hby d20_35) _ k)
  have R38 : own_R p e below T33 (mkF m 40 (fA8 iv_ kkR oR p2) [(.int 0)]) s₁ f0 := fun t k => R37 t (by
   refine XS.icmpNo X33.here hx rfl (hb hby d20_36) rfl (flt hna_).2.2.1 ?_
   refine XS.iconst X33.here hx rfl (hb hby d20_39) ?_
   exact k)
  obtain ⟨fs, hr, hrun, hended, hW, hsame⟩ := X33.leave (v := some (.int 0)) (fun h => by rw [Bd.returns] at h; cases h)
  refine ⟨_, _, pre0 _ (R38 _ ?_), hrun, hended, _, _, rfl, ?_, ⟨_, rfl⟩, hW, hsame.mono (by decide) (by decide)⟩
  ·
   show own_S p e below T33 (mkF m 40 (fA8 iv_ kkR oR p2) [(.int 0)]) _
   exact retN X33 hx (t := .boolean) Bd.returns (by simp) (hb hby d20_40) hr
  ·
   show Q_rmApN Z oR p2 iv_ ckR kckR kkR saR kstR [xa, xb] h0 n0 _ T33.heap _
   rw [e33]
   exact ⟨rfl, N0, rfl⟩
theorem ef_rmOi1 (m : MethodId) (x0 : Addr) (x1 : Int64) (x2 : Int32) (x3 : Int32) (x4 : Addr) : entryFrame m #[(.ref x0), (.long x1), (.int x2), (.int x3), (.ref x4)] 10 = mkF m 0 #[rv x0, own_l x1, .second, iv x2, iv x3, rv x4, .unset, .unset, .unset, .unset] [] := by first | (simp [entryFrame, mkF, argsToLocals, Value.category]; done) | rfl
def Q_rmOi1 (Z : State) (oR : Addr) (p3 : Int32) (iv_ : Addr) (ckR : Addr) (kckR : ClassId) (kkR : Addr) (fiR : Addr) (kfiR : ClassId) (saR : Addr) (kstR : ClassId) (enR : Addr) (kenR : ClassId) (itR : Addr) (kitR : ClassId) (xs : List Int32) (h0 : Heap) (n0 : Nat) (v : Option Value) (h : Heap) (L : List Loc) : Prop := v = none ∧ Fr n0 L ∧ Keep h0 h [saR, enR, itR, kkR, fiR] ∧ (Fld Z h kkR sN0 "size" "I" (.int (own_n (own_ins p3 xs)))) ∧ (Fld Z h kkR sN0 "starts" "[I" (.ref saR)) ∧ (Arv Z h fiR kfiR .int 1 [(.int (own_h (own_ins p3 xs)))] (.int 0)) ∧ (Arv Z h saR kstR .int 256 (own_v (own_ins p3 xs)) (.int 0)) ∧ (Fld Z h kkR sN0 "ends" "[I" (.ref enR)) ∧ (Fld Z h kkR sN0 "items" "[Ljava/lang/Object;" (.ref itR)) ∧ (Arv Z h enR kenR .int 256 (own_e (own_ins p3 xs)) (.int 0)) ∧ (Arv Z h itR kitR (.object "java/lang/Object") (256 : Int32) (own_i iv_ (own_ins p3 xs)) .null)
set_option maxRecDepth 65536 in
set_option maxHeartbeats 40000000 in
theorem rmOi1 (l : Launch) (Z : State) (a0 : Array Value) (hw : ∀ d ∈ tables_1, d.before a0 Z = true) (ws : List Jvm.Cond) (oR : Addr) (p3 : Int32) (iv_ : Addr) (ckR : Addr) (kckR : ClassId) (kkR : Addr) (fiR : Addr) (kfiR : ClassId) (saR : Addr) (kstR : ClassId) (enR : Addr) (kenR : ClassId) (itR : Addr) (kitR : ClassId) (xs : List Int32) (h0 : Heap) (n0 : Nat) (Z0 : n0 ≤ h0.size) (E_oR : Exa Z h0 oR sN1) (F_chunks_oR : Fld Z h0 oR sN1 "chunks" sN2 (.ref ckR)) (F_chunkCount_oR : Fld Z h0 oR sN1 "chunkCount" "I" (.int 1)) (F_firsts_oR : Fld Z h0 oR sN1 "firsts" "[I" (.ref fiR)) (F_withItems_oR : Fld Z h0 oR sN1 "withItems" "Z" (.int 1)) (A_ckR : Arv Z h0 ckR kckR (.object sN0) (1 : Int32) [(.ref kkR)] .null) (E_kkR : Exa Z h0 kkR sN0) (F_size_kkR : Fld Z h0 kkR sN0 "size" "I" (.int (own_n xs))) (F_starts_kkR : Fld Z h0 kkR sN0 "starts" "[I" (.ref saR)) (A_fiR : Arv Z h0 fiR kfiR .int 1 [(.int (own_h xs))] (.int 0)) (A_saR : Arv Z h0 saR kstR .int 256 (own_v xs) (.int 0)) (F_ends_kkR : Fld Z h0 kkR sN0 "ends" "[I" (.ref enR)) (F_items_kkR : Fld Z h0 kkR sN0 "items" "[Ljava/lang/Object;" (.ref itR)) (A_enR : Arv Z h0 enR kenR .int 256 (own_e xs) (.int 0)) (A_itR : Arv Z h0 itR kitR (.object "java/lang/Object") (256 : Int32) (own_i iv_ xs) .null) (E_iv_ : Exa Z h0 iv_ "java/lang/Integer") (g_saR : n0 ≤ saR) (g_enR : n0 ≤ enR) (g_itR : n0 ≤ itR) (g_kkR : n0 ≤ kkR) (g_fiR : n0 ≤ fiR) (ne_fiR_ckR : fiR ≠ ckR) (ne_fiR_saR : fiR ≠ saR) (ne_fiR_enR : fiR ≠ enR) (ne_fiR_itR : fiR ≠ itR) (ne_ckR_saR : ckR ≠ saR) (ne_ckR_enR : ckR ≠ enR) (ne_ckR_itR : ckR ≠ itR) (ne_saR_enR : saR ≠ enR) (ne_saR_itR : saR ≠ itR) (ne_enR_itR : enR ≠ itR) (ovr_itR : Ovr Z kitR "java/lang/Object") (hlen : xs.length ≤ 2) (hso : own_so xs) (hq : p3 ∉ xs) (hnl : xs.length ≤ 1 ∨ ¬ own_ap xs p3) :
  own_M l yN6 (Jvm.Cond.code yN6 prog_118_method_6_code 10 none :: ws) ({ frames := 1, cells := 0, slots := 0, locals := 18 } : Room) #[(.ref oR), (.long (own_p xs p3)), (.int p3), (.int (p3 + (1 : Int32))), (.ref iv_)] Z h0 (Q_rmOi1 Z oR p3 iv_ ckR kckR kkR fiR kfiR saR kstR enR kenR itR kitR xs h0 n0) := by
 refine MetFree.of_bodySF (plainFor_of_name pn_1) hisR ?_
 intro p e s m args below meth c s₁ Bd hml0 hP hK
 obtain ⟨rfl, hZ, hh⟩ := hP
 have hx := Bd.exec
 have hby := Bd.bytes
 have hml : c.maxLocals = 10 := hml0
 have hown : s.vm.findClass sN1 = some m.cls := findClass_of_methodNamed Bd.named
 have hnm := (name_of_methodNamed Bd.named Bd.method).1
 have X0 : Stand p l e ({ frames := 1, cells := 0, slots := 0, locals := 18 } : Room) s m #[(.ref oR), (.long (own_p xs p3)), (.int p3), (.int (p3 + (1 : Int32))), (.ref iv_)] below meth c s₁ [] 0 0 := Stand.of_body Bd
 have hU : ∀ (i : Nat) (d : Jvm.Cond), tables_1[i]? = some d → d.before a0 Z = true := fun i d h => hw d (List.mem_of_getElem? h)
 have e0 : s₁.heap = h0 := by rw [← hh, Bd.state]; rfl
 have N0 := Fr.nil n0
 obtain ⟨f0, hf0⟩ : ∃ f : JFrame, f = mkF m 0 #[rv oR, own_l (own_p xs p3), .second, iv p3, iv (p3 + (1 : Int32)), rv iv_, .unset, .unset, .unset, .unset] [] := ⟨_, rfl⟩
 have pre0 : ∀ t, own_S p e below s₁ f0 t → Steps p.tables e below (s₁.setTop (entryFrame m #[(.ref oR), (.long (own_p xs p3)), (.int p3), (.int (p3 + (1 : Int32))), (.ref iv_)] 10)) t := fun t k => castTop ((ef_rmOi1 m oR (own_p xs p3) p3 (p3 + (1 : Int32)) iv_).trans hf0.symm) k
 have R0 : own_R p e below s₁ (mkF m 0 #[rv oR, own_l (own_p xs p3), .second, iv p3, iv (p3 + (1 : Int32)), rv iv_, .unset, .unset, .unset, .unset] []) s₁ f0 := by rw [hf0]; exact fun t k => k
 rcases own_sh2 hlen with rfl | ⟨xa, rfl⟩ | ⟨xa, xb, rfl⟩
 ·
  have lt_F_size_kkR : Fld Z h0 kkR sN0 "size" "I" (.int 0) := F_size_kkR
  have lt_A_fiR : Arv Z h0 fiR kfiR .int 1 [(.int 0)] (.int 0) := A_fiR
  have lt_A_saR : Arv Z h0 saR kstR .int 256 [(.int 0), (.int 0), (.int 0)] (.int 0) := A_saR
  have lt_A_enR : Arv Z h0 enR kenR .int 256 [(.int 0), (.int 0), (.int 0)] (.int 0) := A_enR
  have lt_A_itR : Arv Z h0 itR kitR (.object "java/lang/Object") (256 : Int32) [.null, .null, .null] .null := A_itR
  have R1 : own_R p e below s₁ (mkF m 0 (fA10 iv_ oR p3) []) s₁ f0 := by have q := R0; rw [((own_pe0_0 p3) : (own_p [] p3) = (256 : Int64))] at q; exact q
  have R2 : own_R p e below s₁ (mkF m 4 (fA10 iv_ oR p3) [(.long (((256 : Int64).toUInt64 >>> ((32 : Int32) &&& 0x3f).toInt64.toUInt64).toInt64))]) s₁ f0 := fun t k => R1 t (by
   refine XS.lloadN X0.here hx rfl (hb hby d15_0) rfl ?_
   refine XS.bipush X0.here hx rfl (hb hby d15_1) ?_
   refine XS.lushr X0.here hx rfl (hb hby d15_3) rfl ?_
   exact k)
  have R3 : own_R p e below s₁ (mkF m 4 (fA10 iv_ oR p3) [(.long (0 : Int64))]) s₁ f0 := by have q := R2; rw [((by decide) : (((256 : Int64).toUInt64 >>> ((32 : Int32) &&& 0x3f).toInt64.toUInt64).toInt64) = (0 : Int64))] at q; exact q
  have R4 : own_R p e below s₁ (mkF m 5 (fA10 iv_ oR p3) [(.int ((0 : Int64).toInt32))]) s₁ f0 := fun t k => R3 t (by
   refine XS.l2i X0.here hx rfl (hb hby d15_4) rfl ?_
   exact k)
  have R5 : own_R p e below s₁ (mkF m 5 (fA10 iv_ oR p3) [(.int 0)]) s₁ f0 := by have q := R4; rw [((by decide) : ((0 : Int64).toInt32) = (0 : Int32))] at q; exact q
  have R6 : own_R p e below s₁ (mkF m 9 (fA21 iv_ oR p3) [(.int ((256 : Int64).toInt32))]) s₁ f0 := fun t k => R5 t (by
   refine XS.istore X0.here hx rfl (hb hby d15_5) rfl (l' := (fA21 iv_ oR p3)) rfl ?_
   refine XS.lloadN X0.here hx rfl (hb hby d15_7) rfl ?_
   refine XS.l2i X0.here hx rfl (hb hby d15_8) rfl ?_
   exact k)
  have R7 : own_R p e below s₁ (mkF m 9 (fA21 iv_ oR p3) [(.int 256)]) s₁ f0 := by have q := R6; rw [((by decide) : ((256 : Int64).toInt32) = (256 : Int32))] at q; exact q
  have R8 : own_R p e below s₁ (mkF m 16 (fA11 iv_ oR p3) [(.ref oR)]) s₁ f0 := fun t k => R7 t (by
   refine XS.sipush X0.here hx rfl (hb hby d15_9) ?_
   refine XS.isub X0.here hx rfl (hb hby d15_12) rfl ?_
   refine XS.istore X0.here hx rfl (hb hby d15_13) rfl (l' := (fA11 iv_ oR p3)) rfl ?_
   refine XS.aloadN X0.here hx rfl (hb hby d15_15) rfl rfl ?_
   exact k)
  obtain ⟨T9, X9, e9, R10⟩ := own_gF R8 X0 hx hZ hown (host := "") (Or.inl (hU 40 _ rfl)) Via.refl e0 F_chunks_oR rfl rfl (hb hby d15_16)
  have R11 : own_R p e below T9 (mkF m 21 (fA11 iv_ oR p3) [(.int 0), (.ref ckR)]) s₁ f0 := fun t k => R10 t (by
   refine XS.iload X9.here hx rfl (hb hby d15_19) rfl ?_
   exact k)
  obtain ⟨cl12, Ar12, q12, S12, n12_, H12, G12⟩ := id A_ckR
  have hin12 : ¬ ((0 : Int32) < 0 ∨ cl12.slots.size ≤ ((0 : Int32)).toNatClampNeg) := inb_of S12 ⟨by decide, by decide⟩
  have hat12 : cl12.slots[((0 : Int32)).toNatClampNeg]? = some (.ref kkR) := Has.at H12 hin12 rfl
  have R13 : own_R p e below T9 (mkF m 22 (fA11 iv_ oR p3) [(.ref kkR)]) s₁ f0 := fun t k => R11 t (X9.aaload hx (j := (0 : Int32)) (v := (.ref kkR)) (by rw [e9]; exact Ar12.1) (State.isArrayOf_alike hZ.alike Ar12.2.1) rfl Ar12.2.2 hin12 hat12 (g := (mkF m 21 (fA11 iv_ oR p3) [(.int 0), (.ref ckR)])) rfl rfl (hb hby d15_21) _ k)
  have R14 : own_R p e below T9 (mkF m 26 (fA22 iv_ kkR oR p3) [(.ref kkR)]) s₁ f0 := fun t k => R13 t (by
   refine XS.astore X9.here hx rfl (hb hby d15_22) rfl rfl (l' := (fA22 iv_ kkR oR p3)) rfl ?_
   refine XS.aload X9.here hx rfl (hb hby d15_24) rfl rfl ?_
   exact k)
  obtain ⟨T15, X15, e15, R16⟩ := own_gF R14 X9 hx hZ hown (Or.inr (hU 63 _ rfl)) Via.refl e9 lt_F_size_kkR rfl rfl (hb hby d15_26)
  have R17 : own_R p e below T15 (mkF m 104 (fA22 iv_ kkR oR p3) [(.ref kkR)]) s₁ f0 := fun t k => R16 t (by
   refine XS.sipush X15.here hx rfl (hb hby d15_29) ?_
   refine XS.icmpYes X15.here hx rfl (pc0 := 32) (pc' := 102) rfl (hb hby d15_32) rfl (feq (by decide : ¬ ((0 : Int32) = (256 : Int32)))).2 (by decide) (by decide) ?_
   refine XS.aload X15.here hx rfl (hb hby d15_102) rfl rfl ?_
   exact k)
  obtain ⟨T18, X18, e18, R19⟩ := own_gF R17 X15 hx hZ hown (Or.inr (hU 63 _ rfl)) Via.refl e15 lt_F_size_kkR rfl rfl (hb hby d15_104)
  have R20 : own_R p e below T18 (mkF m 114 (fA1 iv_ kkR oR p3) [(.ref kkR)]) s₁ f0 := fun t k => R19 t (by
   refine XS.iload X18.here hx rfl (hb hby d15_107) rfl ?_
   refine XS.isub X18.here hx rfl (hb hby d15_109) rfl ?_
   refine XS.istore X18.here hx rfl (hb hby d15_110) rfl (l' := (fA1 iv_ kkR oR p3)) rfl ?_
   refine XS.aload X18.here hx rfl (hb hby d15_112) rfl rfl ?_
   exact k)
  obtain ⟨T21, X21, e21, R22⟩ := own_gF R20 X18 hx hZ hown (Or.inr (hU 106 _ rfl)) Via.refl e18 F_starts_kkR rfl rfl (hb hby d15_114)
  have R23 : own_R p e below T21 (mkF m 121 (fA1 iv_ kkR oR p3) [(.ref kkR), (.int 0), (.ref saR)]) s₁ f0 := fun t k => R22 t (by
   refine XS.iload X21.here hx rfl (hb hby d15_117) rfl ?_
   refine XS.aload X21.here hx rfl (hb hby d15_119) rfl rfl ?_
   exact k)
  obtain ⟨T24, X24, e24, R25⟩ := own_gF R23 X21 hx hZ hown (Or.inr (hU 106 _ rfl)) Via.refl e21 F_starts_kkR rfl rfl (hb hby d15_121)
  have R26 : own_R p e below T24 (mkF m 130 (fA1 iv_ kkR oR p3) [(.int 0), (.int 1), (.ref saR), (.int 0), (.ref saR)]) s₁ f0 := fun t k => R25 t (by
   refine XS.iload X24.here hx rfl (hb hby d15_124) rfl ?_
   refine XS.iconst X24.here hx rfl (hb hby d15_126) ?_
   refine XS.iadd X24.here hx rfl (hb hby d15_127) rfl ?_
   refine XS.iload X24.here hx rfl (hb hby d15_128) rfl ?_
   exact k)
  obtain ⟨T27, h27, L27, X27, e27, N27, Kc27, v27_, st27⟩ := cpA X24 hx hZ hown (hU 107 _ rfl) (hU 110 _ rfl) (hU 108 _ rfl) (hU 109 _ rfl) e24 lt_A_saR lt_A_saR (us := []) (Or.inl ⟨rfl, rfl⟩) (by decide) (by decide) (by decide) (by decide) (by decide) rfl (Nat.le_of_ble_eq_true rfl) N0 g_saR (g := (mkF m 130 (fA1 iv_ kkR oR p3) [(.int 0), (.int 1), (.ref saR), (.int 0), (.ref saR)])) rfl (by rw [hml]; rfl) rfl (hb hby d15_130) (by decide) (W := 0) (Nat.le_of_eq rfl) (by decide)
  have f27_E_oR := E_oR.keep Kc27
  have f27_F_firsts_oR := F_firsts_oR.keep Kc27 (ninS (Exa.neArv E_oR lt_A_saR (hU 10 _ rfl)) nin0)
  have f27_F_withItems_oR := F_withItems_oR.keep Kc27 (ninS (Exa.neArv E_oR lt_A_saR (hU 10 _ rfl)) nin0)
  have f27_E_kkR := E_kkR.keep Kc27
  have f27_F_size_kkR := lt_F_size_kkR.keep Kc27 (ninS (Exa.neArv E_kkR lt_A_saR (hU 25 _ rfl)) nin0)
  have f27_F_starts_kkR := F_starts_kkR.keep Kc27 (ninS (Exa.neArv E_kkR lt_A_saR (hU 25 _ rfl)) nin0)
  have f27_A_fiR := lt_A_fiR.keep Kc27 (ninS ne_fiR_saR nin0)
  have f27_F_ends_kkR := F_ends_kkR.keep Kc27 (ninS (Exa.neArv E_kkR lt_A_saR (hU 25 _ rfl)) nin0)
  have f27_F_items_kkR := F_items_kkR.keep Kc27 (ninS (Exa.neArv E_kkR lt_A_saR (hU 25 _ rfl)) nin0)
  have f27_A_enR := lt_A_enR.keep Kc27 (ninS (Ne.symm ne_saR_enR) nin0)
  have f27_A_itR := lt_A_itR.keep Kc27 (ninS (Ne.symm ne_saR_itR) nin0)
  have f27_E_iv_ := E_iv_.keep Kc27
  have z27 : n0 ≤ h27.size := Nat.le_trans Z0 Kc27.1
  have K27 : Keep h0 h27 [saR, enR, itR, kkR, fiR] := (Keep.refl h0 [saR, enR, itR, kkR, fiR]).trans Kc27 (allS (Or.inl (List.mem_of_getElem? (i := 0) rfl)) all0)
  have v27 : Arv Z h27 saR kstR .int 256 [(.int 0), (.int 0), (.int 0)] (.int 0) := v27_
  have R28 := fun t k => R26 t (st27 t k)
  have R29 : own_R p e below T27 (mkF m 135 (fA1 iv_ kkR oR p3) [(.ref kkR)]) s₁ f0 := fun t k => R28 t (by
   refine XS.aload X27.here hx rfl (hb hby d15_133) rfl rfl ?_
   exact k)
  obtain ⟨T30, X30, e30, R31⟩ := own_gF R29 X27 hx hZ hown (Or.inr (hU 106 _ rfl)) Via.refl e27 f27_F_starts_kkR rfl rfl (hb hby d15_135)
  have R32 : own_R p e below T30 (mkF m 141 (fA1 iv_ kkR oR p3) [(.int p3), (.int 0), (.ref saR)]) s₁ f0 := fun t k => R31 t (by
   refine XS.iload X30.here hx rfl (hb hby d15_138) rfl ?_
   refine XS.iloadN X30.here hx rfl (hb hby d15_140) rfl ?_
   exact k)
  obtain ⟨cl33, Ar33, q33, S33, n33_, H33, G33⟩ := id v27
  have hin33 : ¬ ((0 : Int32) < 0 ∨ cl33.slots.size ≤ ((0 : Int32)).toNatClampNeg) := inb_of S33 ⟨by decide, by decide⟩
  obtain ⟨T33, h33, X33, e33, W33, st33⟩ := stI X30 hx hZ e30 Ar33 (j := (0 : Int32)) hin33 (g := (mkF m 141 (fA1 iv_ kkR oR p3) [(.int p3), (.int 0), (.ref saR)])) rfl rfl (hb hby d15_141)
  have f33_E_oR := f27_E_oR.wr W33
  have f33_F_firsts_oR := f27_F_firsts_oR.other W33 (Or.inl (Exa.neArv f27_E_oR v27 (hU 10 _ rfl)))
  have f33_F_withItems_oR := f27_F_withItems_oR.other W33 (Or.inl (Exa.neArv f27_E_oR v27 (hU 10 _ rfl)))
  have f33_E_kkR := f27_E_kkR.wr W33
  have f33_F_size_kkR := f27_F_size_kkR.other W33 (Or.inl (Exa.neArv f27_E_kkR v27 (hU 25 _ rfl)))
  have f33_F_starts_kkR := f27_F_starts_kkR.other W33 (Or.inl (Exa.neArv f27_E_kkR v27 (hU 25 _ rfl)))
  have f33_A_fiR := f27_A_fiR.other W33 ne_fiR_saR
  have f33_F_ends_kkR := f27_F_ends_kkR.other W33 (Or.inl (Exa.neArv f27_E_kkR v27 (hU 25 _ rfl)))
  have f33_F_items_kkR := f27_F_items_kkR.other W33 (Or.inl (Exa.neArv f27_E_kkR v27 (hU 25 _ rfl)))
  have f33_A_enR := f27_A_enR.other W33 (Ne.symm ne_saR_enR)
  have f33_A_itR := f27_A_itR.other W33 (Ne.symm ne_saR_itR)
  have f33_E_iv_ := f27_E_iv_.wr W33
  have z33 : n0 ≤ h33.size := by rw [W33.size]; exact z27
  have K33 : Keep h0 h33 [saR, enR, itR, kkR, fiR] := K27.wr W33 (Or.inl (List.mem_of_getElem? (i := 0) rfl))
  have v33 : Arv Z h33 saR kstR .int 256 [(.int p3), (.int 0), (.int 0)] (.int 0) := Arv.set Ar33 q33 S33 n33_ H33 G33 rfl W33 0 rfl (Nat.le_of_ble_eq_true rfl)
  have N33 := Fr.snoc X33 N27 g_saR
  have R34 := fun t k => R32 t (st33 t k)
  have R35 : own_R p e below T33 (mkF m 143 (fA1 iv_ kkR oR p3) [(.ref oR)]) s₁ f0 := fun t k => R34 t (by
   refine XS.aloadN X33.here hx rfl (hb hby d15_142) rfl rfl ?_
   exact k)
  obtain ⟨T36, X36, e36, R37⟩ := own_gF R35 X33 hx hZ hown (host := "") (Or.inl (hU 21 _ rfl)) Via.refl e33 f33_F_withItems_oR rfl rfl (hb hby d15_143)
  have R38 : own_R p e below T36 (mkF m 151 (fA1 iv_ kkR oR p3) [(.ref kkR)]) s₁ f0 := fun t k => R37 t (by
   refine XS.ifNo X36.here hx rfl (hb hby d15_146) rfl ((if0 _ _).trans (feq (by decide : ¬ ((1 : Int32) = (0 : Int32)))).1) ?_
   refine XS.aload X36.here hx rfl (hb hby d15_149) rfl rfl ?_
   exact k)
  obtain ⟨T39, X39, e39, R40⟩ := own_gF R38 X36 hx hZ hown (Or.inr (hU 131 _ rfl)) Via.refl e36 f33_F_ends_kkR rfl rfl (hb hby d15_151)
  have R41 : own_R p e below T39 (mkF m 158 (fA1 iv_ kkR oR p3) [(.ref kkR), (.int 0), (.ref enR)]) s₁ f0 := fun t k => R40 t (by
   refine XS.iload X39.here hx rfl (hb hby d15_154) rfl ?_
   refine XS.aload X39.here hx rfl (hb hby d15_156) rfl rfl ?_
   exact k)
  obtain ⟨T42, X42, e42, R43⟩ := own_gF R41 X39 hx hZ hown (Or.inr (hU 131 _ rfl)) Via.refl e39 f33_F_ends_kkR rfl rfl (hb hby d15_158)
  have R44 : own_R p e below T42 (mkF m 167 (fA1 iv_ kkR oR p3) [(.int 0), (.int 1), (.ref enR), (.int 0), (.ref enR)]) s₁ f0 := fun t k => R43 t (by
   refine XS.iload X42.here hx rfl (hb hby d15_161) rfl ?_
   refine XS.iconst X42.here hx rfl (hb hby d15_163) ?_
   refine XS.iadd X42.here hx rfl (hb hby d15_164) rfl ?_
   refine XS.iload X42.here hx rfl (hb hby d15_165) rfl ?_
   exact k)
  obtain ⟨T45, h45, L45, X45, e45, N45, Kc45, v45_, st45⟩ := cpA X42 hx hZ hown (hU 107 _ rfl) (hU 110 _ rfl) (hU 108 _ rfl) (hU 109 _ rfl) e42 f33_A_enR f33_A_enR (us := []) (Or.inl ⟨rfl, rfl⟩) (by decide) (by decide) (by decide) (by decide) (by decide) rfl (Nat.le_of_ble_eq_true rfl) N33 g_enR (g := (mkF m 167 (fA1 iv_ kkR oR p3) [(.int 0), (.int 1), (.ref enR), (.int 0), (.ref enR)])) rfl (by rw [hml]; rfl) rfl (hb hby d15_167) (by decide) (W := 0) (Nat.le_of_eq rfl) (by decide)
  have f45_E_oR := f33_E_oR.keep Kc45
  have f45_F_firsts_oR := f33_F_firsts_oR.keep Kc45 (ninS (Exa.neArv f33_E_oR f33_A_enR (hU 10 _ rfl)) nin0)
  have f45_E_kkR := f33_E_kkR.keep Kc45
  have f45_F_size_kkR := f33_F_size_kkR.keep Kc45 (ninS (Exa.neArv f33_E_kkR f33_A_enR (hU 25 _ rfl)) nin0)
  have f45_F_starts_kkR := f33_F_starts_kkR.keep Kc45 (ninS (Exa.neArv f33_E_kkR f33_A_enR (hU 25 _ rfl)) nin0)
  have f45_A_fiR := f33_A_fiR.keep Kc45 (ninS ne_fiR_enR nin0)
  have f45_F_ends_kkR := f33_F_ends_kkR.keep Kc45 (ninS (Exa.neArv f33_E_kkR f33_A_enR (hU 25 _ rfl)) nin0)
  have f45_F_items_kkR := f33_F_items_kkR.keep Kc45 (ninS (Exa.neArv f33_E_kkR f33_A_enR (hU 25 _ rfl)) nin0)
  have f45_A_itR := f33_A_itR.keep Kc45 (ninS (Ne.symm ne_enR_itR) nin0)
  have f45_E_iv_ := f33_E_iv_.keep Kc45
  have f45_A_saR := v33.keep Kc45 (ninS ne_saR_enR nin0)
  have z45 : n0 ≤ h45.size := Nat.le_trans z33 Kc45.1
  have K45 : Keep h0 h45 [saR, enR, itR, kkR, fiR] := K33.trans Kc45 (allS (Or.inl (List.mem_of_getElem? (i := 1) rfl)) all0)
  have v45 : Arv Z h45 enR kenR .int 256 [(.int 0), (.int 0), (.int 0)] (.int 0) := v45_
  have R46 := fun t k => R44 t (st45 t k)
  have R47 : own_R p e below T45 (mkF m 172 (fA1 iv_ kkR oR p3) [(.ref kkR)]) s₁ f0 := fun t k => R46 t (by
   refine XS.aload X45.here hx rfl (hb hby d15_170) rfl rfl ?_
   exact k)
  obtain ⟨T48, X48, e48, R49⟩ := own_gF R47 X45 hx hZ hown (Or.inr (hU 132 _ rfl)) Via.refl e45 f45_F_items_kkR rfl rfl (hb hby d15_172)
  have R50 : own_R p e below T48 (mkF m 179 (fA1 iv_ kkR oR p3) [(.ref kkR), (.int 0), (.ref itR)]) s₁ f0 := fun t k => R49 t (by
   refine XS.iload X48.here hx rfl (hb hby d15_175) rfl ?_
   refine XS.aload X48.here hx rfl (hb hby d15_177) rfl rfl ?_
   exact k)
  obtain ⟨T51, X51, e51, R52⟩ := own_gF R50 X48 hx hZ hown (Or.inr (hU 132 _ rfl)) Via.refl e48 f45_F_items_kkR rfl rfl (hb hby d15_179)
  have R53 : own_R p e below T51 (mkF m 188 (fA1 iv_ kkR oR p3) [(.int 0), (.int 1), (.ref itR), (.int 0), (.ref itR)]) s₁ f0 := fun t k => R52 t (by
   refine XS.iload X51.here hx rfl (hb hby d15_182) rfl ?_
   refine XS.iconst X51.here hx rfl (hb hby d15_184) ?_
   refine XS.iadd X51.here hx rfl (hb hby d15_185) rfl ?_
   refine XS.iload X51.here hx rfl (hb hby d15_186) rfl ?_
   exact k)
  obtain ⟨T54, h54, L54, X54, e54, N54, Kc54, v54_, st54⟩ := cpA X51 hx hZ hown (hU 107 _ rfl) (hU 110 _ rfl) (hU 108 _ rfl) (hU 109 _ rfl) e51 f45_A_itR f45_A_itR (us := []) (Or.inr ⟨rfl, rfl, trivial⟩) (by decide) (by decide) (by decide) (by decide) (by decide) rfl (Nat.le_of_ble_eq_true rfl) N45 g_itR (g := (mkF m 188 (fA1 iv_ kkR oR p3) [(.int 0), (.int 1), (.ref itR), (.int 0), (.ref itR)])) rfl (by rw [hml]; rfl) rfl (hb hby d15_188) (by decide) (W := 0) (Nat.le_of_eq rfl) (by decide)
  have f54_E_oR := f45_E_oR.keep Kc54
  have f54_F_firsts_oR := f45_F_firsts_oR.keep Kc54 (ninS (Exa.neArv f45_E_oR f45_A_itR (hU 10 _ rfl)) nin0)
  have f54_E_kkR := f45_E_kkR.keep Kc54
  have f54_F_size_kkR := f45_F_size_kkR.keep Kc54 (ninS (Exa.neArv f45_E_kkR f45_A_itR (hU 25 _ rfl)) nin0)
  have f54_F_starts_kkR := f45_F_starts_kkR.keep Kc54 (ninS (Exa.neArv f45_E_kkR f45_A_itR (hU 25 _ rfl)) nin0)
  have f54_A_fiR := f45_A_fiR.keep Kc54 (ninS ne_fiR_itR nin0)
  have f54_F_ends_kkR := f45_F_ends_kkR.keep Kc54 (ninS (Exa.neArv f45_E_kkR f45_A_itR (hU 25 _ rfl)) nin0)
  have f54_F_items_kkR := f45_F_items_kkR.keep Kc54 (ninS (Exa.neArv f45_E_kkR f45_A_itR (hU 25 _ rfl)) nin0)
  have f54_E_iv_ := f45_E_iv_.keep Kc54
  have f54_A_saR := f45_A_saR.keep Kc54 (ninS ne_saR_itR nin0)
  have f54_A_enR := v45.keep Kc54 (ninS ne_enR_itR nin0)
  have z54 : n0 ≤ h54.size := Nat.le_trans z45 Kc54.1
  have K54 : Keep h0 h54 [saR, enR, itR, kkR, fiR] := K45.trans Kc54 (allS (Or.inl (List.mem_of_getElem? (i := 2) rfl)) all0)
  have v54 : Arv Z h54 itR kitR (.object "java/lang/Object") (256 : Int32) [.null, .null, .null] .null := v54_
  have R55 := fun t k => R53 t (st54 t k)
  have R56 : own_R p e below T54 (mkF m 193 (fA1 iv_ kkR oR p3) [(.ref kkR)]) s₁ f0 := fun t k => R55 t (by
   refine XS.aload X54.here hx rfl (hb hby d15_191) rfl rfl ?_
   exact k)
  obtain ⟨T57, X57, e57, R58⟩ := own_gF R56 X54 hx hZ hown (Or.inr (hU 131 _ rfl)) Via.refl e54 f54_F_ends_kkR rfl rfl (hb hby d15_193)
  have R59 : own_R p e below T57 (mkF m 200 (fA1 iv_ kkR oR p3) [(.int (p3 + (1 : Int32))), (.int 0), (.ref enR)]) s₁ f0 := fun t k => R58 t (by
   refine XS.iload X57.here hx rfl (hb hby d15_196) rfl ?_
   refine XS.iload X57.here hx rfl (hb hby d15_198) rfl ?_
   exact k)
  obtain ⟨cl60, Ar60, q60, S60, n60_, H60, G60⟩ := id f54_A_enR
  have hin60 : ¬ ((0 : Int32) < 0 ∨ cl60.slots.size ≤ ((0 : Int32)).toNatClampNeg) := inb_of S60 ⟨by decide, by decide⟩
  obtain ⟨T60, h60, X60, e60, W60, st60⟩ := stI X57 hx hZ e57 Ar60 (j := (0 : Int32)) hin60 (g := (mkF m 200 (fA1 iv_ kkR oR p3) [(.int (p3 + (1 : Int32))), (.int 0), (.ref enR)])) rfl rfl (hb hby d15_200)
  have f60_E_oR := f54_E_oR.wr W60
  have f60_F_firsts_oR := f54_F_firsts_oR.other W60 (Or.inl (Exa.neArv f54_E_oR f54_A_enR (hU 10 _ rfl)))
  have f60_E_kkR := f54_E_kkR.wr W60
  have f60_F_size_kkR := f54_F_size_kkR.other W60 (Or.inl (Exa.neArv f54_E_kkR f54_A_enR (hU 25 _ rfl)))
  have f60_F_starts_kkR := f54_F_starts_kkR.other W60 (Or.inl (Exa.neArv f54_E_kkR f54_A_enR (hU 25 _ rfl)))
  have f60_A_fiR := f54_A_fiR.other W60 ne_fiR_enR
  have f60_F_ends_kkR := f54_F_ends_kkR.other W60 (Or.inl (Exa.neArv f54_E_kkR f54_A_enR (hU 25 _ rfl)))
  have f60_F_items_kkR := f54_F_items_kkR.other W60 (Or.inl (Exa.neArv f54_E_kkR f54_A_enR (hU 25 _ rfl)))
  have f60_E_iv_ := f54_E_iv_.wr W60
  have f60_A_saR := f54_A_saR.other W60 ne_saR_enR
  have f60_A_itR := v54.other W60 (Ne.symm ne_enR_itR)
  have z60 : n0 ≤ h60.size := by rw [W60.size]; exact z54
  have K60 : Keep h0 h60 [saR, enR, itR, kkR, fiR] := K54.wr W60 (Or.inl (List.mem_of_getElem? (i := 1) rfl))
  have v60 : Arv Z h60 enR kenR .int 256 [(.int (p3 + (1 : Int32))), (.int 0), (.int 0)] (.int 0) := Arv.set Ar60 q60 S60 n60_ H60 G60 rfl W60 0 rfl (Nat.le_of_ble_eq_true rfl)
  have N60 := Fr.snoc X60 N54 g_enR
  have R61 := fun t k => R59 t (st60 t k)
  have R62 : own_R p e below T60 (mkF m 203 (fA1 iv_ kkR oR p3) [(.ref kkR)]) s₁ f0 := fun t k => R61 t (by
   refine XS.aload X60.here hx rfl (hb hby d15_201) rfl rfl ?_
   exact k)
  obtain ⟨T63, X63, e63, R64⟩ := own_gF R62 X60 hx hZ hown (Or.inr (hU 132 _ rfl)) Via.refl e60 f60_F_items_kkR rfl rfl (hb hby d15_203)
  have R65 : own_R p e below T63 (mkF m 210 (fA1 iv_ kkR oR p3) [(.ref iv_), (.int 0), (.ref itR)]) s₁ f0 := fun t k => R64 t (by
   refine XS.iload X63.here hx rfl (hb hby d15_206) rfl ?_
   refine XS.aload X63.here hx rfl (hb hby d15_208) rfl rfl ?_
   exact k)
  obtain ⟨cl66, Ar66, q66, S66, n66_, H66, G66⟩ := id f60_A_itR
  have hin66 : ¬ ((0 : Int32) < 0 ∨ cl66.slots.size ≤ ((0 : Int32)).toNatClampNeg) := inb_of S66 ⟨by decide, by decide⟩
  obtain ⟨T66, h66, X66, e66, W66, st66⟩ := stR X63 hx hZ e63 Ar66 (j := (0 : Int32)) hin66 rfl (Sto.ofV Ar66 q66 ovr_itR (Ins.of_exa f60_E_iv_ (hU 133 _ rfl))) (g := (mkF m 210 (fA1 iv_ kkR oR p3) [(.ref iv_), (.int 0), (.ref itR)])) rfl rfl (hb hby d15_210)
  have f66_E_oR := f60_E_oR.wr W66
  have f66_F_firsts_oR := f60_F_firsts_oR.other W66 (Or.inl (Exa.neArv f60_E_oR f60_A_itR (hU 10 _ rfl)))
  have f66_E_kkR := f60_E_kkR.wr W66
  have f66_F_size_kkR := f60_F_size_kkR.other W66 (Or.inl (Exa.neArv f60_E_kkR f60_A_itR (hU 25 _ rfl)))
  have f66_F_starts_kkR := f60_F_starts_kkR.other W66 (Or.inl (Exa.neArv f60_E_kkR f60_A_itR (hU 25 _ rfl)))
  have f66_A_fiR := f60_A_fiR.other W66 ne_fiR_itR
  have f66_F_ends_kkR := f60_F_ends_kkR.other W66 (Or.inl (Exa.neArv f60_E_kkR f60_A_itR (hU 25 _ rfl)))
  have f66_F_items_kkR := f60_F_items_kkR.other W66 (Or.inl (Exa.neArv f60_E_kkR f60_A_itR (hU 25 _ rfl)))
  have f66_E_iv_ := f60_E_iv_.wr W66
  have f66_A_saR := f60_A_saR.other W66 ne_saR_itR
  have f66_A_enR := v60.other W66 ne_enR_itR
  have z66 : n0 ≤ h66.size := by rw [W66.size]; exact z60
  have K66 : Keep h0 h66 [saR, enR, itR, kkR, fiR] := K60.wr W66 (Or.inl (List.mem_of_getElem? (i := 2) rfl))
  have v66 : Arv Z h66 itR kitR (.object "java/lang/Object") (256 : Int32) [(.ref iv_), .null, .null] .null := Arv.set Ar66 q66 S66 n66_ H66 G66 rfl W66 0 rfl (Nat.le_of_ble_eq_true rfl)
  have N66 := Fr.snoc X66 N60 g_itR
  have R67 := fun t k => R65 t (st66 t k)
  have R68 : own_R p e below T66 (mkF m 214 (fA1 iv_ kkR oR p3) [(.ref kkR), (.ref kkR)]) s₁ f0 := fun t k => R67 t (by
   refine XS.aload X66.here hx rfl (hb hby d15_211) rfl rfl ?_
   refine XS.dup X66.here hx rfl (hb hby d15_213) rfl rfl ?_
   exact k)
  obtain ⟨T69, X69, e69, R70⟩ := own_gF R68 X66 hx hZ hown (Or.inr (hU 63 _ rfl)) Via.refl e66 f66_F_size_kkR rfl rfl (hb hby d15_214)
  have R71 : own_R p e below T69 (mkF m 219 (fA1 iv_ kkR oR p3) [(.int 1), (.ref kkR)]) s₁ f0 := fun t k => R70 t (by
   refine XS.iconst X69.here hx rfl (hb hby d15_217) ?_
   refine XS.iadd X69.here hx rfl (hb hby d15_218) rfl ?_
   exact k)
  obtain ⟨T72, h72, X72, e72, W72, st72⟩ := putF X69 hx hZ hown (Or.inr (hU 63 _ rfl)) Via.refl e69 f66_F_size_kkR f66_E_kkR (Or.inl (hU 64 _ rfl)) (hU 25 _ rfl) (ty := .int) (by decide) rfl rfl (g := (mkF m 219 (fA1 iv_ kkR oR p3) [(.int 1), (.ref kkR)])) rfl rfl (hb hby d15_219)
  have fw72 : Fld Z h72 kkR sN0 "size" "I" (.int 1) := f66_F_size_kkR.same W72
  have f72_E_oR := f66_E_oR.wr W72
  have f72_F_firsts_oR := f66_F_firsts_oR.other W72 (Or.inl (Exa.ne f66_E_oR f66_E_kkR (by decide)))
  have f72_E_kkR := f66_E_kkR.wr W72
  have f72_F_starts_kkR := f66_F_starts_kkR.other W72 (Or.inr (slot_ne (Or.inr (hU 32 _ rfl)) (Or.inl (hU 64 _ rfl)) (by decide) (t := (.array .int)) (t' := .int) (by decide) (by decide)))
  have f72_A_fiR := f66_A_fiR.other W72 (Ne.symm (Exa.neArv f66_E_kkR f66_A_fiR (hU 25 _ rfl)))
  have f72_F_ends_kkR := f66_F_ends_kkR.other W72 (Or.inr (slot_ne (Or.inr (hU 34 _ rfl)) (Or.inl (hU 64 _ rfl)) (by decide) (t := (.array .int)) (t' := .int) (by decide) (by decide)))
  have f72_F_items_kkR := f66_F_items_kkR.other W72 (Or.inr (slot_ne (Or.inr (hU 38 _ rfl)) (Or.inl (hU 64 _ rfl)) (by decide) (t := (.array (.object "java/lang/Object"))) (t' := .int) (by decide) (by decide)))
  have f72_E_iv_ := f66_E_iv_.wr W72
  have f72_A_saR := f66_A_saR.other W72 (Ne.symm (Exa.neArv f66_E_kkR f66_A_saR (hU 25 _ rfl)))
  have f72_A_enR := f66_A_enR.other W72 (Ne.symm (Exa.neArv f66_E_kkR f66_A_enR (hU 25 _ rfl)))
  have f72_A_itR := v66.other W72 (Ne.symm (Exa.neArv f66_E_kkR v66 (hU 25 _ rfl)))
  have z72 : n0 ≤ h72.size := by rw [W72.size]; exact z66
  have K72 : Keep h0 h72 [saR, enR, itR, kkR, fiR] := K66.wr W72 (Or.inl (List.mem_of_getElem? (i := 3) rfl))
  have N72 := Fr.snoc X72 N66 g_kkR
  have R73 := fun t k => R71 t (st72 t k)
  have R74 : own_R p e below T72 (mkF m 223 (fA1 iv_ kkR oR p3) [(.ref oR)]) s₁ f0 := fun t k => R73 t (by
   refine XS.aloadN X72.here hx rfl (hb hby d15_222) rfl rfl ?_
   exact k)
  obtain ⟨T75, X75, e75, R76⟩ := own_gF R74 X72 hx hZ hown (host := "") (Or.inl (hU 17 _ rfl)) Via.refl e72 f72_F_firsts_oR rfl rfl (hb hby d15_223)
  have R77 : own_R p e below T75 (mkF m 230 (fA1 iv_ kkR oR p3) [(.ref kkR), (.int 0), (.ref fiR)]) s₁ f0 := fun t k => R76 t (by
   refine XS.iload X75.here hx rfl (hb hby d15_226) rfl ?_
   refine XS.aload X75.here hx rfl (hb hby d15_228) rfl rfl ?_
   exact k)
  obtain ⟨T78, X78, e78, R79⟩ := own_gF R77 X75 hx hZ hown (Or.inr (hU 106 _ rfl)) Via.refl e75 f72_F_starts_kkR rfl rfl (hb hby d15_230)
  have R80 : own_R p e below T78 (mkF m 234 (fA1 iv_ kkR oR p3) [(.int 0), (.ref saR), (.int 0), (.ref fiR)]) s₁ f0 := fun t k => R79 t (by
   refine XS.iconst X78.here hx rfl (hb hby d15_233) ?_
   exact k)
  obtain ⟨cl81, Ar81, q81, S81, n81_, H81, G81⟩ := id f72_A_saR
  have hin81 : ¬ ((0 : Int32) < 0 ∨ cl81.slots.size ≤ ((0 : Int32)).toNatClampNeg) := inb_of S81 ⟨by decide, by decide⟩
  have hat81 : cl81.slots[((0 : Int32)).toNatClampNeg]? = some (.int p3) := Has.at H81 hin81 rfl
  have R82 : own_R p e below T78 (mkF m 235 (fA1 iv_ kkR oR p3) [(.int p3), (.int 0), (.ref fiR)]) s₁ f0 := fun t k => R80 t (X78.iaload hx (j := (0 : Int32)) (v := (.int p3)) (by rw [e78]; exact Ar81.1) (State.isArrayOf_alike hZ.alike Ar81.2.1) Ar81.2.2 hin81 hat81 (g := (mkF m 234 (fA1 iv_ kkR oR p3) [(.int 0), (.ref saR), (.int 0), (.ref fiR)])) rfl rfl (hb hby d15_234) _ k)
  obtain ⟨cl83, Ar83, q83, S83, n83_, H83, G83⟩ := id f72_A_fiR
  have hin83 : ¬ ((0 : Int32) < 0 ∨ cl83.slots.size ≤ ((0 : Int32)).toNatClampNeg) := inb_of S83 ⟨by decide, by decide⟩
  obtain ⟨T83, h83, X83, e83, W83, st83⟩ := stI X78 hx hZ e78 Ar83 (j := (0 : Int32)) hin83 (g := (mkF m 235 (fA1 iv_ kkR oR p3) [(.int p3), (.int 0), (.ref fiR)])) rfl rfl (hb hby d15_235)
  have f83_E_oR := f72_E_oR.wr W83
  have f83_F_firsts_oR := f72_F_firsts_oR.other W83 (Or.inl (Exa.neArv f72_E_oR f72_A_fiR (hU 10 _ rfl)))
  have f83_E_kkR := f72_E_kkR.wr W83
  have f83_F_size_kkR := fw72.other W83 (Or.inl (Exa.neArv f72_E_kkR f72_A_fiR (hU 25 _ rfl)))
  have f83_F_starts_kkR := f72_F_starts_kkR.other W83 (Or.inl (Exa.neArv f72_E_kkR f72_A_fiR (hU 25 _ rfl)))
  have f83_F_ends_kkR := f72_F_ends_kkR.other W83 (Or.inl (Exa.neArv f72_E_kkR f72_A_fiR (hU 25 _ rfl)))
  have f83_F_items_kkR := f72_F_items_kkR.other W83 (Or.inl (Exa.neArv f72_E_kkR f72_A_fiR (hU 25 _ rfl)))
  have f83_E_iv_ := f72_E_iv_.wr W83
  have f83_A_saR := f72_A_saR.other W83 (Ne.symm ne_fiR_saR)
  have f83_A_enR := f72_A_enR.other W83 (Ne.symm ne_fiR_enR)
  have f83_A_itR := f72_A_itR.other W83 (Ne.symm ne_fiR_itR)
  have z83 : n0 ≤ h83.size := by rw [W83.size]; exact z72
  have K83 : Keep h0 h83 [saR, enR, itR, kkR, fiR] := K72.wr W83 (Or.inl (List.mem_of_getElem? (i := 4) rfl))
  have v83 : Arv Z h83 fiR kfiR .int 1 [(.int p3)] (.int 0) := Arv.set Ar83 q83 S83 n83_ H83 G83 rfl W83 0 rfl (Nat.le_of_ble_eq_true rfl)
  have N83 := Fr.snoc X83 N72 g_fiR
  have R84 := fun t k => R82 t (st83 t k)
  have ei : own_ins p3 [] = [p3] := own_in0_0 p3
  obtain ⟨fs, hr, hrun, hended, hW, hsame⟩ := X83.leave (v := none) (fun _ => rfl)
  refine ⟨_, _, pre0 _ (R84 _ ?_), hrun, hended, _, _, rfl, ?_, ⟨_, rfl⟩, hW, hsame.mono (by decide) (by decide)⟩
  ·
   show own_S p e below T83 (mkF m 236 (fA1 iv_ kkR oR p3) []) _
   exact X83.returnOut hx Bd.returns (hb hby d15_236) hr
  ·
   show Q_rmOi1 Z oR p3 iv_ ckR kckR kkR fiR kfiR saR kstR enR kenR itR kitR [] h0 n0 _ T83.heap _
   rw [e83]
   exact ⟨rfl, N83, K83, (by rw [ei]; exact f83_F_size_kkR), f83_F_starts_kkR, (by rw [ei]; exact v83), (by rw [ei]; exact f83_A_saR), f83_F_ends_kkR, f83_F_items_kkR, (by rw [ei]; exact f83_A_enR), (by rw [ei]; exact f83_A_itR)⟩
 ·
  have lt_F_size_kkR : Fld Z h0 kkR sN0 "size" "I" (.int 1) := F_size_kkR
  have lt_A_fiR : Arv Z h0 fiR kfiR .int 1 [(.int xa)] (.int 0) := A_fiR
  have lt_A_saR : Arv Z h0 saR kstR .int 256 [(.int xa), (.int 0), (.int 0)] (.int 0) := A_saR
  have lt_A_enR : Arv Z h0 enR kenR .int 256 [(.int (xa + (1 : Int32))), (.int 0), (.int 0)] (.int 0) := A_enR
  have lt_A_itR : Arv Z h0 itR kitR (.object "java/lang/Object") (256 : Int32) [(.ref iv_), .null, .null] .null := A_itR
  rcases own_q1 hq with ho0 | ho0
  ·
   have R85 : own_R p e below s₁ (mkF m 0 (fA10 iv_ oR p3) []) s₁ f0 := by have q := R0; rw [((own_pe1_0 ho0) : (own_p [xa] p3) = (256 : Int64))] at q; exact q
   have R86 : own_R p e below s₁ (mkF m 4 (fA10 iv_ oR p3) [(.long (((256 : Int64).toUInt64 >>> ((32 : Int32) &&& 0x3f).toInt64.toUInt64).toInt64))]) s₁ f0 := fun t k => R85 t (by
    refine XS.lloadN X0.here hx rfl (hb hby d15_0) rfl ?_
    refine XS.bipush X0.here hx rfl (hb hby d15_1) ?_
    refine XS.lushr X0.here hx rfl (hb hby d15_3) rfl ?_
    exact k)
   have R87 : own_R p e below s₁ (mkF m 4 (fA10 iv_ oR p3) [(.long (0 : Int64))]) s₁ f0 := by have q := R86; rw [((by decide) : (((256 : Int64).toUInt64 >>> ((32 : Int32) &&& 0x3f).toInt64.toUInt64).toInt64) = (0 : Int64))] at q; exact q
   have R88 : own_R p e below s₁ (mkF m 5 (fA10 iv_ oR p3) [(.int ((0 : Int64).toInt32))]) s₁ f0 := fun t k => R87 t (by
    refine XS.l2i X0.here hx rfl (hb hby d15_4) rfl ?_
    exact k)
   have R89 : own_R p e below s₁ (mkF m 5 (fA10 iv_ oR p3) [(.int 0)]) s₁ f0 := by have q := R88; rw [((by decide) : ((0 : Int64).toInt32) = (0 : Int32))] at q; exact q
   have R90 : own_R p e below s₁ (mkF m 9 (fA21 iv_ oR p3) [(.int ((256 : Int64).toInt32))]) s₁ f0 := fun t k => R89 t (by
    refine XS.istore X0.here hx rfl (hb hby d15_5) rfl (l' := (fA21 iv_ oR p3)) rfl ?_
    refine XS.lloadN X0.here hx rfl (hb hby d15_7) rfl ?_
    refine XS.l2i X0.here hx rfl (hb hby d15_8) rfl ?_
    exact k)
   have R91 : own_R p e below s₁ (mkF m 9 (fA21 iv_ oR p3) [(.int 256)]) s₁ f0 := by have q := R90; rw [((by decide) : ((256 : Int64).toInt32) = (256 : Int32))] at q; exact q
   have R92 : own_R p e below s₁ (mkF m 16 (fA11 iv_ oR p3) [(.ref oR)]) s₁ f0 := fun t k => R91 t (by
    refine XS.sipush X0.here hx rfl (hb hby d15_9) ?_
    refine XS.isub X0.here hx rfl (hb hby d15_12) rfl ?_
    refine XS.istore X0.here hx rfl (hb hby d15_13) rfl (l' := (fA11 iv_ oR p3)) rfl ?_
    refine XS.aloadN X0.here hx rfl (hb hby d15_15) rfl rfl ?_
    exact k)
   obtain ⟨T93, X93, e93, R94⟩ := own_gF R92 X0 hx hZ hown (host := "") (Or.inl (hU 40 _ rfl)) Via.refl e0 F_chunks_oR rfl rfl (hb hby d15_16)
   have R95 : own_R p e below T93 (mkF m 21 (fA11 iv_ oR p3) [(.int 0), (.ref ckR)]) s₁ f0 := fun t k => R94 t (by
    refine XS.iload X93.here hx rfl (hb hby d15_19) rfl ?_
    exact k)
   obtain ⟨cl96, Ar96, q96, S96, n96_, H96, G96⟩ := id A_ckR
   have hin96 : ¬ ((0 : Int32) < 0 ∨ cl96.slots.size ≤ ((0 : Int32)).toNatClampNeg) := inb_of S96 ⟨by decide, by decide⟩
   have hat96 : cl96.slots[((0 : Int32)).toNatClampNeg]? = some (.ref kkR) := Has.at H96 hin96 rfl
   have R97 : own_R p e below T93 (mkF m 22 (fA11 iv_ oR p3) [(.ref kkR)]) s₁ f0 := fun t k => R95 t (X93.aaload hx (j := (0 : Int32)) (v := (.ref kkR)) (by rw [e93]; exact Ar96.1) (State.isArrayOf_alike hZ.alike Ar96.2.1) rfl Ar96.2.2 hin96 hat96 (g := (mkF m 21 (fA11 iv_ oR p3) [(.int 0), (.ref ckR)])) rfl rfl (hb hby d15_21) _ k)
   have R98 : own_R p e below T93 (mkF m 26 (fA22 iv_ kkR oR p3) [(.ref kkR)]) s₁ f0 := fun t k => R97 t (by
    refine XS.astore X93.here hx rfl (hb hby d15_22) rfl rfl (l' := (fA22 iv_ kkR oR p3)) rfl ?_
    refine XS.aload X93.here hx rfl (hb hby d15_24) rfl rfl ?_
    exact k)
   obtain ⟨T99, X99, e99, R100⟩ := own_gF R98 X93 hx hZ hown (Or.inr (hU 63 _ rfl)) Via.refl e93 lt_F_size_kkR rfl rfl (hb hby d15_26)
   have R101 : own_R p e below T99 (mkF m 104 (fA22 iv_ kkR oR p3) [(.ref kkR)]) s₁ f0 := fun t k => R100 t (by
    refine XS.sipush X99.here hx rfl (hb hby d15_29) ?_
    refine XS.icmpYes X99.here hx rfl (pc0 := 32) (pc' := 102) rfl (hb hby d15_32) rfl (feq (by decide : ¬ ((1 : Int32) = (256 : Int32)))).2 (by decide) (by decide) ?_
    refine XS.aload X99.here hx rfl (hb hby d15_102) rfl rfl ?_
    exact k)
   obtain ⟨T102, X102, e102, R103⟩ := own_gF R101 X99 hx hZ hown (Or.inr (hU 63 _ rfl)) Via.refl e99 lt_F_size_kkR rfl rfl (hb hby d15_104)
   have R104 : own_R p e below T102 (mkF m 114 (fA2 iv_ kkR oR p3) [(.ref kkR)]) s₁ f0 := fun t k => R103 t (by
    refine XS.iload X102.here hx rfl (hb hby d15_107) rfl ?_
    refine XS.isub X102.here hx rfl (hb hby d15_109) rfl ?_
    refine XS.istore X102.here hx rfl (hb hby d15_110) rfl (l' := (fA2 iv_ kkR oR p3)) rfl ?_
    refine XS.aload X102.here hx rfl (hb hby d15_112) rfl rfl ?_
    exact k)
   obtain ⟨T105, X105, e105, R106⟩ := own_gF R104 X102 hx hZ hown (Or.inr (hU 106 _ rfl)) Via.refl e102 F_starts_kkR rfl rfl (hb hby d15_114)
   have R107 : own_R p e below T105 (mkF m 121 (fA2 iv_ kkR oR p3) [(.ref kkR), (.int 0), (.ref saR)]) s₁ f0 := fun t k => R106 t (by
    refine XS.iload X105.here hx rfl (hb hby d15_117) rfl ?_
    refine XS.aload X105.here hx rfl (hb hby d15_119) rfl rfl ?_
    exact k)
   obtain ⟨T108, X108, e108, R109⟩ := own_gF R107 X105 hx hZ hown (Or.inr (hU 106 _ rfl)) Via.refl e105 F_starts_kkR rfl rfl (hb hby d15_121)
   have R110 : own_R p e below T108 (mkF m 130 (fA2 iv_ kkR oR p3) [(.int 1), (.int 1), (.ref saR), (.int 0), (.ref saR)]) s₁ f0 := fun t k => R109 t (by
    refine XS.iload X108.here hx rfl (hb hby d15_124) rfl ?_
    refine XS.iconst X108.here hx rfl (hb hby d15_126) ?_
    refine XS.iadd X108.here hx rfl (hb hby d15_127) rfl ?_
    refine XS.iload X108.here hx rfl (hb hby d15_128) rfl ?_
    exact k)
   obtain ⟨T111, h111, L111, X111, e111, N111, Kc111, v111_, st111⟩ := cpA X108 hx hZ hown (hU 107 _ rfl) (hU 110 _ rfl) (hU 108 _ rfl) (hU 109 _ rfl) e108 lt_A_saR lt_A_saR (us := [(.int xa)]) (Or.inl ⟨rfl, rfl⟩) (by decide) (by decide) (by decide) (by decide) (by decide) rfl (Nat.le_of_ble_eq_true rfl) N0 g_saR (g := (mkF m 130 (fA2 iv_ kkR oR p3) [(.int 1), (.int 1), (.ref saR), (.int 0), (.ref saR)])) rfl (by rw [hml]; rfl) rfl (hb hby d15_130) (by decide) (W := 0) (Nat.le_of_eq rfl) (by decide)
   have f111_E_oR := E_oR.keep Kc111
   have f111_F_firsts_oR := F_firsts_oR.keep Kc111 (ninS (Exa.neArv E_oR lt_A_saR (hU 10 _ rfl)) nin0)
   have f111_F_withItems_oR := F_withItems_oR.keep Kc111 (ninS (Exa.neArv E_oR lt_A_saR (hU 10 _ rfl)) nin0)
   have f111_E_kkR := E_kkR.keep Kc111
   have f111_F_size_kkR := lt_F_size_kkR.keep Kc111 (ninS (Exa.neArv E_kkR lt_A_saR (hU 25 _ rfl)) nin0)
   have f111_F_starts_kkR := F_starts_kkR.keep Kc111 (ninS (Exa.neArv E_kkR lt_A_saR (hU 25 _ rfl)) nin0)
   have f111_A_fiR := lt_A_fiR.keep Kc111 (ninS ne_fiR_saR nin0)
   have f111_F_ends_kkR := F_ends_kkR.keep Kc111 (ninS (Exa.neArv E_kkR lt_A_saR (hU 25 _ rfl)) nin0)
   have f111_F_items_kkR := F_items_kkR.keep Kc111 (ninS (Exa.neArv E_kkR lt_A_saR (hU 25 _ rfl)) nin0)
   have f111_A_enR := lt_A_enR.keep Kc111 (ninS (Ne.symm ne_saR_enR) nin0)
   have f111_A_itR := lt_A_itR.keep Kc111 (ninS (Ne.symm ne_saR_itR) nin0)
   have f111_E_iv_ := E_iv_.keep Kc111
   have z111 : n0 ≤ h111.size := Nat.le_trans Z0 Kc111.1
   have K111 : Keep h0 h111 [saR, enR, itR, kkR, fiR] := (Keep.refl h0 [saR, enR, itR, kkR, fiR]).trans Kc111 (allS (Or.inl (List.mem_of_getElem? (i := 0) rfl)) all0)
   have v111 : Arv Z h111 saR kstR .int 256 [(.int xa), (.int xa), (.int 0)] (.int 0) := v111_
   have R112 := fun t k => R110 t (st111 t k)
   have R113 : own_R p e below T111 (mkF m 135 (fA2 iv_ kkR oR p3) [(.ref kkR)]) s₁ f0 := fun t k => R112 t (by
    refine XS.aload X111.here hx rfl (hb hby d15_133) rfl rfl ?_
    exact k)
   obtain ⟨T114, X114, e114, R115⟩ := own_gF R113 X111 hx hZ hown (Or.inr (hU 106 _ rfl)) Via.refl e111 f111_F_starts_kkR rfl rfl (hb hby d15_135)
   have R116 : own_R p e below T114 (mkF m 141 (fA2 iv_ kkR oR p3) [(.int p3), (.int 0), (.ref saR)]) s₁ f0 := fun t k => R115 t (by
    refine XS.iload X114.here hx rfl (hb hby d15_138) rfl ?_
    refine XS.iloadN X114.here hx rfl (hb hby d15_140) rfl ?_
    exact k)
   obtain ⟨cl117, Ar117, q117, S117, n117_, H117, G117⟩ := id v111
   have hin117 : ¬ ((0 : Int32) < 0 ∨ cl117.slots.size ≤ ((0 : Int32)).toNatClampNeg) := inb_of S117 ⟨by decide, by decide⟩
   obtain ⟨T117, h117, X117, e117, W117, st117⟩ := stI X114 hx hZ e114 Ar117 (j := (0 : Int32)) hin117 (g := (mkF m 141 (fA2 iv_ kkR oR p3) [(.int p3), (.int 0), (.ref saR)])) rfl rfl (hb hby d15_141)
   have f117_E_oR := f111_E_oR.wr W117
   have f117_F_firsts_oR := f111_F_firsts_oR.other W117 (Or.inl (Exa.neArv f111_E_oR v111 (hU 10 _ rfl)))
   have f117_F_withItems_oR := f111_F_withItems_oR.other W117 (Or.inl (Exa.neArv f111_E_oR v111 (hU 10 _ rfl)))
   have f117_E_kkR := f111_E_kkR.wr W117
   have f117_F_size_kkR := f111_F_size_kkR.other W117 (Or.inl (Exa.neArv f111_E_kkR v111 (hU 25 _ rfl)))
   have f117_F_starts_kkR := f111_F_starts_kkR.other W117 (Or.inl (Exa.neArv f111_E_kkR v111 (hU 25 _ rfl)))
   have f117_A_fiR := f111_A_fiR.other W117 ne_fiR_saR
   have f117_F_ends_kkR := f111_F_ends_kkR.other W117 (Or.inl (Exa.neArv f111_E_kkR v111 (hU 25 _ rfl)))
   have f117_F_items_kkR := f111_F_items_kkR.other W117 (Or.inl (Exa.neArv f111_E_kkR v111 (hU 25 _ rfl)))
   have f117_A_enR := f111_A_enR.other W117 (Ne.symm ne_saR_enR)
   have f117_A_itR := f111_A_itR.other W117 (Ne.symm ne_saR_itR)
   have f117_E_iv_ := f111_E_iv_.wr W117
   have z117 : n0 ≤ h117.size := by rw [W117.size]; exact z111
   have K117 : Keep h0 h117 [saR, enR, itR, kkR, fiR] := K111.wr W117 (Or.inl (List.mem_of_getElem? (i := 0) rfl))
   have v117 : Arv Z h117 saR kstR .int 256 [(.int p3), (.int xa), (.int 0)] (.int 0) := Arv.set Ar117 q117 S117 n117_ H117 G117 rfl W117 0 rfl (Nat.le_of_ble_eq_true rfl)
   have N117 := Fr.snoc X117 N111 g_saR
   have R118 := fun t k => R116 t (st117 t k)
   have R119 : own_R p e below T117 (mkF m 143 (fA2 iv_ kkR oR p3) [(.ref oR)]) s₁ f0 := fun t k => R118 t (by
    refine XS.aloadN X117.here hx rfl (hb hby d15_142) rfl rfl ?_
    exact k)
   obtain ⟨T120, X120, e120, R121⟩ := own_gF R119 X117 hx hZ hown (host := "") (Or.inl (hU 21 _ rfl)) Via.refl e117 f117_F_withItems_oR rfl rfl (hb hby d15_143)
   have R122 : own_R p e below T120 (mkF m 151 (fA2 iv_ kkR oR p3) [(.ref kkR)]) s₁ f0 := fun t k => R121 t (by
    refine XS.ifNo X120.here hx rfl (hb hby d15_146) rfl ((if0 _ _).trans (feq (by decide : ¬ ((1 : Int32) = (0 : Int32)))).1) ?_
    refine XS.aload X120.here hx rfl (hb hby d15_149) rfl rfl ?_
    exact k)
   obtain ⟨T123, X123, e123, R124⟩ := own_gF R122 X120 hx hZ hown (Or.inr (hU 131 _ rfl)) Via.refl e120 f117_F_ends_kkR rfl rfl (hb hby d15_151)
   have R125 : own_R p e below T123 (mkF m 158 (fA2 iv_ kkR oR p3) [(.ref kkR), (.int 0), (.ref enR)]) s₁ f0 := fun t k => R124 t (by
    refine XS.iload X123.here hx rfl (hb hby d15_154) rfl ?_
    refine XS.aload X123.here hx rfl (hb hby d15_156) rfl rfl ?_
    exact k)
   obtain ⟨T126, X126, e126, R127⟩ := own_gF R125 X123 hx hZ hown (Or.inr (hU 131 _ rfl)) Via.refl e123 f117_F_ends_kkR rfl rfl (hb hby d15_158)
   have R128 : own_R p e below T126 (mkF m 167 (fA2 iv_ kkR oR p3) [(.int 1), (.int 1), (.ref enR), (.int 0), (.ref enR)]) s₁ f0 := fun t k => R127 t (by
    refine XS.iload X126.here hx rfl (hb hby d15_161) rfl ?_
    refine XS.iconst X126.here hx rfl (hb hby d15_163) ?_
    refine XS.iadd X126.here hx rfl (hb hby d15_164) rfl ?_
    refine XS.iload X126.here hx rfl (hb hby d15_165) rfl ?_
    exact k)
   obtain ⟨T129, h129, L129, X129, e129, N129, Kc129, v129_, st129⟩ := cpA X126 hx hZ hown (hU 107 _ rfl) (hU 110 _ rfl) (hU 108 _ rfl) (hU 109 _ rfl) e126 f117_A_enR f117_A_enR (us := [(.int (xa + (1 : Int32)))]) (Or.inl ⟨rfl, rfl⟩) (by decide) (by decide) (by decide) (by decide) (by decide) rfl (Nat.le_of_ble_eq_true rfl) N117 g_enR (g := (mkF m 167 (fA2 iv_ kkR oR p3) [(.int 1), (.int 1), (.ref enR), (.int 0), (.ref enR)])) rfl (by rw [hml]; rfl) rfl (hb hby d15_167) (by decide) (W := 0) (Nat.le_of_eq rfl) (by decide)
   have f129_E_oR := f117_E_oR.keep Kc129
   have f129_F_firsts_oR := f117_F_firsts_oR.keep Kc129 (ninS (Exa.neArv f117_E_oR f117_A_enR (hU 10 _ rfl)) nin0)
   have f129_E_kkR := f117_E_kkR.keep Kc129
   have f129_F_size_kkR := f117_F_size_kkR.keep Kc129 (ninS (Exa.neArv f117_E_kkR f117_A_enR (hU 25 _ rfl)) nin0)
   have f129_F_starts_kkR := f117_F_starts_kkR.keep Kc129 (ninS (Exa.neArv f117_E_kkR f117_A_enR (hU 25 _ rfl)) nin0)
   have f129_A_fiR := f117_A_fiR.keep Kc129 (ninS ne_fiR_enR nin0)
   have f129_F_ends_kkR := f117_F_ends_kkR.keep Kc129 (ninS (Exa.neArv f117_E_kkR f117_A_enR (hU 25 _ rfl)) nin0)
   have f129_F_items_kkR := f117_F_items_kkR.keep Kc129 (ninS (Exa.neArv f117_E_kkR f117_A_enR (hU 25 _ rfl)) nin0)
   have f129_A_itR := f117_A_itR.keep Kc129 (ninS (Ne.symm ne_enR_itR) nin0)
   have f129_E_iv_ := f117_E_iv_.keep Kc129
   have f129_A_saR := v117.keep Kc129 (ninS ne_saR_enR nin0)
   have z129 : n0 ≤ h129.size := Nat.le_trans z117 Kc129.1
   have K129 : Keep h0 h129 [saR, enR, itR, kkR, fiR] := K117.trans Kc129 (allS (Or.inl (List.mem_of_getElem? (i := 1) rfl)) all0)
   have v129 : Arv Z h129 enR kenR .int 256 [(.int (xa + (1 : Int32))), (.int (xa + (1 : Int32))), (.int 0)] (.int 0) := v129_
   have R130 := fun t k => R128 t (st129 t k)
   have R131 : own_R p e below T129 (mkF m 172 (fA2 iv_ kkR oR p3) [(.ref kkR)]) s₁ f0 := fun t k => R130 t (by
    refine XS.aload X129.here hx rfl (hb hby d15_170) rfl rfl ?_
    exact k)
   obtain ⟨T132, X132, e132, R133⟩ := own_gF R131 X129 hx hZ hown (Or.inr (hU 132 _ rfl)) Via.refl e129 f129_F_items_kkR rfl rfl (hb hby d15_172)
   have R134 : own_R p e below T132 (mkF m 179 (fA2 iv_ kkR oR p3) [(.ref kkR), (.int 0), (.ref itR)]) s₁ f0 := fun t k => R133 t (by
    refine XS.iload X132.here hx rfl (hb hby d15_175) rfl ?_
    refine XS.aload X132.here hx rfl (hb hby d15_177) rfl rfl ?_
    exact k)
   obtain ⟨T135, X135, e135, R136⟩ := own_gF R134 X132 hx hZ hown (Or.inr (hU 132 _ rfl)) Via.refl e132 f129_F_items_kkR rfl rfl (hb hby d15_179)
   have R137 : own_R p e below T135 (mkF m 188 (fA2 iv_ kkR oR p3) [(.int 1), (.int 1), (.ref itR), (.int 0), (.ref itR)]) s₁ f0 := fun t k => R136 t (by
    refine XS.iload X135.here hx rfl (hb hby d15_182) rfl ?_
    refine XS.iconst X135.here hx rfl (hb hby d15_184) ?_
    refine XS.iadd X135.here hx rfl (hb hby d15_185) rfl ?_
    refine XS.iload X135.here hx rfl (hb hby d15_186) rfl ?_
    exact k)
   obtain ⟨T138, h138, L138, X138, e138, N138, Kc138, v138_, st138⟩ := cpA X135 hx hZ hown (hU 107 _ rfl) (hU 110 _ rfl) (hU 108 _ rfl) (hU 109 _ rfl) e135 f129_A_itR f129_A_itR (us := [(.ref iv_)]) (Or.inr ⟨rfl, rfl, ⟨own_sto f129_A_itR ovr_itR (Ins.of_exa f129_E_iv_ (hU 133 _ rfl)), trivial⟩⟩) (by decide) (by decide) (by decide) (by decide) (by decide) rfl (Nat.le_of_ble_eq_true rfl) N129 g_itR (g := (mkF m 188 (fA2 iv_ kkR oR p3) [(.int 1), (.int 1), (.ref itR), (.int 0), (.ref itR)])) rfl (by rw [hml]; rfl) rfl (hb hby d15_188) (by decide) (W := 0) (Nat.le_of_eq rfl) (by decide)
   have f138_E_oR := f129_E_oR.keep Kc138
   have f138_F_firsts_oR := f129_F_firsts_oR.keep Kc138 (ninS (Exa.neArv f129_E_oR f129_A_itR (hU 10 _ rfl)) nin0)
   have f138_E_kkR := f129_E_kkR.keep Kc138
   have f138_F_size_kkR := f129_F_size_kkR.keep Kc138 (ninS (Exa.neArv f129_E_kkR f129_A_itR (hU 25 _ rfl)) nin0)
   have f138_F_starts_kkR := f129_F_starts_kkR.keep Kc138 (ninS (Exa.neArv f129_E_kkR f129_A_itR (hU 25 _ rfl)) nin0)
   have f138_A_fiR := f129_A_fiR.keep Kc138 (ninS ne_fiR_itR nin0)
   have f138_F_ends_kkR := f129_F_ends_kkR.keep Kc138 (ninS (Exa.neArv f129_E_kkR f129_A_itR (hU 25 _ rfl)) nin0)
   have f138_F_items_kkR := f129_F_items_kkR.keep Kc138 (ninS (Exa.neArv f129_E_kkR f129_A_itR (hU 25 _ rfl)) nin0)
   have f138_E_iv_ := f129_E_iv_.keep Kc138
   have f138_A_saR := f129_A_saR.keep Kc138 (ninS ne_saR_itR nin0)
   have f138_A_enR := v129.keep Kc138 (ninS ne_enR_itR nin0)
   have z138 : n0 ≤ h138.size := Nat.le_trans z129 Kc138.1
   have K138 : Keep h0 h138 [saR, enR, itR, kkR, fiR] := K129.trans Kc138 (allS (Or.inl (List.mem_of_getElem? (i := 2) rfl)) all0)
   have v138 : Arv Z h138 itR kitR (.object "java/lang/Object") (256 : Int32) [(.ref iv_), (.ref iv_), .null] .null := v138_
   have R139 := fun t k => R137 t (st138 t k)
   have R140 : own_R p e below T138 (mkF m 193 (fA2 iv_ kkR oR p3) [(.ref kkR)]) s₁ f0 := fun t k => R139 t (by
    refine XS.aload X138.here hx rfl (hb hby d15_191) rfl rfl ?_
    exact k)
   obtain ⟨T141, X141, e141, R142⟩ := own_gF R140 X138 hx hZ hown (Or.inr (hU 131 _ rfl)) Via.refl e138 f138_F_ends_kkR rfl rfl (hb hby d15_193)
   have R143 : own_R p e below T141 (mkF m 200 (fA2 iv_ kkR oR p3) [(.int (p3 + (1 : Int32))), (.int 0), (.ref enR)]) s₁ f0 := fun t k => R142 t (by
    refine XS.iload X141.here hx rfl (hb hby d15_196) rfl ?_
    refine XS.iload X141.here hx rfl (hb hby d15_198) rfl ?_
    exact k)
   obtain ⟨cl144, Ar144, q144, S144, n144_, H144, G144⟩ := id f138_A_enR
   have hin144 : ¬ ((0 : Int32) < 0 ∨ cl144.slots.size ≤ ((0 : Int32)).toNatClampNeg) := inb_of S144 ⟨by decide, by decide⟩
   obtain ⟨T144, h144, X144, e144, W144, st144⟩ := stI X141 hx hZ e141 Ar144 (j := (0 : Int32)) hin144 (g := (mkF m 200 (fA2 iv_ kkR oR p3) [(.int (p3 + (1 : Int32))), (.int 0), (.ref enR)])) rfl rfl (hb hby d15_200)
   have f144_E_oR := f138_E_oR.wr W144
   have f144_F_firsts_oR := f138_F_firsts_oR.other W144 (Or.inl (Exa.neArv f138_E_oR f138_A_enR (hU 10 _ rfl)))
   have f144_E_kkR := f138_E_kkR.wr W144
   have f144_F_size_kkR := f138_F_size_kkR.other W144 (Or.inl (Exa.neArv f138_E_kkR f138_A_enR (hU 25 _ rfl)))
   have f144_F_starts_kkR := f138_F_starts_kkR.other W144 (Or.inl (Exa.neArv f138_E_kkR f138_A_enR (hU 25 _ rfl)))
   have f144_A_fiR := f138_A_fiR.other W144 ne_fiR_enR
   have f144_F_ends_kkR := f138_F_ends_kkR.other W144 (Or.inl (Exa.neArv f138_E_kkR f138_A_enR (hU 25 _ rfl)))
   have f144_F_items_kkR := f138_F_items_kkR.other W144 (Or.inl (Exa.neArv f138_E_kkR f138_A_enR (hU 25 _ rfl)))
   have f144_E_iv_ := f138_E_iv_.wr W144
   have f144_A_saR := f138_A_saR.other W144 ne_saR_enR
   have f144_A_itR := v138.other W144 (Ne.symm ne_enR_itR)
   have z144 : n0 ≤ h144.size := by rw [W144.size]; exact z138
   have K144 : Keep h0 h144 [saR, enR, itR, kkR, fiR] := K138.wr W144 (Or.inl (List.mem_of_getElem? (i := 1) rfl))
   have v144 : Arv Z h144 enR kenR .int 256 [(.int (p3 + (1 : Int32))), (.int (xa + (1 : Int32))), (.int 0)] (.int 0) := Arv.set Ar144 q144 S144 n144_ H144 G144 rfl W144 0 rfl (Nat.le_of_ble_eq_true rfl)
   have N144 := Fr.snoc X144 N138 g_enR
   have R145 := fun t k => R143 t (st144 t k)
   have R146 : own_R p e below T144 (mkF m 203 (fA2 iv_ kkR oR p3) [(.ref kkR)]) s₁ f0 := fun t k => R145 t (by
    refine XS.aload X144.here hx rfl (hb hby d15_201) rfl rfl ?_
    exact k)
   obtain ⟨T147, X147, e147, R148⟩ := own_gF R146 X144 hx hZ hown (Or.inr (hU 132 _ rfl)) Via.refl e144 f144_F_items_kkR rfl rfl (hb hby d15_203)
   have R149 : own_R p e below T147 (mkF m 210 (fA2 iv_ kkR oR p3) [(.ref iv_), (.int 0), (.ref itR)]) s₁ f0 := fun t k => R148 t (by
    refine XS.iload X147.here hx rfl (hb hby d15_206) rfl ?_
    refine XS.aload X147.here hx rfl (hb hby d15_208) rfl rfl ?_
    exact k)
   obtain ⟨cl150, Ar150, q150, S150, n150_, H150, G150⟩ := id f144_A_itR
   have hin150 : ¬ ((0 : Int32) < 0 ∨ cl150.slots.size ≤ ((0 : Int32)).toNatClampNeg) := inb_of S150 ⟨by decide, by decide⟩
   obtain ⟨T150, h150, X150, e150, W150, st150⟩ := stR X147 hx hZ e147 Ar150 (j := (0 : Int32)) hin150 rfl (Sto.ofV Ar150 q150 ovr_itR (Ins.of_exa f144_E_iv_ (hU 133 _ rfl))) (g := (mkF m 210 (fA2 iv_ kkR oR p3) [(.ref iv_), (.int 0), (.ref itR)])) rfl rfl (hb hby d15_210)
   have f150_E_oR := f144_E_oR.wr W150
   have f150_F_firsts_oR := f144_F_firsts_oR.other W150 (Or.inl (Exa.neArv f144_E_oR f144_A_itR (hU 10 _ rfl)))
   have f150_E_kkR := f144_E_kkR.wr W150
   have f150_F_size_kkR := f144_F_size_kkR.other W150 (Or.inl (Exa.neArv f144_E_kkR f144_A_itR (hU 25 _ rfl)))
   have f150_F_starts_kkR := f144_F_starts_kkR.other W150 (Or.inl (Exa.neArv f144_E_kkR f144_A_itR (hU 25 _ rfl)))
   have f150_A_fiR := f144_A_fiR.other W150 ne_fiR_itR
   have f150_F_ends_kkR := f144_F_ends_kkR.other W150 (Or.inl (Exa.neArv f144_E_kkR f144_A_itR (hU 25 _ rfl)))
   have f150_F_items_kkR := f144_F_items_kkR.other W150 (Or.inl (Exa.neArv f144_E_kkR f144_A_itR (hU 25 _ rfl)))
   have f150_E_iv_ := f144_E_iv_.wr W150
   have f150_A_saR := f144_A_saR.other W150 ne_saR_itR
   have f150_A_enR := v144.other W150 ne_enR_itR
   have z150 : n0 ≤ h150.size := by rw [W150.size]; exact z144
   have K150 : Keep h0 h150 [saR, enR, itR, kkR, fiR] := K144.wr W150 (Or.inl (List.mem_of_getElem? (i := 2) rfl))
   have v150 : Arv Z h150 itR kitR (.object "java/lang/Object") (256 : Int32) [(.ref iv_), (.ref iv_), .null] .null := Arv.set Ar150 q150 S150 n150_ H150 G150 rfl W150 0 rfl (Nat.le_of_ble_eq_true rfl)
   have N150 := Fr.snoc X150 N144 g_itR
   have R151 := fun t k => R149 t (st150 t k)
   have R152 : own_R p e below T150 (mkF m 214 (fA2 iv_ kkR oR p3) [(.ref kkR), (.ref kkR)]) s₁ f0 := fun t k => R151 t (by
    refine XS.aload X150.here hx rfl (hb hby d15_211) rfl rfl ?_
    refine XS.dup X150.here hx rfl (hb hby d15_213) rfl rfl ?_
    exact k)
   obtain ⟨T153, X153, e153, R154⟩ := own_gF R152 X150 hx hZ hown (Or.inr (hU 63 _ rfl)) Via.refl e150 f150_F_size_kkR rfl rfl (hb hby d15_214)
   have R155 : own_R p e below T153 (mkF m 219 (fA2 iv_ kkR oR p3) [(.int 2), (.ref kkR)]) s₁ f0 := fun t k => R154 t (by
    refine XS.iconst X153.here hx rfl (hb hby d15_217) ?_
    refine XS.iadd X153.here hx rfl (hb hby d15_218) rfl ?_
    exact k)
   obtain ⟨T156, h156, X156, e156, W156, st156⟩ := putF X153 hx hZ hown (Or.inr (hU 63 _ rfl)) Via.refl e153 f150_F_size_kkR f150_E_kkR (Or.inl (hU 64 _ rfl)) (hU 25 _ rfl) (ty := .int) (by decide) rfl rfl (g := (mkF m 219 (fA2 iv_ kkR oR p3) [(.int 2), (.ref kkR)])) rfl rfl (hb hby d15_219)
   have fw156 : Fld Z h156 kkR sN0 "size" "I" (.int 2) := f150_F_size_kkR.same W156
   have f156_E_oR := f150_E_oR.wr W156
   have f156_F_firsts_oR := f150_F_firsts_oR.other W156 (Or.inl (Exa.ne f150_E_oR f150_E_kkR (by decide)))
   have f156_E_kkR := f150_E_kkR.wr W156
   have f156_F_starts_kkR := f150_F_starts_kkR.other W156 (Or.inr (slot_ne (Or.inr (hU 32 _ rfl)) (Or.inl (hU 64 _ rfl)) (by decide) (t := (.array .int)) (t' := .int) (by decide) (by decide)))
   have f156_A_fiR := f150_A_fiR.other W156 (Ne.symm (Exa.neArv f150_E_kkR f150_A_fiR (hU 25 _ rfl)))
   have f156_F_ends_kkR := f150_F_ends_kkR.other W156 (Or.inr (slot_ne (Or.inr (hU 34 _ rfl)) (Or.inl (hU 64 _ rfl)) (by decide) (t := (.array .int)) (t' := .int) (by decide) (by decide)))
   have f156_F_items_kkR := f150_F_items_kkR.other W156 (Or.inr (slot_ne (Or.inr (hU 38 _ rfl)) (Or.inl (hU 64 _ rfl)) (by decide) (t := (.array (.object "java/lang/Object"))) (t' := .int) (by decide) (by decide)))
   have f156_E_iv_ := f150_E_iv_.wr W156
   have f156_A_saR := f150_A_saR.other W156 (Ne.symm (Exa.neArv f150_E_kkR f150_A_saR (hU 25 _ rfl)))
   have f156_A_enR := f150_A_enR.other W156 (Ne.symm (Exa.neArv f150_E_kkR f150_A_enR (hU 25 _ rfl)))
   have f156_A_itR := v150.other W156 (Ne.symm (Exa.neArv f150_E_kkR v150 (hU 25 _ rfl)))
   have z156 : n0 ≤ h156.size := by rw [W156.size]; exact z150
   have K156 : Keep h0 h156 [saR, enR, itR, kkR, fiR] := K150.wr W156 (Or.inl (List.mem_of_getElem? (i := 3) rfl))
   have N156 := Fr.snoc X156 N150 g_kkR
   have R157 := fun t k => R155 t (st156 t k)
   have R158 : own_R p e below T156 (mkF m 223 (fA2 iv_ kkR oR p3) [(.ref oR)]) s₁ f0 := fun t k => R157 t (by
    refine XS.aloadN X156.here hx rfl (hb hby d15_222) rfl rfl ?_
    exact k)
   obtain ⟨T159, X159, e159, R160⟩ := own_gF R158 X156 hx hZ hown (host := "") (Or.inl (hU 17 _ rfl)) Via.refl e156 f156_F_firsts_oR rfl rfl (hb hby d15_223)
   have R161 : own_R p e below T159 (mkF m 230 (fA2 iv_ kkR oR p3) [(.ref kkR), (.int 0), (.ref fiR)]) s₁ f0 := fun t k => R160 t (by
    refine XS.iload X159.here hx rfl (hb hby d15_226) rfl ?_
    refine XS.aload X159.here hx rfl (hb hby d15_228) rfl rfl ?_
    exact k)
   obtain ⟨T162, X162, e162, R163⟩ := own_gF R161 X159 hx hZ hown (Or.inr (hU 106 _ rfl)) Via.refl e159 f156_F_starts_kkR rfl rfl (hb hby d15_230)
   have R164 : own_R p e below T162 (mkF m 234 (fA2 iv_ kkR oR p3) [(.int 0), (.ref saR), (.int 0), (.ref fiR)]) s₁ f0 := fun t k => R163 t (by
    refine XS.iconst X162.here hx rfl (hb hby d15_233) ?_
    exact k)
   obtain ⟨cl165, Ar165, q165, S165, n165_, H165, G165⟩ := id f156_A_saR
   have hin165 : ¬ ((0 : Int32) < 0 ∨ cl165.slots.size ≤ ((0 : Int32)).toNatClampNeg) := inb_of S165 ⟨by decide, by decide⟩
   have hat165 : cl165.slots[((0 : Int32)).toNatClampNeg]? = some (.int p3) := Has.at H165 hin165 rfl
   have R166 : own_R p e below T162 (mkF m 235 (fA2 iv_ kkR oR p3) [(.int p3), (.int 0), (.ref fiR)]) s₁ f0 := fun t k => R164 t (X162.iaload hx (j := (0 : Int32)) (v := (.int p3)) (by rw [e162]; exact Ar165.1) (State.isArrayOf_alike hZ.alike Ar165.2.1) Ar165.2.2 hin165 hat165 (g := (mkF m 234 (fA2 iv_ kkR oR p3) [(.int 0), (.ref saR), (.int 0), (.ref fiR)])) rfl rfl (hb hby d15_234) _ k)
   obtain ⟨cl167, Ar167, q167, S167, n167_, H167, G167⟩ := id f156_A_fiR
   have hin167 : ¬ ((0 : Int32) < 0 ∨ cl167.slots.size ≤ ((0 : Int32)).toNatClampNeg) := inb_of S167 ⟨by decide, by decide⟩
   obtain ⟨T167, h167, X167, e167, W167, st167⟩ := stI X162 hx hZ e162 Ar167 (j := (0 : Int32)) hin167 (g := (mkF m 235 (fA2 iv_ kkR oR p3) [(.int p3), (.int 0), (.ref fiR)])) rfl rfl (hb hby d15_235)
   have f167_E_oR := f156_E_oR.wr W167
   have f167_F_firsts_oR := f156_F_firsts_oR.other W167 (Or.inl (Exa.neArv f156_E_oR f156_A_fiR (hU 10 _ rfl)))
   have f167_E_kkR := f156_E_kkR.wr W167
   have f167_F_size_kkR := fw156.other W167 (Or.inl (Exa.neArv f156_E_kkR f156_A_fiR (hU 25 _ rfl)))
   have f167_F_starts_kkR := f156_F_starts_kkR.other W167 (Or.inl (Exa.neArv f156_E_kkR f156_A_fiR (hU 25 _ rfl)))
   have f167_F_ends_kkR := f156_F_ends_kkR.other W167 (Or.inl (Exa.neArv f156_E_kkR f156_A_fiR (hU 25 _ rfl)))
   have f167_F_items_kkR := f156_F_items_kkR.other W167 (Or.inl (Exa.neArv f156_E_kkR f156_A_fiR (hU 25 _ rfl)))
   have f167_E_iv_ := f156_E_iv_.wr W167
   have f167_A_saR := f156_A_saR.other W167 (Ne.symm ne_fiR_saR)
   have f167_A_enR := f156_A_enR.other W167 (Ne.symm ne_fiR_enR)
   have f167_A_itR := f156_A_itR.other W167 (Ne.symm ne_fiR_itR)
   have z167 : n0 ≤ h167.size := by rw [W167.size]; exact z156
   have K167 : Keep h0 h167 [saR, enR, itR, kkR, fiR] := K156.wr W167 (Or.inl (List.mem_of_getElem? (i := 4) rfl))
   have v167 : Arv Z h167 fiR kfiR .int 1 [(.int p3)] (.int 0) := Arv.set Ar167 q167 S167 n167_ H167 G167 rfl W167 0 rfl (Nat.le_of_ble_eq_true rfl)
   have N167 := Fr.snoc X167 N156 g_fiR
   have R168 := fun t k => R166 t (st167 t k)
   have ei : own_ins p3 [xa] = [p3, xa] := own_in1_0 ho0
   obtain ⟨fs, hr, hrun, hended, hW, hsame⟩ := X167.leave (v := none) (fun _ => rfl)
   refine ⟨_, _, pre0 _ (R168 _ ?_), hrun, hended, _, _, rfl, ?_, ⟨_, rfl⟩, hW, hsame.mono (by decide) (by decide)⟩
   ·
    show own_S p e below T167 (mkF m 236 (fA2 iv_ kkR oR p3) []) _
    exact X167.returnOut hx Bd.returns (hb hby d15_236) hr
   ·
    show Q_rmOi1 Z oR p3 iv_ ckR kckR kkR fiR kfiR saR kstR enR kenR itR kitR [xa] h0 n0 _ T167.heap _
    rw [e167]
    exact ⟨rfl, N167, K167, (by rw [ei]; exact f167_F_size_kkR), f167_F_starts_kkR, (by rw [ei]; exact v167), (by rw [ei]; exact f167_A_saR), f167_F_ends_kkR, f167_F_items_kkR, (by rw [ei]; exact f167_A_enR), (by rw [ei]; exact f167_A_itR)⟩
  ·
   have R169 : own_R p e below s₁ (mkF m 0 (fA17 iv_ oR p3) []) s₁ f0 := by have q := R0; rw [((own_pe1_1 ho0) : (own_p [xa] p3) = (257 : Int64))] at q; exact q
   have R170 : own_R p e below s₁ (mkF m 4 (fA17 iv_ oR p3) [(.long (((257 : Int64).toUInt64 >>> ((32 : Int32) &&& 0x3f).toInt64.toUInt64).toInt64))]) s₁ f0 := fun t k => R169 t (by
    refine XS.lloadN X0.here hx rfl (hb hby d15_0) rfl ?_
    refine XS.bipush X0.here hx rfl (hb hby d15_1) ?_
    refine XS.lushr X0.here hx rfl (hb hby d15_3) rfl ?_
    exact k)
   have R171 : own_R p e below s₁ (mkF m 4 (fA17 iv_ oR p3) [(.long (0 : Int64))]) s₁ f0 := by have q := R170; rw [((by decide) : (((257 : Int64).toUInt64 >>> ((32 : Int32) &&& 0x3f).toInt64.toUInt64).toInt64) = (0 : Int64))] at q; exact q
   have R172 : own_R p e below s₁ (mkF m 5 (fA17 iv_ oR p3) [(.int ((0 : Int64).toInt32))]) s₁ f0 := fun t k => R171 t (by
    refine XS.l2i X0.here hx rfl (hb hby d15_4) rfl ?_
    exact k)
   have R173 : own_R p e below s₁ (mkF m 5 (fA17 iv_ oR p3) [(.int 0)]) s₁ f0 := by have q := R172; rw [((by decide) : ((0 : Int64).toInt32) = (0 : Int32))] at q; exact q
   have R174 : own_R p e below s₁ (mkF m 9 (fA30 iv_ oR p3) [(.int ((257 : Int64).toInt32))]) s₁ f0 := fun t k => R173 t (by
    refine XS.istore X0.here hx rfl (hb hby d15_5) rfl (l' := (fA30 iv_ oR p3)) rfl ?_
    refine XS.lloadN X0.here hx rfl (hb hby d15_7) rfl ?_
    refine XS.l2i X0.here hx rfl (hb hby d15_8) rfl ?_
    exact k)
   have R175 : own_R p e below s₁ (mkF m 9 (fA30 iv_ oR p3) [(.int 257)]) s₁ f0 := by have q := R174; rw [((by decide) : ((257 : Int64).toInt32) = (257 : Int32))] at q; exact q
   have R176 : own_R p e below s₁ (mkF m 16 (fA19 iv_ oR p3) [(.ref oR)]) s₁ f0 := fun t k => R175 t (by
    refine XS.sipush X0.here hx rfl (hb hby d15_9) ?_
    refine XS.isub X0.here hx rfl (hb hby d15_12) rfl ?_
    refine XS.istore X0.here hx rfl (hb hby d15_13) rfl (l' := (fA19 iv_ oR p3)) rfl ?_
    refine XS.aloadN X0.here hx rfl (hb hby d15_15) rfl rfl ?_
    exact k)
   obtain ⟨T177, X177, e177, R178⟩ := own_gF R176 X0 hx hZ hown (host := "") (Or.inl (hU 40 _ rfl)) Via.refl e0 F_chunks_oR rfl rfl (hb hby d15_16)
   have R179 : own_R p e below T177 (mkF m 21 (fA19 iv_ oR p3) [(.int 0), (.ref ckR)]) s₁ f0 := fun t k => R178 t (by
    refine XS.iload X177.here hx rfl (hb hby d15_19) rfl ?_
    exact k)
   obtain ⟨cl180, Ar180, q180, S180, n180_, H180, G180⟩ := id A_ckR
   have hin180 : ¬ ((0 : Int32) < 0 ∨ cl180.slots.size ≤ ((0 : Int32)).toNatClampNeg) := inb_of S180 ⟨by decide, by decide⟩
   have hat180 : cl180.slots[((0 : Int32)).toNatClampNeg]? = some (.ref kkR) := Has.at H180 hin180 rfl
   have R181 : own_R p e below T177 (mkF m 22 (fA19 iv_ oR p3) [(.ref kkR)]) s₁ f0 := fun t k => R179 t (X177.aaload hx (j := (0 : Int32)) (v := (.ref kkR)) (by rw [e177]; exact Ar180.1) (State.isArrayOf_alike hZ.alike Ar180.2.1) rfl Ar180.2.2 hin180 hat180 (g := (mkF m 21 (fA19 iv_ oR p3) [(.int 0), (.ref ckR)])) rfl rfl (hb hby d15_21) _ k)
   have R182 : own_R p e below T177 (mkF m 26 (fA31 iv_ kkR oR p3) [(.ref kkR)]) s₁ f0 := fun t k => R181 t (by
    refine XS.astore X177.here hx rfl (hb hby d15_22) rfl rfl (l' := (fA31 iv_ kkR oR p3)) rfl ?_
    refine XS.aload X177.here hx rfl (hb hby d15_24) rfl rfl ?_
    exact k)
   obtain ⟨T183, X183, e183, R184⟩ := own_gF R182 X177 hx hZ hown (Or.inr (hU 63 _ rfl)) Via.refl e177 lt_F_size_kkR rfl rfl (hb hby d15_26)
   have R185 : own_R p e below T183 (mkF m 104 (fA31 iv_ kkR oR p3) [(.ref kkR)]) s₁ f0 := fun t k => R184 t (by
    refine XS.sipush X183.here hx rfl (hb hby d15_29) ?_
    refine XS.icmpYes X183.here hx rfl (pc0 := 32) (pc' := 102) rfl (hb hby d15_32) rfl (feq (by decide : ¬ ((1 : Int32) = (256 : Int32)))).2 (by decide) (by decide) ?_
    refine XS.aload X183.here hx rfl (hb hby d15_102) rfl rfl ?_
    exact k)
   obtain ⟨T186, X186, e186, R187⟩ := own_gF R185 X183 hx hZ hown (Or.inr (hU 63 _ rfl)) Via.refl e183 lt_F_size_kkR rfl rfl (hb hby d15_104)
   have R188 : own_R p e below T186 (mkF m 114 (fA3 iv_ kkR oR p3) [(.ref kkR)]) s₁ f0 := fun t k => R187 t (by
    refine XS.iload X186.here hx rfl (hb hby d15_107) rfl ?_
    refine XS.isub X186.here hx rfl (hb hby d15_109) rfl ?_
    refine XS.istore X186.here hx rfl (hb hby d15_110) rfl (l' := (fA3 iv_ kkR oR p3)) rfl ?_
    refine XS.aload X186.here hx rfl (hb hby d15_112) rfl rfl ?_
    exact k)
   obtain ⟨T189, X189, e189, R190⟩ := own_gF R188 X186 hx hZ hown (Or.inr (hU 106 _ rfl)) Via.refl e186 F_starts_kkR rfl rfl (hb hby d15_114)
   have R191 : own_R p e below T189 (mkF m 121 (fA3 iv_ kkR oR p3) [(.ref kkR), (.int 1), (.ref saR)]) s₁ f0 := fun t k => R190 t (by
    refine XS.iload X189.here hx rfl (hb hby d15_117) rfl ?_
    refine XS.aload X189.here hx rfl (hb hby d15_119) rfl rfl ?_
    exact k)
   obtain ⟨T192, X192, e192, R193⟩ := own_gF R191 X189 hx hZ hown (Or.inr (hU 106 _ rfl)) Via.refl e189 F_starts_kkR rfl rfl (hb hby d15_121)
   have R194 : own_R p e below T192 (mkF m 130 (fA3 iv_ kkR oR p3) [(.int 0), (.int 2), (.ref saR), (.int 1), (.ref saR)]) s₁ f0 := fun t k => R193 t (by
    refine XS.iload X192.here hx rfl (hb hby d15_124) rfl ?_
    refine XS.iconst X192.here hx rfl (hb hby d15_126) ?_
    refine XS.iadd X192.here hx rfl (hb hby d15_127) rfl ?_
    refine XS.iload X192.here hx rfl (hb hby d15_128) rfl ?_
    exact k)
   obtain ⟨T195, h195, L195, X195, e195, N195, Kc195, v195_, st195⟩ := cpA X192 hx hZ hown (hU 107 _ rfl) (hU 110 _ rfl) (hU 108 _ rfl) (hU 109 _ rfl) e192 lt_A_saR lt_A_saR (us := []) (Or.inl ⟨rfl, rfl⟩) (by decide) (by decide) (by decide) (by decide) (by decide) rfl (Nat.le_of_ble_eq_true rfl) N0 g_saR (g := (mkF m 130 (fA3 iv_ kkR oR p3) [(.int 0), (.int 2), (.ref saR), (.int 1), (.ref saR)])) rfl (by rw [hml]; rfl) rfl (hb hby d15_130) (by decide) (W := 0) (Nat.le_of_eq rfl) (by decide)
   have f195_E_oR := E_oR.keep Kc195
   have f195_F_firsts_oR := F_firsts_oR.keep Kc195 (ninS (Exa.neArv E_oR lt_A_saR (hU 10 _ rfl)) nin0)
   have f195_F_withItems_oR := F_withItems_oR.keep Kc195 (ninS (Exa.neArv E_oR lt_A_saR (hU 10 _ rfl)) nin0)
   have f195_E_kkR := E_kkR.keep Kc195
   have f195_F_size_kkR := lt_F_size_kkR.keep Kc195 (ninS (Exa.neArv E_kkR lt_A_saR (hU 25 _ rfl)) nin0)
   have f195_F_starts_kkR := F_starts_kkR.keep Kc195 (ninS (Exa.neArv E_kkR lt_A_saR (hU 25 _ rfl)) nin0)
   have f195_A_fiR := lt_A_fiR.keep Kc195 (ninS ne_fiR_saR nin0)
   have f195_F_ends_kkR := F_ends_kkR.keep Kc195 (ninS (Exa.neArv E_kkR lt_A_saR (hU 25 _ rfl)) nin0)
   have f195_F_items_kkR := F_items_kkR.keep Kc195 (ninS (Exa.neArv E_kkR lt_A_saR (hU 25 _ rfl)) nin0)
   have f195_A_enR := lt_A_enR.keep Kc195 (ninS (Ne.symm ne_saR_enR) nin0)
   have f195_A_itR := lt_A_itR.keep Kc195 (ninS (Ne.symm ne_saR_itR) nin0)
   have f195_E_iv_ := E_iv_.keep Kc195
   have z195 : n0 ≤ h195.size := Nat.le_trans Z0 Kc195.1
   have K195 : Keep h0 h195 [saR, enR, itR, kkR, fiR] := (Keep.refl h0 [saR, enR, itR, kkR, fiR]).trans Kc195 (allS (Or.inl (List.mem_of_getElem? (i := 0) rfl)) all0)
   have v195 : Arv Z h195 saR kstR .int 256 [(.int xa), (.int 0), (.int 0)] (.int 0) := v195_
   have R196 := fun t k => R194 t (st195 t k)
   have R197 : own_R p e below T195 (mkF m 135 (fA3 iv_ kkR oR p3) [(.ref kkR)]) s₁ f0 := fun t k => R196 t (by
    refine XS.aload X195.here hx rfl (hb hby d15_133) rfl rfl ?_
    exact k)
   obtain ⟨T198, X198, e198, R199⟩ := own_gF R197 X195 hx hZ hown (Or.inr (hU 106 _ rfl)) Via.refl e195 f195_F_starts_kkR rfl rfl (hb hby d15_135)
   have R200 : own_R p e below T198 (mkF m 141 (fA3 iv_ kkR oR p3) [(.int p3), (.int 1), (.ref saR)]) s₁ f0 := fun t k => R199 t (by
    refine XS.iload X198.here hx rfl (hb hby d15_138) rfl ?_
    refine XS.iloadN X198.here hx rfl (hb hby d15_140) rfl ?_
    exact k)
   obtain ⟨cl201, Ar201, q201, S201, n201_, H201, G201⟩ := id v195
   have hin201 : ¬ ((1 : Int32) < 0 ∨ cl201.slots.size ≤ ((1 : Int32)).toNatClampNeg) := inb_of S201 ⟨by decide, by decide⟩
   obtain ⟨T201, h201, X201, e201, W201, st201⟩ := stI X198 hx hZ e198 Ar201 (j := (1 : Int32)) hin201 (g := (mkF m 141 (fA3 iv_ kkR oR p3) [(.int p3), (.int 1), (.ref saR)])) rfl rfl (hb hby d15_141)
   have f201_E_oR := f195_E_oR.wr W201
   have f201_F_firsts_oR := f195_F_firsts_oR.other W201 (Or.inl (Exa.neArv f195_E_oR v195 (hU 10 _ rfl)))
   have f201_F_withItems_oR := f195_F_withItems_oR.other W201 (Or.inl (Exa.neArv f195_E_oR v195 (hU 10 _ rfl)))
   have f201_E_kkR := f195_E_kkR.wr W201
   have f201_F_size_kkR := f195_F_size_kkR.other W201 (Or.inl (Exa.neArv f195_E_kkR v195 (hU 25 _ rfl)))
   have f201_F_starts_kkR := f195_F_starts_kkR.other W201 (Or.inl (Exa.neArv f195_E_kkR v195 (hU 25 _ rfl)))
   have f201_A_fiR := f195_A_fiR.other W201 ne_fiR_saR
   have f201_F_ends_kkR := f195_F_ends_kkR.other W201 (Or.inl (Exa.neArv f195_E_kkR v195 (hU 25 _ rfl)))
   have f201_F_items_kkR := f195_F_items_kkR.other W201 (Or.inl (Exa.neArv f195_E_kkR v195 (hU 25 _ rfl)))
   have f201_A_enR := f195_A_enR.other W201 (Ne.symm ne_saR_enR)
   have f201_A_itR := f195_A_itR.other W201 (Ne.symm ne_saR_itR)
   have f201_E_iv_ := f195_E_iv_.wr W201
   have z201 : n0 ≤ h201.size := by rw [W201.size]; exact z195
   have K201 : Keep h0 h201 [saR, enR, itR, kkR, fiR] := K195.wr W201 (Or.inl (List.mem_of_getElem? (i := 0) rfl))
   have v201 : Arv Z h201 saR kstR .int 256 [(.int xa), (.int p3), (.int 0)] (.int 0) := Arv.set Ar201 q201 S201 n201_ H201 G201 rfl W201 1 rfl (Nat.le_of_ble_eq_true rfl)
   have N201 := Fr.snoc X201 N195 g_saR
   have R202 := fun t k => R200 t (st201 t k)
   have R203 : own_R p e below T201 (mkF m 143 (fA3 iv_ kkR oR p3) [(.ref oR)]) s₁ f0 := fun t k => R202 t (by
    refine XS.aloadN X201.here hx rfl (hb hby d15_142) rfl rfl ?_
    exact k)
   obtain ⟨T204, X204, e204, R205⟩ := own_gF R203 X201 hx hZ hown (host := "") (Or.inl (hU 21 _ rfl)) Via.refl e201 f201_F_withItems_oR rfl rfl (hb hby d15_143)
   have R206 : own_R p e below T204 (mkF m 151 (fA3 iv_ kkR oR p3) [(.ref kkR)]) s₁ f0 := fun t k => R205 t (by
    refine XS.ifNo X204.here hx rfl (hb hby d15_146) rfl ((if0 _ _).trans (feq (by decide : ¬ ((1 : Int32) = (0 : Int32)))).1) ?_
    refine XS.aload X204.here hx rfl (hb hby d15_149) rfl rfl ?_
    exact k)
   obtain ⟨T207, X207, e207, R208⟩ := own_gF R206 X204 hx hZ hown (Or.inr (hU 131 _ rfl)) Via.refl e204 f201_F_ends_kkR rfl rfl (hb hby d15_151)
   have R209 : own_R p e below T207 (mkF m 158 (fA3 iv_ kkR oR p3) [(.ref kkR), (.int 1), (.ref enR)]) s₁ f0 := fun t k => R208 t (by
    refine XS.iload X207.here hx rfl (hb hby d15_154) rfl ?_
    refine XS.aload X207.here hx rfl (hb hby d15_156) rfl rfl ?_
    exact k)
   obtain ⟨T210, X210, e210, R211⟩ := own_gF R209 X207 hx hZ hown (Or.inr (hU 131 _ rfl)) Via.refl e207 f201_F_ends_kkR rfl rfl (hb hby d15_158)
   have R212 : own_R p e below T210 (mkF m 167 (fA3 iv_ kkR oR p3) [(.int 0), (.int 2), (.ref enR), (.int 1), (.ref enR)]) s₁ f0 := fun t k => R211 t (by
    refine XS.iload X210.here hx rfl (hb hby d15_161) rfl ?_
    refine XS.iconst X210.here hx rfl (hb hby d15_163) ?_
    refine XS.iadd X210.here hx rfl (hb hby d15_164) rfl ?_
    refine XS.iload X210.here hx rfl (hb hby d15_165) rfl ?_
    exact k)
   obtain ⟨T213, h213, L213, X213, e213, N213, Kc213, v213_, st213⟩ := cpA X210 hx hZ hown (hU 107 _ rfl) (hU 110 _ rfl) (hU 108 _ rfl) (hU 109 _ rfl) e210 f201_A_enR f201_A_enR (us := []) (Or.inl ⟨rfl, rfl⟩) (by decide) (by decide) (by decide) (by decide) (by decide) rfl (Nat.le_of_ble_eq_true rfl) N201 g_enR (g := (mkF m 167 (fA3 iv_ kkR oR p3) [(.int 0), (.int 2), (.ref enR), (.int 1), (.ref enR)])) rfl (by rw [hml]; rfl) rfl (hb hby d15_167) (by decide) (W := 0) (Nat.le_of_eq rfl) (by decide)
   have f213_E_oR := f201_E_oR.keep Kc213
   have f213_F_firsts_oR := f201_F_firsts_oR.keep Kc213 (ninS (Exa.neArv f201_E_oR f201_A_enR (hU 10 _ rfl)) nin0)
   have f213_E_kkR := f201_E_kkR.keep Kc213
   have f213_F_size_kkR := f201_F_size_kkR.keep Kc213 (ninS (Exa.neArv f201_E_kkR f201_A_enR (hU 25 _ rfl)) nin0)
   have f213_F_starts_kkR := f201_F_starts_kkR.keep Kc213 (ninS (Exa.neArv f201_E_kkR f201_A_enR (hU 25 _ rfl)) nin0)
   have f213_A_fiR := f201_A_fiR.keep Kc213 (ninS ne_fiR_enR nin0)
   have f213_F_ends_kkR := f201_F_ends_kkR.keep Kc213 (ninS (Exa.neArv f201_E_kkR f201_A_enR (hU 25 _ rfl)) nin0)
   have f213_F_items_kkR := f201_F_items_kkR.keep Kc213 (ninS (Exa.neArv f201_E_kkR f201_A_enR (hU 25 _ rfl)) nin0)
   have f213_A_itR := f201_A_itR.keep Kc213 (ninS (Ne.symm ne_enR_itR) nin0)
   have f213_E_iv_ := f201_E_iv_.keep Kc213
   have f213_A_saR := v201.keep Kc213 (ninS ne_saR_enR nin0)
   have z213 : n0 ≤ h213.size := Nat.le_trans z201 Kc213.1
   have K213 : Keep h0 h213 [saR, enR, itR, kkR, fiR] := K201.trans Kc213 (allS (Or.inl (List.mem_of_getElem? (i := 1) rfl)) all0)
   have v213 : Arv Z h213 enR kenR .int 256 [(.int (xa + (1 : Int32))), (.int 0), (.int 0)] (.int 0) := v213_
   have R214 := fun t k => R212 t (st213 t k)
   have R215 : own_R p e below T213 (mkF m 172 (fA3 iv_ kkR oR p3) [(.ref kkR)]) s₁ f0 := fun t k => R214 t (by
    refine XS.aload X213.here hx rfl (hb hby d15_170) rfl rfl ?_
    exact k)
   obtain ⟨T216, X216, e216, R217⟩ := own_gF R215 X213 hx hZ hown (Or.inr (hU 132 _ rfl)) Via.refl e213 f213_F_items_kkR rfl rfl (hb hby d15_172)
   have R218 : own_R p e below T216 (mkF m 179 (fA3 iv_ kkR oR p3) [(.ref kkR), (.int 1), (.ref itR)]) s₁ f0 := fun t k => R217 t (by
    refine XS.iload X216.here hx rfl (hb hby d15_175) rfl ?_
    refine XS.aload X216.here hx rfl (hb hby d15_177) rfl rfl ?_
    exact k)
   obtain ⟨T219, X219, e219, R220⟩ := own_gF R218 X216 hx hZ hown (Or.inr (hU 132 _ rfl)) Via.refl e216 f213_F_items_kkR rfl rfl (hb hby d15_179)
   have R221 : own_R p e below T219 (mkF m 188 (fA3 iv_ kkR oR p3) [(.int 0), (.int 2), (.ref itR), (.int 1), (.ref itR)]) s₁ f0 := fun t k => R220 t (by
    refine XS.iload X219.here hx rfl (hb hby d15_182) rfl ?_
    refine XS.iconst X219.here hx rfl (hb hby d15_184) ?_
    refine XS.iadd X219.here hx rfl (hb hby d15_185) rfl ?_
    refine XS.iload X219.here hx rfl (hb hby d15_186) rfl ?_
    exact k)
   obtain ⟨T222, h222, L222, X222, e222, N222, Kc222, v222_, st222⟩ := cpA X219 hx hZ hown (hU 107 _ rfl) (hU 110 _ rfl) (hU 108 _ rfl) (hU 109 _ rfl) e219 f213_A_itR f213_A_itR (us := []) (Or.inr ⟨rfl, rfl, trivial⟩) (by decide) (by decide) (by decide) (by decide) (by decide) rfl (Nat.le_of_ble_eq_true rfl) N213 g_itR (g := (mkF m 188 (fA3 iv_ kkR oR p3) [(.int 0), (.int 2), (.ref itR), (.int 1), (.ref itR)])) rfl (by rw [hml]; rfl) rfl (hb hby d15_188) (by decide) (W := 0) (Nat.le_of_eq rfl) (by decide)
   have f222_E_oR := f213_E_oR.keep Kc222
   have f222_F_firsts_oR := f213_F_firsts_oR.keep Kc222 (ninS (Exa.neArv f213_E_oR f213_A_itR (hU 10 _ rfl)) nin0)
   have f222_E_kkR := f213_E_kkR.keep Kc222
   have f222_F_size_kkR := f213_F_size_kkR.keep Kc222 (ninS (Exa.neArv f213_E_kkR f213_A_itR (hU 25 _ rfl)) nin0)
   have f222_F_starts_kkR := f213_F_starts_kkR.keep Kc222 (ninS (Exa.neArv f213_E_kkR f213_A_itR (hU 25 _ rfl)) nin0)
   have f222_A_fiR := f213_A_fiR.keep Kc222 (ninS ne_fiR_itR nin0)
   have f222_F_ends_kkR := f213_F_ends_kkR.keep Kc222 (ninS (Exa.neArv f213_E_kkR f213_A_itR (hU 25 _ rfl)) nin0)
   have f222_F_items_kkR := f213_F_items_kkR.keep Kc222 (ninS (Exa.neArv f213_E_kkR f213_A_itR (hU 25 _ rfl)) nin0)
   have f222_E_iv_ := f213_E_iv_.keep Kc222
   have f222_A_saR := f213_A_saR.keep Kc222 (ninS ne_saR_itR nin0)
   have f222_A_enR := v213.keep Kc222 (ninS ne_enR_itR nin0)
   have z222 : n0 ≤ h222.size := Nat.le_trans z213 Kc222.1
   have K222 : Keep h0 h222 [saR, enR, itR, kkR, fiR] := K213.trans Kc222 (allS (Or.inl (List.mem_of_getElem? (i := 2) rfl)) all0)
   have v222 : Arv Z h222 itR kitR (.object "java/lang/Object") (256 : Int32) [(.ref iv_), .null, .null] .null := v222_
   have R223 := fun t k => R221 t (st222 t k)
   have R224 : own_R p e below T222 (mkF m 193 (fA3 iv_ kkR oR p3) [(.ref kkR)]) s₁ f0 := fun t k => R223 t (by
    refine XS.aload X222.here hx rfl (hb hby d15_191) rfl rfl ?_
    exact k)
   obtain ⟨T225, X225, e225, R226⟩ := own_gF R224 X222 hx hZ hown (Or.inr (hU 131 _ rfl)) Via.refl e222 f222_F_ends_kkR rfl rfl (hb hby d15_193)
   have R227 : own_R p e below T225 (mkF m 200 (fA3 iv_ kkR oR p3) [(.int (p3 + (1 : Int32))), (.int 1), (.ref enR)]) s₁ f0 := fun t k => R226 t (by
    refine XS.iload X225.here hx rfl (hb hby d15_196) rfl ?_
    refine XS.iload X225.here hx rfl (hb hby d15_198) rfl ?_
    exact k)
   obtain ⟨cl228, Ar228, q228, S228, n228_, H228, G228⟩ := id f222_A_enR
   have hin228 : ¬ ((1 : Int32) < 0 ∨ cl228.slots.size ≤ ((1 : Int32)).toNatClampNeg) := inb_of S228 ⟨by decide, by decide⟩
   obtain ⟨T228, h228, X228, e228, W228, st228⟩ := stI X225 hx hZ e225 Ar228 (j := (1 : Int32)) hin228 (g := (mkF m 200 (fA3 iv_ kkR oR p3) [(.int (p3 + (1 : Int32))), (.int 1), (.ref enR)])) rfl rfl (hb hby d15_200)
   have f228_E_oR := f222_E_oR.wr W228
   have f228_F_firsts_oR := f222_F_firsts_oR.other W228 (Or.inl (Exa.neArv f222_E_oR f222_A_enR (hU 10 _ rfl)))
   have f228_E_kkR := f222_E_kkR.wr W228
   have f228_F_size_kkR := f222_F_size_kkR.other W228 (Or.inl (Exa.neArv f222_E_kkR f222_A_enR (hU 25 _ rfl)))
   have f228_F_starts_kkR := f222_F_starts_kkR.other W228 (Or.inl (Exa.neArv f222_E_kkR f222_A_enR (hU 25 _ rfl)))
   have f228_A_fiR := f222_A_fiR.other W228 ne_fiR_enR
   have f228_F_ends_kkR := f222_F_ends_kkR.other W228 (Or.inl (Exa.neArv f222_E_kkR f222_A_enR (hU 25 _ rfl)))
   have f228_F_items_kkR := f222_F_items_kkR.other W228 (Or.inl (Exa.neArv f222_E_kkR f222_A_enR (hU 25 _ rfl)))
   have f228_E_iv_ := f222_E_iv_.wr W228
   have f228_A_saR := f222_A_saR.other W228 ne_saR_enR
   have f228_A_itR := v222.other W228 (Ne.symm ne_enR_itR)
   have z228 : n0 ≤ h228.size := by rw [W228.size]; exact z222
   have K228 : Keep h0 h228 [saR, enR, itR, kkR, fiR] := K222.wr W228 (Or.inl (List.mem_of_getElem? (i := 1) rfl))
   have v228 : Arv Z h228 enR kenR .int 256 [(.int (xa + (1 : Int32))), (.int (p3 + (1 : Int32))), (.int 0)] (.int 0) := Arv.set Ar228 q228 S228 n228_ H228 G228 rfl W228 1 rfl (Nat.le_of_ble_eq_true rfl)
   have N228 := Fr.snoc X228 N222 g_enR
   have R229 := fun t k => R227 t (st228 t k)
   have R230 : own_R p e below T228 (mkF m 203 (fA3 iv_ kkR oR p3) [(.ref kkR)]) s₁ f0 := fun t k => R229 t (by
    refine XS.aload X228.here hx rfl (hb hby d15_201) rfl rfl ?_
    exact k)
   obtain ⟨T231, X231, e231, R232⟩ := own_gF R230 X228 hx hZ hown (Or.inr (hU 132 _ rfl)) Via.refl e228 f228_F_items_kkR rfl rfl (hb hby d15_203)
   have R233 : own_R p e below T231 (mkF m 210 (fA3 iv_ kkR oR p3) [(.ref iv_), (.int 1), (.ref itR)]) s₁ f0 := fun t k => R232 t (by
    refine XS.iload X231.here hx rfl (hb hby d15_206) rfl ?_
    refine XS.aload X231.here hx rfl (hb hby d15_208) rfl rfl ?_
    exact k)
   obtain ⟨cl234, Ar234, q234, S234, n234_, H234, G234⟩ := id f228_A_itR
   have hin234 : ¬ ((1 : Int32) < 0 ∨ cl234.slots.size ≤ ((1 : Int32)).toNatClampNeg) := inb_of S234 ⟨by decide, by decide⟩
   obtain ⟨T234, h234, X234, e234, W234, st234⟩ := stR X231 hx hZ e231 Ar234 (j := (1 : Int32)) hin234 rfl (Sto.ofV Ar234 q234 ovr_itR (Ins.of_exa f228_E_iv_ (hU 133 _ rfl))) (g := (mkF m 210 (fA3 iv_ kkR oR p3) [(.ref iv_), (.int 1), (.ref itR)])) rfl rfl (hb hby d15_210)
   have f234_E_oR := f228_E_oR.wr W234
   have f234_F_firsts_oR := f228_F_firsts_oR.other W234 (Or.inl (Exa.neArv f228_E_oR f228_A_itR (hU 10 _ rfl)))
   have f234_E_kkR := f228_E_kkR.wr W234
   have f234_F_size_kkR := f228_F_size_kkR.other W234 (Or.inl (Exa.neArv f228_E_kkR f228_A_itR (hU 25 _ rfl)))
   have f234_F_starts_kkR := f228_F_starts_kkR.other W234 (Or.inl (Exa.neArv f228_E_kkR f228_A_itR (hU 25 _ rfl)))
   have f234_A_fiR := f228_A_fiR.other W234 ne_fiR_itR
   have f234_F_ends_kkR := f228_F_ends_kkR.other W234 (Or.inl (Exa.neArv f228_E_kkR f228_A_itR (hU 25 _ rfl)))
   have f234_F_items_kkR := f228_F_items_kkR.other W234 (Or.inl (Exa.neArv f228_E_kkR f228_A_itR (hU 25 _ rfl)))
   have f234_E_iv_ := f228_E_iv_.wr W234
   have f234_A_saR := f228_A_saR.other W234 ne_saR_itR
   have f234_A_enR := v228.other W234 ne_enR_itR
   have z234 : n0 ≤ h234.size := by rw [W234.size]; exact z228
   have K234 : Keep h0 h234 [saR, enR, itR, kkR, fiR] := K228.wr W234 (Or.inl (List.mem_of_getElem? (i := 2) rfl))
   have v234 : Arv Z h234 itR kitR (.object "java/lang/Object") (256 : Int32) [(.ref iv_), (.ref iv_), .null] .null := Arv.set Ar234 q234 S234 n234_ H234 G234 rfl W234 1 rfl (Nat.le_of_ble_eq_true rfl)
   have N234 := Fr.snoc X234 N228 g_itR
   have R235 := fun t k => R233 t (st234 t k)
   have R236 : own_R p e below T234 (mkF m 214 (fA3 iv_ kkR oR p3) [(.ref kkR), (.ref kkR)]) s₁ f0 := fun t k => R235 t (by
    refine XS.aload X234.here hx rfl (hb hby d15_211) rfl rfl ?_
    refine XS.dup X234.here hx rfl (hb hby d15_213) rfl rfl ?_
    exact k)
   obtain ⟨T237, X237, e237, R238⟩ := own_gF R236 X234 hx hZ hown (Or.inr (hU 63 _ rfl)) Via.refl e234 f234_F_size_kkR rfl rfl (hb hby d15_214)
   have R239 : own_R p e below T237 (mkF m 219 (fA3 iv_ kkR oR p3) [(.int 2), (.ref kkR)]) s₁ f0 := fun t k => R238 t (by
    refine XS.iconst X237.here hx rfl (hb hby d15_217) ?_
    refine XS.iadd X237.here hx rfl (hb hby d15_218) rfl ?_
    exact k)
   obtain ⟨T240, h240, X240, e240, W240, st240⟩ := putF X237 hx hZ hown (Or.inr (hU 63 _ rfl)) Via.refl e237 f234_F_size_kkR f234_E_kkR (Or.inl (hU 64 _ rfl)) (hU 25 _ rfl) (ty := .int) (by decide) rfl rfl (g := (mkF m 219 (fA3 iv_ kkR oR p3) [(.int 2), (.ref kkR)])) rfl rfl (hb hby d15_219)
   have fw240 : Fld Z h240 kkR sN0 "size" "I" (.int 2) := f234_F_size_kkR.same W240
   have f240_E_oR := f234_E_oR.wr W240
   have f240_F_firsts_oR := f234_F_firsts_oR.other W240 (Or.inl (Exa.ne f234_E_oR f234_E_kkR (by decide)))
   have f240_E_kkR := f234_E_kkR.wr W240
   have f240_F_starts_kkR := f234_F_starts_kkR.other W240 (Or.inr (slot_ne (Or.inr (hU 32 _ rfl)) (Or.inl (hU 64 _ rfl)) (by decide) (t := (.array .int)) (t' := .int) (by decide) (by decide)))
   have f240_A_fiR := f234_A_fiR.other W240 (Ne.symm (Exa.neArv f234_E_kkR f234_A_fiR (hU 25 _ rfl)))
   have f240_F_ends_kkR := f234_F_ends_kkR.other W240 (Or.inr (slot_ne (Or.inr (hU 34 _ rfl)) (Or.inl (hU 64 _ rfl)) (by decide) (t := (.array .int)) (t' := .int) (by decide) (by decide)))
   have f240_F_items_kkR := f234_F_items_kkR.other W240 (Or.inr (slot_ne (Or.inr (hU 38 _ rfl)) (Or.inl (hU 64 _ rfl)) (by decide) (t := (.array (.object "java/lang/Object"))) (t' := .int) (by decide) (by decide)))
   have f240_E_iv_ := f234_E_iv_.wr W240
   have f240_A_saR := f234_A_saR.other W240 (Ne.symm (Exa.neArv f234_E_kkR f234_A_saR (hU 25 _ rfl)))
   have f240_A_enR := f234_A_enR.other W240 (Ne.symm (Exa.neArv f234_E_kkR f234_A_enR (hU 25 _ rfl)))
   have f240_A_itR := v234.other W240 (Ne.symm (Exa.neArv f234_E_kkR v234 (hU 25 _ rfl)))
   have z240 : n0 ≤ h240.size := by rw [W240.size]; exact z234
   have K240 : Keep h0 h240 [saR, enR, itR, kkR, fiR] := K234.wr W240 (Or.inl (List.mem_of_getElem? (i := 3) rfl))
   have N240 := Fr.snoc X240 N234 g_kkR
   have R241 := fun t k => R239 t (st240 t k)
   have R242 : own_R p e below T240 (mkF m 223 (fA3 iv_ kkR oR p3) [(.ref oR)]) s₁ f0 := fun t k => R241 t (by
    refine XS.aloadN X240.here hx rfl (hb hby d15_222) rfl rfl ?_
    exact k)
   obtain ⟨T243, X243, e243, R244⟩ := own_gF R242 X240 hx hZ hown (host := "") (Or.inl (hU 17 _ rfl)) Via.refl e240 f240_F_firsts_oR rfl rfl (hb hby d15_223)
   have R245 : own_R p e below T243 (mkF m 230 (fA3 iv_ kkR oR p3) [(.ref kkR), (.int 0), (.ref fiR)]) s₁ f0 := fun t k => R244 t (by
    refine XS.iload X243.here hx rfl (hb hby d15_226) rfl ?_
    refine XS.aload X243.here hx rfl (hb hby d15_228) rfl rfl ?_
    exact k)
   obtain ⟨T246, X246, e246, R247⟩ := own_gF R245 X243 hx hZ hown (Or.inr (hU 106 _ rfl)) Via.refl e243 f240_F_starts_kkR rfl rfl (hb hby d15_230)
   have R248 : own_R p e below T246 (mkF m 234 (fA3 iv_ kkR oR p3) [(.int 0), (.ref saR), (.int 0), (.ref fiR)]) s₁ f0 := fun t k => R247 t (by
    refine XS.iconst X246.here hx rfl (hb hby d15_233) ?_
    exact k)
   obtain ⟨cl249, Ar249, q249, S249, n249_, H249, G249⟩ := id f240_A_saR
   have hin249 : ¬ ((0 : Int32) < 0 ∨ cl249.slots.size ≤ ((0 : Int32)).toNatClampNeg) := inb_of S249 ⟨by decide, by decide⟩
   have hat249 : cl249.slots[((0 : Int32)).toNatClampNeg]? = some (.int xa) := Has.at H249 hin249 rfl
   have R250 : own_R p e below T246 (mkF m 235 (fA3 iv_ kkR oR p3) [(.int xa), (.int 0), (.ref fiR)]) s₁ f0 := fun t k => R248 t (X246.iaload hx (j := (0 : Int32)) (v := (.int xa)) (by rw [e246]; exact Ar249.1) (State.isArrayOf_alike hZ.alike Ar249.2.1) Ar249.2.2 hin249 hat249 (g := (mkF m 234 (fA3 iv_ kkR oR p3) [(.int 0), (.ref saR), (.int 0), (.ref fiR)])) rfl rfl (hb hby d15_234) _ k)
   obtain ⟨cl251, Ar251, q251, S251, n251_, H251, G251⟩ := id f240_A_fiR
   have hin251 : ¬ ((0 : Int32) < 0 ∨ cl251.slots.size ≤ ((0 : Int32)).toNatClampNeg) := inb_of S251 ⟨by decide, by decide⟩
   obtain ⟨T251, h251, X251, e251, W251, st251⟩ := stI X246 hx hZ e246 Ar251 (j := (0 : Int32)) hin251 (g := (mkF m 235 (fA3 iv_ kkR oR p3) [(.int xa), (.int 0), (.ref fiR)])) rfl rfl (hb hby d15_235)
   have f251_E_oR := f240_E_oR.wr W251
   have f251_F_firsts_oR := f240_F_firsts_oR.other W251 (Or.inl (Exa.neArv f240_E_oR f240_A_fiR (hU 10 _ rfl)))
   have f251_E_kkR := f240_E_kkR.wr W251
   have f251_F_size_kkR := fw240.other W251 (Or.inl (Exa.neArv f240_E_kkR f240_A_fiR (hU 25 _ rfl)))
   have f251_F_starts_kkR := f240_F_starts_kkR.other W251 (Or.inl (Exa.neArv f240_E_kkR f240_A_fiR (hU 25 _ rfl)))
   have f251_F_ends_kkR := f240_F_ends_kkR.other W251 (Or.inl (Exa.neArv f240_E_kkR f240_A_fiR (hU 25 _ rfl)))
   have f251_F_items_kkR := f240_F_items_kkR.other W251 (Or.inl (Exa.neArv f240_E_kkR f240_A_fiR (hU 25 _ rfl)))
   have f251_E_iv_ := f240_E_iv_.wr W251
   have f251_A_saR := f240_A_saR.other W251 (Ne.symm ne_fiR_saR)
   have f251_A_enR := f240_A_enR.other W251 (Ne.symm ne_fiR_enR)
   have f251_A_itR := f240_A_itR.other W251 (Ne.symm ne_fiR_itR)
   have z251 : n0 ≤ h251.size := by rw [W251.size]; exact z240
   have K251 : Keep h0 h251 [saR, enR, itR, kkR, fiR] := K240.wr W251 (Or.inl (List.mem_of_getElem? (i := 4) rfl))
   have v251 : Arv Z h251 fiR kfiR .int 1 [(.int xa)] (.int 0) := Arv.set Ar251 q251 S251 n251_ H251 G251 rfl W251 0 rfl (Nat.le_of_ble_eq_true rfl)
   have N251 := Fr.snoc X251 N240 g_fiR
   have R252 := fun t k => R250 t (st251 t k)
   have ei : own_ins p3 [xa] = [xa, p3] := own_in1_1 ho0
   obtain ⟨fs, hr, hrun, hended, hW, hsame⟩ := X251.leave (v := none) (fun _ => rfl)
   refine ⟨_, _, pre0 _ (R252 _ ?_), hrun, hended, _, _, rfl, ?_, ⟨_, rfl⟩, hW, hsame.mono (by decide) (by decide)⟩
   ·
    show own_S p e below T251 (mkF m 236 (fA3 iv_ kkR oR p3) []) _
    exact X251.returnOut hx Bd.returns (hb hby d15_236) hr
   ·
    show Q_rmOi1 Z oR p3 iv_ ckR kckR kkR fiR kfiR saR kstR enR kenR itR kitR [xa] h0 n0 _ T251.heap _
    rw [e251]
    exact ⟨rfl, N251, K251, (by rw [ei]; exact f251_F_size_kkR), f251_F_starts_kkR, (by rw [ei]; exact v251), (by rw [ei]; exact f251_A_saR), f251_F_ends_kkR, f251_F_items_kkR, (by rw [ei]; exact f251_A_enR), (by rw [ei]; exact f251_A_itR)⟩
 ·
  have lt_F_size_kkR : Fld Z h0 kkR sN0 "size" "I" (.int 2) := F_size_kkR
  have lt_A_fiR : Arv Z h0 fiR kfiR .int 1 [(.int xa)] (.int 0) := A_fiR
  have lt_A_saR : Arv Z h0 saR kstR .int 256 [(.int xa), (.int xb), (.int 0)] (.int 0) := A_saR
  have lt_A_enR : Arv Z h0 enR kenR .int 256 [(.int (xa + (1 : Int32))), (.int (xb + (1 : Int32))), (.int 0)] (.int 0) := A_enR
  have lt_A_itR : Arv Z h0 itR kitR (.object "java/lang/Object") (256 : Int32) [(.ref iv_), (.ref iv_), .null] .null := A_itR
  rcases own_q2 hso hq with ⟨ho0, ho1⟩ | ⟨ho0, ho1⟩ | ⟨ho0, ho1⟩
  ·
   have R253 : own_R p e below s₁ (mkF m 0 (fA10 iv_ oR p3) []) s₁ f0 := by have q := R0; rw [((own_pe2_0 ho0 ho1) : (own_p [xa, xb] p3) = (256 : Int64))] at q; exact q
   have R254 : own_R p e below s₁ (mkF m 4 (fA10 iv_ oR p3) [(.long (((256 : Int64).toUInt64 >>> ((32 : Int32) &&& 0x3f).toInt64.toUInt64).toInt64))]) s₁ f0 := fun t k => R253 t (by
    refine XS.lloadN X0.here hx rfl (hb hby d15_0) rfl ?_
    refine XS.bipush X0.here hx rfl (hb hby d15_1) ?_
    refine XS.lushr X0.here hx rfl (hb hby d15_3) rfl ?_
    exact k)
   have R255 : own_R p e below s₁ (mkF m 4 (fA10 iv_ oR p3) [(.long (0 : Int64))]) s₁ f0 := by have q := R254; rw [((by decide) : (((256 : Int64).toUInt64 >>> ((32 : Int32) &&& 0x3f).toInt64.toUInt64).toInt64) = (0 : Int64))] at q; exact q
   have R256 : own_R p e below s₁ (mkF m 5 (fA10 iv_ oR p3) [(.int ((0 : Int64).toInt32))]) s₁ f0 := fun t k => R255 t (by
    refine XS.l2i X0.here hx rfl (hb hby d15_4) rfl ?_
    exact k)
   have R257 : own_R p e below s₁ (mkF m 5 (fA10 iv_ oR p3) [(.int 0)]) s₁ f0 := by have q := R256; rw [((by decide) : ((0 : Int64).toInt32) = (0 : Int32))] at q; exact q
   have R258 : own_R p e below s₁ (mkF m 9 (fA21 iv_ oR p3) [(.int ((256 : Int64).toInt32))]) s₁ f0 := fun t k => R257 t (by
    refine XS.istore X0.here hx rfl (hb hby d15_5) rfl (l' := (fA21 iv_ oR p3)) rfl ?_
    refine XS.lloadN X0.here hx rfl (hb hby d15_7) rfl ?_
    refine XS.l2i X0.here hx rfl (hb hby d15_8) rfl ?_
    exact k)
   have R259 : own_R p e below s₁ (mkF m 9 (fA21 iv_ oR p3) [(.int 256)]) s₁ f0 := by have q := R258; rw [((by decide) : ((256 : Int64).toInt32) = (256 : Int32))] at q; exact q
   have R260 : own_R p e below s₁ (mkF m 16 (fA11 iv_ oR p3) [(.ref oR)]) s₁ f0 := fun t k => R259 t (by
    refine XS.sipush X0.here hx rfl (hb hby d15_9) ?_
    refine XS.isub X0.here hx rfl (hb hby d15_12) rfl ?_
    refine XS.istore X0.here hx rfl (hb hby d15_13) rfl (l' := (fA11 iv_ oR p3)) rfl ?_
    refine XS.aloadN X0.here hx rfl (hb hby d15_15) rfl rfl ?_
    exact k)
   obtain ⟨T261, X261, e261, R262⟩ := own_gF R260 X0 hx hZ hown (host := "") (Or.inl (hU 40 _ rfl)) Via.refl e0 F_chunks_oR rfl rfl (hb hby d15_16)
   have R263 : own_R p e below T261 (mkF m 21 (fA11 iv_ oR p3) [(.int 0), (.ref ckR)]) s₁ f0 := fun t k => R262 t (by
    refine XS.iload X261.here hx rfl (hb hby d15_19) rfl ?_
    exact k)
   obtain ⟨cl264, Ar264, q264, S264, n264_, H264, G264⟩ := id A_ckR
   have hin264 : ¬ ((0 : Int32) < 0 ∨ cl264.slots.size ≤ ((0 : Int32)).toNatClampNeg) := inb_of S264 ⟨by decide, by decide⟩
   have hat264 : cl264.slots[((0 : Int32)).toNatClampNeg]? = some (.ref kkR) := Has.at H264 hin264 rfl
   have R265 : own_R p e below T261 (mkF m 22 (fA11 iv_ oR p3) [(.ref kkR)]) s₁ f0 := fun t k => R263 t (X261.aaload hx (j := (0 : Int32)) (v := (.ref kkR)) (by rw [e261]; exact Ar264.1) (State.isArrayOf_alike hZ.alike Ar264.2.1) rfl Ar264.2.2 hin264 hat264 (g := (mkF m 21 (fA11 iv_ oR p3) [(.int 0), (.ref ckR)])) rfl rfl (hb hby d15_21) _ k)
   have R266 : own_R p e below T261 (mkF m 26 (fA22 iv_ kkR oR p3) [(.ref kkR)]) s₁ f0 := fun t k => R265 t (by
    refine XS.astore X261.here hx rfl (hb hby d15_22) rfl rfl (l' := (fA22 iv_ kkR oR p3)) rfl ?_
    refine XS.aload X261.here hx rfl (hb hby d15_24) rfl rfl ?_
    exact k)
   obtain ⟨T267, X267, e267, R268⟩ := own_gF R266 X261 hx hZ hown (Or.inr (hU 63 _ rfl)) Via.refl e261 lt_F_size_kkR rfl rfl (hb hby d15_26)
   have R269 : own_R p e below T267 (mkF m 104 (fA22 iv_ kkR oR p3) [(.ref kkR)]) s₁ f0 := fun t k => R268 t (by
    refine XS.sipush X267.here hx rfl (hb hby d15_29) ?_
    refine XS.icmpYes X267.here hx rfl (pc0 := 32) (pc' := 102) rfl (hb hby d15_32) rfl (feq (by decide : ¬ ((2 : Int32) = (256 : Int32)))).2 (by decide) (by decide) ?_
    refine XS.aload X267.here hx rfl (hb hby d15_102) rfl rfl ?_
    exact k)
   obtain ⟨T270, X270, e270, R271⟩ := own_gF R269 X267 hx hZ hown (Or.inr (hU 63 _ rfl)) Via.refl e267 lt_F_size_kkR rfl rfl (hb hby d15_104)
   have R272 : own_R p e below T270 (mkF m 114 (fA4 iv_ kkR oR p3) [(.ref kkR)]) s₁ f0 := fun t k => R271 t (by
    refine XS.iload X270.here hx rfl (hb hby d15_107) rfl ?_
    refine XS.isub X270.here hx rfl (hb hby d15_109) rfl ?_
    refine XS.istore X270.here hx rfl (hb hby d15_110) rfl (l' := (fA4 iv_ kkR oR p3)) rfl ?_
    refine XS.aload X270.here hx rfl (hb hby d15_112) rfl rfl ?_
    exact k)
   obtain ⟨T273, X273, e273, R274⟩ := own_gF R272 X270 hx hZ hown (Or.inr (hU 106 _ rfl)) Via.refl e270 F_starts_kkR rfl rfl (hb hby d15_114)
   have R275 : own_R p e below T273 (mkF m 121 (fA4 iv_ kkR oR p3) [(.ref kkR), (.int 0), (.ref saR)]) s₁ f0 := fun t k => R274 t (by
    refine XS.iload X273.here hx rfl (hb hby d15_117) rfl ?_
    refine XS.aload X273.here hx rfl (hb hby d15_119) rfl rfl ?_
    exact k)
   obtain ⟨T276, X276, e276, R277⟩ := own_gF R275 X273 hx hZ hown (Or.inr (hU 106 _ rfl)) Via.refl e273 F_starts_kkR rfl rfl (hb hby d15_121)
   have R278 : own_R p e below T276 (mkF m 130 (fA4 iv_ kkR oR p3) [(.int 2), (.int 1), (.ref saR), (.int 0), (.ref saR)]) s₁ f0 := fun t k => R277 t (by
    refine XS.iload X276.here hx rfl (hb hby d15_124) rfl ?_
    refine XS.iconst X276.here hx rfl (hb hby d15_126) ?_
    refine XS.iadd X276.here hx rfl (hb hby d15_127) rfl ?_
    refine XS.iload X276.here hx rfl (hb hby d15_128) rfl ?_
    exact k)
   obtain ⟨T279, h279, L279, X279, e279, N279, Kc279, v279_, st279⟩ := cpA X276 hx hZ hown (hU 107 _ rfl) (hU 110 _ rfl) (hU 108 _ rfl) (hU 109 _ rfl) e276 lt_A_saR lt_A_saR (us := [(.int xa), (.int xb)]) (Or.inl ⟨rfl, rfl⟩) (by decide) (by decide) (by decide) (by decide) (by decide) rfl (Nat.le_of_ble_eq_true rfl) N0 g_saR (g := (mkF m 130 (fA4 iv_ kkR oR p3) [(.int 2), (.int 1), (.ref saR), (.int 0), (.ref saR)])) rfl (by rw [hml]; rfl) rfl (hb hby d15_130) (by decide) (W := 0) (Nat.le_of_eq rfl) (by decide)
   have f279_E_oR := E_oR.keep Kc279
   have f279_F_firsts_oR := F_firsts_oR.keep Kc279 (ninS (Exa.neArv E_oR lt_A_saR (hU 10 _ rfl)) nin0)
   have f279_F_withItems_oR := F_withItems_oR.keep Kc279 (ninS (Exa.neArv E_oR lt_A_saR (hU 10 _ rfl)) nin0)
   have f279_E_kkR := E_kkR.keep Kc279
   have f279_F_size_kkR := lt_F_size_kkR.keep Kc279 (ninS (Exa.neArv E_kkR lt_A_saR (hU 25 _ rfl)) nin0)
   have f279_F_starts_kkR := F_starts_kkR.keep Kc279 (ninS (Exa.neArv E_kkR lt_A_saR (hU 25 _ rfl)) nin0)
   have f279_A_fiR := lt_A_fiR.keep Kc279 (ninS ne_fiR_saR nin0)
   have f279_F_ends_kkR := F_ends_kkR.keep Kc279 (ninS (Exa.neArv E_kkR lt_A_saR (hU 25 _ rfl)) nin0)
   have f279_F_items_kkR := F_items_kkR.keep Kc279 (ninS (Exa.neArv E_kkR lt_A_saR (hU 25 _ rfl)) nin0)
   have f279_A_enR := lt_A_enR.keep Kc279 (ninS (Ne.symm ne_saR_enR) nin0)
   have f279_A_itR := lt_A_itR.keep Kc279 (ninS (Ne.symm ne_saR_itR) nin0)
   have f279_E_iv_ := E_iv_.keep Kc279
   have z279 : n0 ≤ h279.size := Nat.le_trans Z0 Kc279.1
   have K279 : Keep h0 h279 [saR, enR, itR, kkR, fiR] := (Keep.refl h0 [saR, enR, itR, kkR, fiR]).trans Kc279 (allS (Or.inl (List.mem_of_getElem? (i := 0) rfl)) all0)
   have v279 : Arv Z h279 saR kstR .int 256 [(.int xa), (.int xa), (.int xb)] (.int 0) := v279_
   have R280 := fun t k => R278 t (st279 t k)
   have R281 : own_R p e below T279 (mkF m 135 (fA4 iv_ kkR oR p3) [(.ref kkR)]) s₁ f0 := fun t k => R280 t (by
    refine XS.aload X279.here hx rfl (hb hby d15_133) rfl rfl ?_
    exact k)
   obtain ⟨T282, X282, e282, R283⟩ := own_gF R281 X279 hx hZ hown (Or.inr (hU 106 _ rfl)) Via.refl e279 f279_F_starts_kkR rfl rfl (hb hby d15_135)
   have R284 : own_R p e below T282 (mkF m 141 (fA4 iv_ kkR oR p3) [(.int p3), (.int 0), (.ref saR)]) s₁ f0 := fun t k => R283 t (by
    refine XS.iload X282.here hx rfl (hb hby d15_138) rfl ?_
    refine XS.iloadN X282.here hx rfl (hb hby d15_140) rfl ?_
    exact k)
   obtain ⟨cl285, Ar285, q285, S285, n285_, H285, G285⟩ := id v279
   have hin285 : ¬ ((0 : Int32) < 0 ∨ cl285.slots.size ≤ ((0 : Int32)).toNatClampNeg) := inb_of S285 ⟨by decide, by decide⟩
   obtain ⟨T285, h285, X285, e285, W285, st285⟩ := stI X282 hx hZ e282 Ar285 (j := (0 : Int32)) hin285 (g := (mkF m 141 (fA4 iv_ kkR oR p3) [(.int p3), (.int 0), (.ref saR)])) rfl rfl (hb hby d15_141)
   have f285_E_oR := f279_E_oR.wr W285
   have f285_F_firsts_oR := f279_F_firsts_oR.other W285 (Or.inl (Exa.neArv f279_E_oR v279 (hU 10 _ rfl)))
   have f285_F_withItems_oR := f279_F_withItems_oR.other W285 (Or.inl (Exa.neArv f279_E_oR v279 (hU 10 _ rfl)))
   have f285_E_kkR := f279_E_kkR.wr W285
   have f285_F_size_kkR := f279_F_size_kkR.other W285 (Or.inl (Exa.neArv f279_E_kkR v279 (hU 25 _ rfl)))
   have f285_F_starts_kkR := f279_F_starts_kkR.other W285 (Or.inl (Exa.neArv f279_E_kkR v279 (hU 25 _ rfl)))
   have f285_A_fiR := f279_A_fiR.other W285 ne_fiR_saR
   have f285_F_ends_kkR := f279_F_ends_kkR.other W285 (Or.inl (Exa.neArv f279_E_kkR v279 (hU 25 _ rfl)))
   have f285_F_items_kkR := f279_F_items_kkR.other W285 (Or.inl (Exa.neArv f279_E_kkR v279 (hU 25 _ rfl)))
   have f285_A_enR := f279_A_enR.other W285 (Ne.symm ne_saR_enR)
   have f285_A_itR := f279_A_itR.other W285 (Ne.symm ne_saR_itR)
   have f285_E_iv_ := f279_E_iv_.wr W285
   have z285 : n0 ≤ h285.size := by rw [W285.size]; exact z279
   have K285 : Keep h0 h285 [saR, enR, itR, kkR, fiR] := K279.wr W285 (Or.inl (List.mem_of_getElem? (i := 0) rfl))
   have v285 : Arv Z h285 saR kstR .int 256 [(.int p3), (.int xa), (.int xb)] (.int 0) := Arv.set Ar285 q285 S285 n285_ H285 G285 rfl W285 0 rfl (Nat.le_of_ble_eq_true rfl)
   have N285 := Fr.snoc X285 N279 g_saR
   have R286 := fun t k => R284 t (st285 t k)
   have R287 : own_R p e below T285 (mkF m 143 (fA4 iv_ kkR oR p3) [(.ref oR)]) s₁ f0 := fun t k => R286 t (by
    refine XS.aloadN X285.here hx rfl (hb hby d15_142) rfl rfl ?_
    exact k)
   obtain ⟨T288, X288, e288, R289⟩ := own_gF R287 X285 hx hZ hown (host := "") (Or.inl (hU 21 _ rfl)) Via.refl e285 f285_F_withItems_oR rfl rfl (hb hby d15_143)
   have R290 : own_R p e below T288 (mkF m 151 (fA4 iv_ kkR oR p3) [(.ref kkR)]) s₁ f0 := fun t k => R289 t (by
    refine XS.ifNo X288.here hx rfl (hb hby d15_146) rfl ((if0 _ _).trans (feq (by decide : ¬ ((1 : Int32) = (0 : Int32)))).1) ?_
    refine XS.aload X288.here hx rfl (hb hby d15_149) rfl rfl ?_
    exact k)
   obtain ⟨T291, X291, e291, R292⟩ := own_gF R290 X288 hx hZ hown (Or.inr (hU 131 _ rfl)) Via.refl e288 f285_F_ends_kkR rfl rfl (hb hby d15_151)
   have R293 : own_R p e below T291 (mkF m 158 (fA4 iv_ kkR oR p3) [(.ref kkR), (.int 0), (.ref enR)]) s₁ f0 := fun t k => R292 t (by
    refine XS.iload X291.here hx rfl (hb hby d15_154) rfl ?_
    refine XS.aload X291.here hx rfl (hb hby d15_156) rfl rfl ?_
    exact k)
   obtain ⟨T294, X294, e294, R295⟩ := own_gF R293 X291 hx hZ hown (Or.inr (hU 131 _ rfl)) Via.refl e291 f285_F_ends_kkR rfl rfl (hb hby d15_158)
   have R296 : own_R p e below T294 (mkF m 167 (fA4 iv_ kkR oR p3) [(.int 2), (.int 1), (.ref enR), (.int 0), (.ref enR)]) s₁ f0 := fun t k => R295 t (by
    refine XS.iload X294.here hx rfl (hb hby d15_161) rfl ?_
    refine XS.iconst X294.here hx rfl (hb hby d15_163) ?_
    refine XS.iadd X294.here hx rfl (hb hby d15_164) rfl ?_
    refine XS.iload X294.here hx rfl (hb hby d15_165) rfl ?_
    exact k)
   obtain ⟨T297, h297, L297, X297, e297, N297, Kc297, v297_, st297⟩ := cpA X294 hx hZ hown (hU 107 _ rfl) (hU 110 _ rfl) (hU 108 _ rfl) (hU 109 _ rfl) e294 f285_A_enR f285_A_enR (us := [(.int (xa + (1 : Int32))), (.int (xb + (1 : Int32)))]) (Or.inl ⟨rfl, rfl⟩) (by decide) (by decide) (by decide) (by decide) (by decide) rfl (Nat.le_of_ble_eq_true rfl) N285 g_enR (g := (mkF m 167 (fA4 iv_ kkR oR p3) [(.int 2), (.int 1), (.ref enR), (.int 0), (.ref enR)])) rfl (by rw [hml]; rfl) rfl (hb hby d15_167) (by decide) (W := 0) (Nat.le_of_eq rfl) (by decide)
   have f297_E_oR := f285_E_oR.keep Kc297
   have f297_F_firsts_oR := f285_F_firsts_oR.keep Kc297 (ninS (Exa.neArv f285_E_oR f285_A_enR (hU 10 _ rfl)) nin0)
   have f297_E_kkR := f285_E_kkR.keep Kc297
   have f297_F_size_kkR := f285_F_size_kkR.keep Kc297 (ninS (Exa.neArv f285_E_kkR f285_A_enR (hU 25 _ rfl)) nin0)
   have f297_F_starts_kkR := f285_F_starts_kkR.keep Kc297 (ninS (Exa.neArv f285_E_kkR f285_A_enR (hU 25 _ rfl)) nin0)
   have f297_A_fiR := f285_A_fiR.keep Kc297 (ninS ne_fiR_enR nin0)
   have f297_F_ends_kkR := f285_F_ends_kkR.keep Kc297 (ninS (Exa.neArv f285_E_kkR f285_A_enR (hU 25 _ rfl)) nin0)
   have f297_F_items_kkR := f285_F_items_kkR.keep Kc297 (ninS (Exa.neArv f285_E_kkR f285_A_enR (hU 25 _ rfl)) nin0)
   have f297_A_itR := f285_A_itR.keep Kc297 (ninS (Ne.symm ne_enR_itR) nin0)
   have f297_E_iv_ := f285_E_iv_.keep Kc297
   have f297_A_saR := v285.keep Kc297 (ninS ne_saR_enR nin0)
   have z297 : n0 ≤ h297.size := Nat.le_trans z285 Kc297.1
   have K297 : Keep h0 h297 [saR, enR, itR, kkR, fiR] := K285.trans Kc297 (allS (Or.inl (List.mem_of_getElem? (i := 1) rfl)) all0)
   have v297 : Arv Z h297 enR kenR .int 256 [(.int (xa + (1 : Int32))), (.int (xa + (1 : Int32))), (.int (xb + (1 : Int32)))] (.int 0) := v297_
   have R298 := fun t k => R296 t (st297 t k)
   have R299 : own_R p e below T297 (mkF m 172 (fA4 iv_ kkR oR p3) [(.ref kkR)]) s₁ f0 := fun t k => R298 t (by
    refine XS.aload X297.here hx rfl (hb hby d15_170) rfl rfl ?_
    exact k)
   obtain ⟨T300, X300, e300, R301⟩ := own_gF R299 X297 hx hZ hown (Or.inr (hU 132 _ rfl)) Via.refl e297 f297_F_items_kkR rfl rfl (hb hby d15_172)
   have R302 : own_R p e below T300 (mkF m 179 (fA4 iv_ kkR oR p3) [(.ref kkR), (.int 0), (.ref itR)]) s₁ f0 := fun t k => R301 t (by
    refine XS.iload X300.here hx rfl (hb hby d15_175) rfl ?_
    refine XS.aload X300.here hx rfl (hb hby d15_177) rfl rfl ?_
    exact k)
   obtain ⟨T303, X303, e303, R304⟩ := own_gF R302 X300 hx hZ hown (Or.inr (hU 132 _ rfl)) Via.refl e300 f297_F_items_kkR rfl rfl (hb hby d15_179)
   have R305 : own_R p e below T303 (mkF m 188 (fA4 iv_ kkR oR p3) [(.int 2), (.int 1), (.ref itR), (.int 0), (.ref itR)]) s₁ f0 := fun t k => R304 t (by
    refine XS.iload X303.here hx rfl (hb hby d15_182) rfl ?_
    refine XS.iconst X303.here hx rfl (hb hby d15_184) ?_
    refine XS.iadd X303.here hx rfl (hb hby d15_185) rfl ?_
    refine XS.iload X303.here hx rfl (hb hby d15_186) rfl ?_
    exact k)
   obtain ⟨T306, h306, L306, X306, e306, N306, Kc306, v306_, st306⟩ := cpA X303 hx hZ hown (hU 107 _ rfl) (hU 110 _ rfl) (hU 108 _ rfl) (hU 109 _ rfl) e303 f297_A_itR f297_A_itR (us := [(.ref iv_), (.ref iv_)]) (Or.inr ⟨rfl, rfl, ⟨own_sto f297_A_itR ovr_itR (Ins.of_exa f297_E_iv_ (hU 133 _ rfl)), ⟨own_sto f297_A_itR ovr_itR (Ins.of_exa f297_E_iv_ (hU 133 _ rfl)), trivial⟩⟩⟩) (by decide) (by decide) (by decide) (by decide) (by decide) rfl (Nat.le_of_ble_eq_true rfl) N297 g_itR (g := (mkF m 188 (fA4 iv_ kkR oR p3) [(.int 2), (.int 1), (.ref itR), (.int 0), (.ref itR)])) rfl (by rw [hml]; rfl) rfl (hb hby d15_188) (by decide) (W := 0) (Nat.le_of_eq rfl) (by decide)
   have f306_E_oR := f297_E_oR.keep Kc306
   have f306_F_firsts_oR := f297_F_firsts_oR.keep Kc306 (ninS (Exa.neArv f297_E_oR f297_A_itR (hU 10 _ rfl)) nin0)
   have f306_E_kkR := f297_E_kkR.keep Kc306
   have f306_F_size_kkR := f297_F_size_kkR.keep Kc306 (ninS (Exa.neArv f297_E_kkR f297_A_itR (hU 25 _ rfl)) nin0)
   have f306_F_starts_kkR := f297_F_starts_kkR.keep Kc306 (ninS (Exa.neArv f297_E_kkR f297_A_itR (hU 25 _ rfl)) nin0)
   have f306_A_fiR := f297_A_fiR.keep Kc306 (ninS ne_fiR_itR nin0)
   have f306_F_ends_kkR := f297_F_ends_kkR.keep Kc306 (ninS (Exa.neArv f297_E_kkR f297_A_itR (hU 25 _ rfl)) nin0)
   have f306_F_items_kkR := f297_F_items_kkR.keep Kc306 (ninS (Exa.neArv f297_E_kkR f297_A_itR (hU 25 _ rfl)) nin0)
   have f306_E_iv_ := f297_E_iv_.keep Kc306
   have f306_A_saR := f297_A_saR.keep Kc306 (ninS ne_saR_itR nin0)
   have f306_A_enR := v297.keep Kc306 (ninS ne_enR_itR nin0)
   have z306 : n0 ≤ h306.size := Nat.le_trans z297 Kc306.1
   have K306 : Keep h0 h306 [saR, enR, itR, kkR, fiR] := K297.trans Kc306 (allS (Or.inl (List.mem_of_getElem? (i := 2) rfl)) all0)
   have v306 : Arv Z h306 itR kitR (.object "java/lang/Object") (256 : Int32) [(.ref iv_), (.ref iv_), (.ref iv_)] .null := v306_
   have R307 := fun t k => R305 t (st306 t k)
   have R308 : own_R p e below T306 (mkF m 193 (fA4 iv_ kkR oR p3) [(.ref kkR)]) s₁ f0 := fun t k => R307 t (by
    refine XS.aload X306.here hx rfl (hb hby d15_191) rfl rfl ?_
    exact k)
   obtain ⟨T309, X309, e309, R310⟩ := own_gF R308 X306 hx hZ hown (Or.inr (hU 131 _ rfl)) Via.refl e306 f306_F_ends_kkR rfl rfl (hb hby d15_193)
   have R311 : own_R p e below T309 (mkF m 200 (fA4 iv_ kkR oR p3) [(.int (p3 + (1 : Int32))), (.int 0), (.ref enR)]) s₁ f0 := fun t k => R310 t (by
    refine XS.iload X309.here hx rfl (hb hby d15_196) rfl ?_
    refine XS.iload X309.here hx rfl (hb hby d15_198) rfl ?_
    exact k)
   obtain ⟨cl312, Ar312, q312, S312, n312_, H312, G312⟩ := id f306_A_enR
   have hin312 : ¬ ((0 : Int32) < 0 ∨ cl312.slots.size ≤ ((0 : Int32)).toNatClampNeg) := inb_of S312 ⟨by decide, by decide⟩
   obtain ⟨T312, h312, X312, e312, W312, st312⟩ := stI X309 hx hZ e309 Ar312 (j := (0 : Int32)) hin312 (g := (mkF m 200 (fA4 iv_ kkR oR p3) [(.int (p3 + (1 : Int32))), (.int 0), (.ref enR)])) rfl rfl (hb hby d15_200)
   have f312_E_oR := f306_E_oR.wr W312
   have f312_F_firsts_oR := f306_F_firsts_oR.other W312 (Or.inl (Exa.neArv f306_E_oR f306_A_enR (hU 10 _ rfl)))
   have f312_E_kkR := f306_E_kkR.wr W312
   have f312_F_size_kkR := f306_F_size_kkR.other W312 (Or.inl (Exa.neArv f306_E_kkR f306_A_enR (hU 25 _ rfl)))
   have f312_F_starts_kkR := f306_F_starts_kkR.other W312 (Or.inl (Exa.neArv f306_E_kkR f306_A_enR (hU 25 _ rfl)))
   have f312_A_fiR := f306_A_fiR.other W312 ne_fiR_enR
   have f312_F_ends_kkR := f306_F_ends_kkR.other W312 (Or.inl (Exa.neArv f306_E_kkR f306_A_enR (hU 25 _ rfl)))
   have f312_F_items_kkR := f306_F_items_kkR.other W312 (Or.inl (Exa.neArv f306_E_kkR f306_A_enR (hU 25 _ rfl)))
   have f312_E_iv_ := f306_E_iv_.wr W312
   have f312_A_saR := f306_A_saR.other W312 ne_saR_enR
   have f312_A_itR := v306.other W312 (Ne.symm ne_enR_itR)
   have z312 : n0 ≤ h312.size := by rw [W312.size]; exact z306
   have K312 : Keep h0 h312 [saR, enR, itR, kkR, fiR] := K306.wr W312 (Or.inl (List.mem_of_getElem? (i := 1) rfl))
   have v312 : Arv Z h312 enR kenR .int 256 [(.int (p3 + (1 : Int32))), (.int (xa + (1 : Int32))), (.int (xb + (1 : Int32)))] (.int 0) := Arv.set Ar312 q312 S312 n312_ H312 G312 rfl W312 0 rfl (Nat.le_of_ble_eq_true rfl)
   have N312 := Fr.snoc X312 N306 g_enR
   have R313 := fun t k => R311 t (st312 t k)
   have R314 : own_R p e below T312 (mkF m 203 (fA4 iv_ kkR oR p3) [(.ref kkR)]) s₁ f0 := fun t k => R313 t (by
    refine XS.aload X312.here hx rfl (hb hby d15_201) rfl rfl ?_
    exact k)
   obtain ⟨T315, X315, e315, R316⟩ := own_gF R314 X312 hx hZ hown (Or.inr (hU 132 _ rfl)) Via.refl e312 f312_F_items_kkR rfl rfl (hb hby d15_203)
   have R317 : own_R p e below T315 (mkF m 210 (fA4 iv_ kkR oR p3) [(.ref iv_), (.int 0), (.ref itR)]) s₁ f0 := fun t k => R316 t (by
    refine XS.iload X315.here hx rfl (hb hby d15_206) rfl ?_
    refine XS.aload X315.here hx rfl (hb hby d15_208) rfl rfl ?_
    exact k)
   obtain ⟨cl318, Ar318, q318, S318, n318_, H318, G318⟩ := id f312_A_itR
   have hin318 : ¬ ((0 : Int32) < 0 ∨ cl318.slots.size ≤ ((0 : Int32)).toNatClampNeg) := inb_of S318 ⟨by decide, by decide⟩
   obtain ⟨T318, h318, X318, e318, W318, st318⟩ := stR X315 hx hZ e315 Ar318 (j := (0 : Int32)) hin318 rfl (Sto.ofV Ar318 q318 ovr_itR (Ins.of_exa f312_E_iv_ (hU 133 _ rfl))) (g := (mkF m 210 (fA4 iv_ kkR oR p3) [(.ref iv_), (.int 0), (.ref itR)])) rfl rfl (hb hby d15_210)
   have f318_E_oR := f312_E_oR.wr W318
   have f318_F_firsts_oR := f312_F_firsts_oR.other W318 (Or.inl (Exa.neArv f312_E_oR f312_A_itR (hU 10 _ rfl)))
   have f318_E_kkR := f312_E_kkR.wr W318
   have f318_F_size_kkR := f312_F_size_kkR.other W318 (Or.inl (Exa.neArv f312_E_kkR f312_A_itR (hU 25 _ rfl)))
   have f318_F_starts_kkR := f312_F_starts_kkR.other W318 (Or.inl (Exa.neArv f312_E_kkR f312_A_itR (hU 25 _ rfl)))
   have f318_A_fiR := f312_A_fiR.other W318 ne_fiR_itR
   have f318_F_ends_kkR := f312_F_ends_kkR.other W318 (Or.inl (Exa.neArv f312_E_kkR f312_A_itR (hU 25 _ rfl)))
   have f318_F_items_kkR := f312_F_items_kkR.other W318 (Or.inl (Exa.neArv f312_E_kkR f312_A_itR (hU 25 _ rfl)))
   have f318_E_iv_ := f312_E_iv_.wr W318
   have f318_A_saR := f312_A_saR.other W318 ne_saR_itR
   have f318_A_enR := v312.other W318 ne_enR_itR
   have z318 : n0 ≤ h318.size := by rw [W318.size]; exact z312
   have K318 : Keep h0 h318 [saR, enR, itR, kkR, fiR] := K312.wr W318 (Or.inl (List.mem_of_getElem? (i := 2) rfl))
   have v318 : Arv Z h318 itR kitR (.object "java/lang/Object") (256 : Int32) [(.ref iv_), (.ref iv_), (.ref iv_)] .null := Arv.set Ar318 q318 S318 n318_ H318 G318 rfl W318 0 rfl (Nat.le_of_ble_eq_true rfl)
   have N318 := Fr.snoc X318 N312 g_itR
   have R319 := fun t k => R317 t (st318 t k)
   have R320 : own_R p e below T318 (mkF m 214 (fA4 iv_ kkR oR p3) [(.ref kkR), (.ref kkR)]) s₁ f0 := fun t k => R319 t (by
    refine XS.aload X318.here hx rfl (hb hby d15_211) rfl rfl ?_
    refine XS.dup X318.here hx rfl (hb hby d15_213) rfl rfl ?_
    exact k)
   obtain ⟨T321, X321, e321, R322⟩ := own_gF R320 X318 hx hZ hown (Or.inr (hU 63 _ rfl)) Via.refl e318 f318_F_size_kkR rfl rfl (hb hby d15_214)
   have R323 : own_R p e below T321 (mkF m 219 (fA4 iv_ kkR oR p3) [(.int 3), (.ref kkR)]) s₁ f0 := fun t k => R322 t (by
    refine XS.iconst X321.here hx rfl (hb hby d15_217) ?_
    refine XS.iadd X321.here hx rfl (hb hby d15_218) rfl ?_
    exact k)
   obtain ⟨T324, h324, X324, e324, W324, st324⟩ := putF X321 hx hZ hown (Or.inr (hU 63 _ rfl)) Via.refl e321 f318_F_size_kkR f318_E_kkR (Or.inl (hU 64 _ rfl)) (hU 25 _ rfl) (ty := .int) (by decide) rfl rfl (g := (mkF m 219 (fA4 iv_ kkR oR p3) [(.int 3), (.ref kkR)])) rfl rfl (hb hby d15_219)
   have fw324 : Fld Z h324 kkR sN0 "size" "I" (.int 3) := f318_F_size_kkR.same W324
   have f324_E_oR := f318_E_oR.wr W324
   have f324_F_firsts_oR := f318_F_firsts_oR.other W324 (Or.inl (Exa.ne f318_E_oR f318_E_kkR (by decide)))
   have f324_E_kkR := f318_E_kkR.wr W324
   have f324_F_starts_kkR := f318_F_starts_kkR.other W324 (Or.inr (slot_ne (Or.inr (hU 32 _ rfl)) (Or.inl (hU 64 _ rfl)) (by decide) (t := (.array .int)) (t' := .int) (by decide) (by decide)))
   have f324_A_fiR := f318_A_fiR.other W324 (Ne.symm (Exa.neArv f318_E_kkR f318_A_fiR (hU 25 _ rfl)))
   have f324_F_ends_kkR := f318_F_ends_kkR.other W324 (Or.inr (slot_ne (Or.inr (hU 34 _ rfl)) (Or.inl (hU 64 _ rfl)) (by decide) (t := (.array .int)) (t' := .int) (by decide) (by decide)))
   have f324_F_items_kkR := f318_F_items_kkR.other W324 (Or.inr (slot_ne (Or.inr (hU 38 _ rfl)) (Or.inl (hU 64 _ rfl)) (by decide) (t := (.array (.object "java/lang/Object"))) (t' := .int) (by decide) (by decide)))
   have f324_E_iv_ := f318_E_iv_.wr W324
   have f324_A_saR := f318_A_saR.other W324 (Ne.symm (Exa.neArv f318_E_kkR f318_A_saR (hU 25 _ rfl)))
   have f324_A_enR := f318_A_enR.other W324 (Ne.symm (Exa.neArv f318_E_kkR f318_A_enR (hU 25 _ rfl)))
   have f324_A_itR := v318.other W324 (Ne.symm (Exa.neArv f318_E_kkR v318 (hU 25 _ rfl)))
   have z324 : n0 ≤ h324.size := by rw [W324.size]; exact z318
   have K324 : Keep h0 h324 [saR, enR, itR, kkR, fiR] := K318.wr W324 (Or.inl (List.mem_of_getElem? (i := 3) rfl))
   have N324 := Fr.snoc X324 N318 g_kkR
   have R325 := fun t k => R323 t (st324 t k)
   have R326 : own_R p e below T324 (mkF m 223 (fA4 iv_ kkR oR p3) [(.ref oR)]) s₁ f0 := fun t k => R325 t (by
    refine XS.aloadN X324.here hx rfl (hb hby d15_222) rfl rfl ?_
    exact k)
   obtain ⟨T327, X327, e327, R328⟩ := own_gF R326 X324 hx hZ hown (host := "") (Or.inl (hU 17 _ rfl)) Via.refl e324 f324_F_firsts_oR rfl rfl (hb hby d15_223)
   have R329 : own_R p e below T327 (mkF m 230 (fA4 iv_ kkR oR p3) [(.ref kkR), (.int 0), (.ref fiR)]) s₁ f0 := fun t k => R328 t (by
    refine XS.iload X327.here hx rfl (hb hby d15_226) rfl ?_
    refine XS.aload X327.here hx rfl (hb hby d15_228) rfl rfl ?_
    exact k)
   obtain ⟨T330, X330, e330, R331⟩ := own_gF R329 X327 hx hZ hown (Or.inr (hU 106 _ rfl)) Via.refl e327 f324_F_starts_kkR rfl rfl (hb hby d15_230)
   have R332 : own_R p e below T330 (mkF m 234 (fA4 iv_ kkR oR p3) [(.int 0), (.ref saR), (.int 0), (.ref fiR)]) s₁ f0 := fun t k => R331 t (by
    refine XS.iconst X330.here hx rfl (hb hby d15_233) ?_
    exact k)
   obtain ⟨cl333, Ar333, q333, S333, n333_, H333, G333⟩ := id f324_A_saR
   have hin333 : ¬ ((0 : Int32) < 0 ∨ cl333.slots.size ≤ ((0 : Int32)).toNatClampNeg) := inb_of S333 ⟨by decide, by decide⟩
   have hat333 : cl333.slots[((0 : Int32)).toNatClampNeg]? = some (.int p3) := Has.at H333 hin333 rfl
   have R334 : own_R p e below T330 (mkF m 235 (fA4 iv_ kkR oR p3) [(.int p3), (.int 0), (.ref fiR)]) s₁ f0 := fun t k => R332 t (X330.iaload hx (j := (0 : Int32)) (v := (.int p3)) (by rw [e330]; exact Ar333.1) (State.isArrayOf_alike hZ.alike Ar333.2.1) Ar333.2.2 hin333 hat333 (g := (mkF m 234 (fA4 iv_ kkR oR p3) [(.int 0), (.ref saR), (.int 0), (.ref fiR)])) rfl rfl (hb hby d15_234) _ k)
   obtain ⟨cl335, Ar335, q335, S335, n335_, H335, G335⟩ := id f324_A_fiR
   have hin335 : ¬ ((0 : Int32) < 0 ∨ cl335.slots.size ≤ ((0 : Int32)).toNatClampNeg) := inb_of S335 ⟨by decide, by decide⟩
   obtain ⟨T335, h335, X335, e335, W335, st335⟩ := stI X330 hx hZ e330 Ar335 (j := (0 : Int32)) hin335 (g := (mkF m 235 (fA4 iv_ kkR oR p3) [(.int p3), (.int 0), (.ref fiR)])) rfl rfl (hb hby d15_235)
   have f335_E_oR := f324_E_oR.wr W335
   have f335_F_firsts_oR := f324_F_firsts_oR.other W335 (Or.inl (Exa.neArv f324_E_oR f324_A_fiR (hU 10 _ rfl)))
   have f335_E_kkR := f324_E_kkR.wr W335
   have f335_F_size_kkR := fw324.other W335 (Or.inl (Exa.neArv f324_E_kkR f324_A_fiR (hU 25 _ rfl)))
   have f335_F_starts_kkR := f324_F_starts_kkR.other W335 (Or.inl (Exa.neArv f324_E_kkR f324_A_fiR (hU 25 _ rfl)))
   have f335_F_ends_kkR := f324_F_ends_kkR.other W335 (Or.inl (Exa.neArv f324_E_kkR f324_A_fiR (hU 25 _ rfl)))
   have f335_F_items_kkR := f324_F_items_kkR.other W335 (Or.inl (Exa.neArv f324_E_kkR f324_A_fiR (hU 25 _ rfl)))
   have f335_E_iv_ := f324_E_iv_.wr W335
   have f335_A_saR := f324_A_saR.other W335 (Ne.symm ne_fiR_saR)
   have f335_A_enR := f324_A_enR.other W335 (Ne.symm ne_fiR_enR)
   have f335_A_itR := f324_A_itR.other W335 (Ne.symm ne_fiR_itR)
   have z335 : n0 ≤ h335.size := by rw [W335.size]; exact z324
   have K335 : Keep h0 h335 [saR, enR, itR, kkR, fiR] := K324.wr W335 (Or.inl (List.mem_of_getElem? (i := 4) rfl))
   have v335 : Arv Z h335 fiR kfiR .int 1 [(.int p3)] (.int 0) := Arv.set Ar335 q335 S335 n335_ H335 G335 rfl W335 0 rfl (Nat.le_of_ble_eq_true rfl)
   have N335 := Fr.snoc X335 N324 g_fiR
   have R336 := fun t k => R334 t (st335 t k)
   have ei : own_ins p3 [xa, xb] = [p3, xa, xb] := own_in2_0 ho0 ho1
   obtain ⟨fs, hr, hrun, hended, hW, hsame⟩ := X335.leave (v := none) (fun _ => rfl)
   refine ⟨_, _, pre0 _ (R336 _ ?_), hrun, hended, _, _, rfl, ?_, ⟨_, rfl⟩, hW, hsame.mono (by decide) (by decide)⟩
   ·
    show own_S p e below T335 (mkF m 236 (fA4 iv_ kkR oR p3) []) _
    exact X335.returnOut hx Bd.returns (hb hby d15_236) hr
   ·
    show Q_rmOi1 Z oR p3 iv_ ckR kckR kkR fiR kfiR saR kstR enR kenR itR kitR [xa, xb] h0 n0 _ T335.heap _
    rw [e335]
    exact ⟨rfl, N335, K335, (by rw [ei]; exact f335_F_size_kkR), f335_F_starts_kkR, (by rw [ei]; exact v335), (by rw [ei]; exact f335_A_saR), f335_F_ends_kkR, f335_F_items_kkR, (by rw [ei]; exact f335_A_enR), (by rw [ei]; exact f335_A_itR)⟩
  ·
   have R337 : own_R p e below s₁ (mkF m 0 (fA17 iv_ oR p3) []) s₁ f0 := by have q := R0; rw [((own_pe2_1 ho0 ho1) : (own_p [xa, xb] p3) = (257 : Int64))] at q; exact q
   have R338 : own_R p e below s₁ (mkF m 4 (fA17 iv_ oR p3) [(.long (((257 : Int64).toUInt64 >>> ((32 : Int32) &&& 0x3f).toInt64.toUInt64).toInt64))]) s₁ f0 := fun t k => R337 t (by
    refine XS.lloadN X0.here hx rfl (hb hby d15_0) rfl ?_
    refine XS.bipush X0.here hx rfl (hb hby d15_1) ?_
    refine XS.lushr X0.here hx rfl (hb hby d15_3) rfl ?_
    exact k)
   have R339 : own_R p e below s₁ (mkF m 4 (fA17 iv_ oR p3) [(.long (0 : Int64))]) s₁ f0 := by have q := R338; rw [((by decide) : (((257 : Int64).toUInt64 >>> ((32 : Int32) &&& 0x3f).toInt64.toUInt64).toInt64) = (0 : Int64))] at q; exact q
   have R340 : own_R p e below s₁ (mkF m 5 (fA17 iv_ oR p3) [(.int ((0 : Int64).toInt32))]) s₁ f0 := fun t k => R339 t (by
    refine XS.l2i X0.here hx rfl (hb hby d15_4) rfl ?_
    exact k)
   have R341 : own_R p e below s₁ (mkF m 5 (fA17 iv_ oR p3) [(.int 0)]) s₁ f0 := by have q := R340; rw [((by decide) : ((0 : Int64).toInt32) = (0 : Int32))] at q; exact q
   have R342 : own_R p e below s₁ (mkF m 9 (fA30 iv_ oR p3) [(.int ((257 : Int64).toInt32))]) s₁ f0 := fun t k => R341 t (by
    refine XS.istore X0.here hx rfl (hb hby d15_5) rfl (l' := (fA30 iv_ oR p3)) rfl ?_
    refine XS.lloadN X0.here hx rfl (hb hby d15_7) rfl ?_
    refine XS.l2i X0.here hx rfl (hb hby d15_8) rfl ?_
    exact k)
   have R343 : own_R p e below s₁ (mkF m 9 (fA30 iv_ oR p3) [(.int 257)]) s₁ f0 := by have q := R342; rw [((by decide) : ((257 : Int64).toInt32) = (257 : Int32))] at q; exact q
   have R344 : own_R p e below s₁ (mkF m 16 (fA19 iv_ oR p3) [(.ref oR)]) s₁ f0 := fun t k => R343 t (by
    refine XS.sipush X0.here hx rfl (hb hby d15_9) ?_
    refine XS.isub X0.here hx rfl (hb hby d15_12) rfl ?_
    refine XS.istore X0.here hx rfl (hb hby d15_13) rfl (l' := (fA19 iv_ oR p3)) rfl ?_
    refine XS.aloadN X0.here hx rfl (hb hby d15_15) rfl rfl ?_
    exact k)
   obtain ⟨T345, X345, e345, R346⟩ := own_gF R344 X0 hx hZ hown (host := "") (Or.inl (hU 40 _ rfl)) Via.refl e0 F_chunks_oR rfl rfl (hb hby d15_16)
   have R347 : own_R p e below T345 (mkF m 21 (fA19 iv_ oR p3) [(.int 0), (.ref ckR)]) s₁ f0 := fun t k => R346 t (by
    refine XS.iload X345.here hx rfl (hb hby d15_19) rfl ?_
    exact k)
   obtain ⟨cl348, Ar348, q348, S348, n348_, H348, G348⟩ := id A_ckR
   have hin348 : ¬ ((0 : Int32) < 0 ∨ cl348.slots.size ≤ ((0 : Int32)).toNatClampNeg) := inb_of S348 ⟨by decide, by decide⟩
   have hat348 : cl348.slots[((0 : Int32)).toNatClampNeg]? = some (.ref kkR) := Has.at H348 hin348 rfl
   have R349 : own_R p e below T345 (mkF m 22 (fA19 iv_ oR p3) [(.ref kkR)]) s₁ f0 := fun t k => R347 t (X345.aaload hx (j := (0 : Int32)) (v := (.ref kkR)) (by rw [e345]; exact Ar348.1) (State.isArrayOf_alike hZ.alike Ar348.2.1) rfl Ar348.2.2 hin348 hat348 (g := (mkF m 21 (fA19 iv_ oR p3) [(.int 0), (.ref ckR)])) rfl rfl (hb hby d15_21) _ k)
   have R350 : own_R p e below T345 (mkF m 26 (fA31 iv_ kkR oR p3) [(.ref kkR)]) s₁ f0 := fun t k => R349 t (by
    refine XS.astore X345.here hx rfl (hb hby d15_22) rfl rfl (l' := (fA31 iv_ kkR oR p3)) rfl ?_
    refine XS.aload X345.here hx rfl (hb hby d15_24) rfl rfl ?_
    exact k)
   obtain ⟨T351, X351, e351, R352⟩ := own_gF R350 X345 hx hZ hown (Or.inr (hU 63 _ rfl)) Via.refl e345 lt_F_size_kkR rfl rfl (hb hby d15_26)
   have R353 : own_R p e below T351 (mkF m 104 (fA31 iv_ kkR oR p3) [(.ref kkR)]) s₁ f0 := fun t k => R352 t (by
    refine XS.sipush X351.here hx rfl (hb hby d15_29) ?_
    refine XS.icmpYes X351.here hx rfl (pc0 := 32) (pc' := 102) rfl (hb hby d15_32) rfl (feq (by decide : ¬ ((2 : Int32) = (256 : Int32)))).2 (by decide) (by decide) ?_
    refine XS.aload X351.here hx rfl (hb hby d15_102) rfl rfl ?_
    exact k)
   obtain ⟨T354, X354, e354, R355⟩ := own_gF R353 X351 hx hZ hown (Or.inr (hU 63 _ rfl)) Via.refl e351 lt_F_size_kkR rfl rfl (hb hby d15_104)
   have R356 : own_R p e below T354 (mkF m 114 (fA5 iv_ kkR oR p3) [(.ref kkR)]) s₁ f0 := fun t k => R355 t (by
    refine XS.iload X354.here hx rfl (hb hby d15_107) rfl ?_
    refine XS.isub X354.here hx rfl (hb hby d15_109) rfl ?_
    refine XS.istore X354.here hx rfl (hb hby d15_110) rfl (l' := (fA5 iv_ kkR oR p3)) rfl ?_
    refine XS.aload X354.here hx rfl (hb hby d15_112) rfl rfl ?_
    exact k)
   obtain ⟨T357, X357, e357, R358⟩ := own_gF R356 X354 hx hZ hown (Or.inr (hU 106 _ rfl)) Via.refl e354 F_starts_kkR rfl rfl (hb hby d15_114)
   have R359 : own_R p e below T357 (mkF m 121 (fA5 iv_ kkR oR p3) [(.ref kkR), (.int 1), (.ref saR)]) s₁ f0 := fun t k => R358 t (by
    refine XS.iload X357.here hx rfl (hb hby d15_117) rfl ?_
    refine XS.aload X357.here hx rfl (hb hby d15_119) rfl rfl ?_
    exact k)
   obtain ⟨T360, X360, e360, R361⟩ := own_gF R359 X357 hx hZ hown (Or.inr (hU 106 _ rfl)) Via.refl e357 F_starts_kkR rfl rfl (hb hby d15_121)
   have R362 : own_R p e below T360 (mkF m 130 (fA5 iv_ kkR oR p3) [(.int 1), (.int 2), (.ref saR), (.int 1), (.ref saR)]) s₁ f0 := fun t k => R361 t (by
    refine XS.iload X360.here hx rfl (hb hby d15_124) rfl ?_
    refine XS.iconst X360.here hx rfl (hb hby d15_126) ?_
    refine XS.iadd X360.here hx rfl (hb hby d15_127) rfl ?_
    refine XS.iload X360.here hx rfl (hb hby d15_128) rfl ?_
    exact k)
   obtain ⟨T363, h363, L363, X363, e363, N363, Kc363, v363_, st363⟩ := cpA X360 hx hZ hown (hU 107 _ rfl) (hU 110 _ rfl) (hU 108 _ rfl) (hU 109 _ rfl) e360 lt_A_saR lt_A_saR (us := [(.int xb)]) (Or.inl ⟨rfl, rfl⟩) (by decide) (by decide) (by decide) (by decide) (by decide) rfl (Nat.le_of_ble_eq_true rfl) N0 g_saR (g := (mkF m 130 (fA5 iv_ kkR oR p3) [(.int 1), (.int 2), (.ref saR), (.int 1), (.ref saR)])) rfl (by rw [hml]; rfl) rfl (hb hby d15_130) (by decide) (W := 0) (Nat.le_of_eq rfl) (by decide)
   have f363_E_oR := E_oR.keep Kc363
   have f363_F_firsts_oR := F_firsts_oR.keep Kc363 (ninS (Exa.neArv E_oR lt_A_saR (hU 10 _ rfl)) nin0)
   have f363_F_withItems_oR := F_withItems_oR.keep Kc363 (ninS (Exa.neArv E_oR lt_A_saR (hU 10 _ rfl)) nin0)
   have f363_E_kkR := E_kkR.keep Kc363
   have f363_F_size_kkR := lt_F_size_kkR.keep Kc363 (ninS (Exa.neArv E_kkR lt_A_saR (hU 25 _ rfl)) nin0)
   have f363_F_starts_kkR := F_starts_kkR.keep Kc363 (ninS (Exa.neArv E_kkR lt_A_saR (hU 25 _ rfl)) nin0)
   have f363_A_fiR := lt_A_fiR.keep Kc363 (ninS ne_fiR_saR nin0)
   have f363_F_ends_kkR := F_ends_kkR.keep Kc363 (ninS (Exa.neArv E_kkR lt_A_saR (hU 25 _ rfl)) nin0)
   have f363_F_items_kkR := F_items_kkR.keep Kc363 (ninS (Exa.neArv E_kkR lt_A_saR (hU 25 _ rfl)) nin0)
   have f363_A_enR := lt_A_enR.keep Kc363 (ninS (Ne.symm ne_saR_enR) nin0)
   have f363_A_itR := lt_A_itR.keep Kc363 (ninS (Ne.symm ne_saR_itR) nin0)
   have f363_E_iv_ := E_iv_.keep Kc363
   have z363 : n0 ≤ h363.size := Nat.le_trans Z0 Kc363.1
   have K363 : Keep h0 h363 [saR, enR, itR, kkR, fiR] := (Keep.refl h0 [saR, enR, itR, kkR, fiR]).trans Kc363 (allS (Or.inl (List.mem_of_getElem? (i := 0) rfl)) all0)
   have v363 : Arv Z h363 saR kstR .int 256 [(.int xa), (.int xb), (.int xb)] (.int 0) := v363_
   have R364 := fun t k => R362 t (st363 t k)
   have R365 : own_R p e below T363 (mkF m 135 (fA5 iv_ kkR oR p3) [(.ref kkR)]) s₁ f0 := fun t k => R364 t (by
    refine XS.aload X363.here hx rfl (hb hby d15_133) rfl rfl ?_
    exact k)
   obtain ⟨T366, X366, e366, R367⟩ := own_gF R365 X363 hx hZ hown (Or.inr (hU 106 _ rfl)) Via.refl e363 f363_F_starts_kkR rfl rfl (hb hby d15_135)
   have R368 : own_R p e below T366 (mkF m 141 (fA5 iv_ kkR oR p3) [(.int p3), (.int 1), (.ref saR)]) s₁ f0 := fun t k => R367 t (by
    refine XS.iload X366.here hx rfl (hb hby d15_138) rfl ?_
    refine XS.iloadN X366.here hx rfl (hb hby d15_140) rfl ?_
    exact k)
   obtain ⟨cl369, Ar369, q369, S369, n369_, H369, G369⟩ := id v363
   have hin369 : ¬ ((1 : Int32) < 0 ∨ cl369.slots.size ≤ ((1 : Int32)).toNatClampNeg) := inb_of S369 ⟨by decide, by decide⟩
   obtain ⟨T369, h369, X369, e369, W369, st369⟩ := stI X366 hx hZ e366 Ar369 (j := (1 : Int32)) hin369 (g := (mkF m 141 (fA5 iv_ kkR oR p3) [(.int p3), (.int 1), (.ref saR)])) rfl rfl (hb hby d15_141)
   have f369_E_oR := f363_E_oR.wr W369
   have f369_F_firsts_oR := f363_F_firsts_oR.other W369 (Or.inl (Exa.neArv f363_E_oR v363 (hU 10 _ rfl)))
   have f369_F_withItems_oR := f363_F_withItems_oR.other W369 (Or.inl (Exa.neArv f363_E_oR v363 (hU 10 _ rfl)))
   have f369_E_kkR := f363_E_kkR.wr W369
   have f369_F_size_kkR := f363_F_size_kkR.other W369 (Or.inl (Exa.neArv f363_E_kkR v363 (hU 25 _ rfl)))
   have f369_F_starts_kkR := f363_F_starts_kkR.other W369 (Or.inl (Exa.neArv f363_E_kkR v363 (hU 25 _ rfl)))
   have f369_A_fiR := f363_A_fiR.other W369 ne_fiR_saR
   have f369_F_ends_kkR := f363_F_ends_kkR.other W369 (Or.inl (Exa.neArv f363_E_kkR v363 (hU 25 _ rfl)))
   have f369_F_items_kkR := f363_F_items_kkR.other W369 (Or.inl (Exa.neArv f363_E_kkR v363 (hU 25 _ rfl)))
   have f369_A_enR := f363_A_enR.other W369 (Ne.symm ne_saR_enR)
   have f369_A_itR := f363_A_itR.other W369 (Ne.symm ne_saR_itR)
   have f369_E_iv_ := f363_E_iv_.wr W369
   have z369 : n0 ≤ h369.size := by rw [W369.size]; exact z363
   have K369 : Keep h0 h369 [saR, enR, itR, kkR, fiR] := K363.wr W369 (Or.inl (List.mem_of_getElem? (i := 0) rfl))
   have v369 : Arv Z h369 saR kstR .int 256 [(.int xa), (.int p3), (.int xb)] (.int 0) := Arv.set Ar369 q369 S369 n369_ H369 G369 rfl W369 1 rfl (Nat.le_of_ble_eq_true rfl)
   have N369 := Fr.snoc X369 N363 g_saR
   have R370 := fun t k => R368 t (st369 t k)
   have R371 : own_R p e below T369 (mkF m 143 (fA5 iv_ kkR oR p3) [(.ref oR)]) s₁ f0 := fun t k => R370 t (by
    refine XS.aloadN X369.here hx rfl (hb hby d15_142) rfl rfl ?_
    exact k)
   obtain ⟨T372, X372, e372, R373⟩ := own_gF R371 X369 hx hZ hown (host := "") (Or.inl (hU 21 _ rfl)) Via.refl e369 f369_F_withItems_oR rfl rfl (hb hby d15_143)
   have R374 : own_R p e below T372 (mkF m 151 (fA5 iv_ kkR oR p3) [(.ref kkR)]) s₁ f0 := fun t k => R373 t (by
    refine XS.ifNo X372.here hx rfl (hb hby d15_146) rfl ((if0 _ _).trans (feq (by decide : ¬ ((1 : Int32) = (0 : Int32)))).1) ?_
    refine XS.aload X372.here hx rfl (hb hby d15_149) rfl rfl ?_
    exact k)
   obtain ⟨T375, X375, e375, R376⟩ := own_gF R374 X372 hx hZ hown (Or.inr (hU 131 _ rfl)) Via.refl e372 f369_F_ends_kkR rfl rfl (hb hby d15_151)
   have R377 : own_R p e below T375 (mkF m 158 (fA5 iv_ kkR oR p3) [(.ref kkR), (.int 1), (.ref enR)]) s₁ f0 := fun t k => R376 t (by
    refine XS.iload X375.here hx rfl (hb hby d15_154) rfl ?_
    refine XS.aload X375.here hx rfl (hb hby d15_156) rfl rfl ?_
    exact k)
   obtain ⟨T378, X378, e378, R379⟩ := own_gF R377 X375 hx hZ hown (Or.inr (hU 131 _ rfl)) Via.refl e375 f369_F_ends_kkR rfl rfl (hb hby d15_158)
   have R380 : own_R p e below T378 (mkF m 167 (fA5 iv_ kkR oR p3) [(.int 1), (.int 2), (.ref enR), (.int 1), (.ref enR)]) s₁ f0 := fun t k => R379 t (by
    refine XS.iload X378.here hx rfl (hb hby d15_161) rfl ?_
    refine XS.iconst X378.here hx rfl (hb hby d15_163) ?_
    refine XS.iadd X378.here hx rfl (hb hby d15_164) rfl ?_
    refine XS.iload X378.here hx rfl (hb hby d15_165) rfl ?_
    exact k)
   obtain ⟨T381, h381, L381, X381, e381, N381, Kc381, v381_, st381⟩ := cpA X378 hx hZ hown (hU 107 _ rfl) (hU 110 _ rfl) (hU 108 _ rfl) (hU 109 _ rfl) e378 f369_A_enR f369_A_enR (us := [(.int (xb + (1 : Int32)))]) (Or.inl ⟨rfl, rfl⟩) (by decide) (by decide) (by decide) (by decide) (by decide) rfl (Nat.le_of_ble_eq_true rfl) N369 g_enR (g := (mkF m 167 (fA5 iv_ kkR oR p3) [(.int 1), (.int 2), (.ref enR), (.int 1), (.ref enR)])) rfl (by rw [hml]; rfl) rfl (hb hby d15_167) (by decide) (W := 0) (Nat.le_of_eq rfl) (by decide)
   have f381_E_oR := f369_E_oR.keep Kc381
   have f381_F_firsts_oR := f369_F_firsts_oR.keep Kc381 (ninS (Exa.neArv f369_E_oR f369_A_enR (hU 10 _ rfl)) nin0)
   have f381_E_kkR := f369_E_kkR.keep Kc381
   have f381_F_size_kkR := f369_F_size_kkR.keep Kc381 (ninS (Exa.neArv f369_E_kkR f369_A_enR (hU 25 _ rfl)) nin0)
   have f381_F_starts_kkR := f369_F_starts_kkR.keep Kc381 (ninS (Exa.neArv f369_E_kkR f369_A_enR (hU 25 _ rfl)) nin0)
   have f381_A_fiR := f369_A_fiR.keep Kc381 (ninS ne_fiR_enR nin0)
   have f381_F_ends_kkR := f369_F_ends_kkR.keep Kc381 (ninS (Exa.neArv f369_E_kkR f369_A_enR (hU 25 _ rfl)) nin0)
   have f381_F_items_kkR := f369_F_items_kkR.keep Kc381 (ninS (Exa.neArv f369_E_kkR f369_A_enR (hU 25 _ rfl)) nin0)
   have f381_A_itR := f369_A_itR.keep Kc381 (ninS (Ne.symm ne_enR_itR) nin0)
   have f381_E_iv_ := f369_E_iv_.keep Kc381
   have f381_A_saR := v369.keep Kc381 (ninS ne_saR_enR nin0)
   have z381 : n0 ≤ h381.size := Nat.le_trans z369 Kc381.1
   have K381 : Keep h0 h381 [saR, enR, itR, kkR, fiR] := K369.trans Kc381 (allS (Or.inl (List.mem_of_getElem? (i := 1) rfl)) all0)
   have v381 : Arv Z h381 enR kenR .int 256 [(.int (xa + (1 : Int32))), (.int (xb + (1 : Int32))), (.int (xb + (1 : Int32)))] (.int 0) := v381_
   have R382 := fun t k => R380 t (st381 t k)
   have R383 : own_R p e below T381 (mkF m 172 (fA5 iv_ kkR oR p3) [(.ref kkR)]) s₁ f0 := fun t k => R382 t (by
    refine XS.aload X381.here hx rfl (hb hby d15_170) rfl rfl ?_
    exact k)
   obtain ⟨T384, X384, e384, R385⟩ := own_gF R383 X381 hx hZ hown (Or.inr (hU 132 _ rfl)) Via.refl e381 f381_F_items_kkR rfl rfl (hb hby d15_172)
   have R386 : own_R p e below T384 (mkF m 179 (fA5 iv_ kkR oR p3) [(.ref kkR), (.int 1), (.ref itR)]) s₁ f0 := fun t k => R385 t (by
    refine XS.iload X384.here hx rfl (hb hby d15_175) rfl ?_
    refine XS.aload X384.here hx rfl (hb hby d15_177) rfl rfl ?_
    exact k)
   obtain ⟨T387, X387, e387, R388⟩ := own_gF R386 X384 hx hZ hown (Or.inr (hU 132 _ rfl)) Via.refl e384 f381_F_items_kkR rfl rfl (hb hby d15_179)
   have R389 : own_R p e below T387 (mkF m 188 (fA5 iv_ kkR oR p3) [(.int 1), (.int 2), (.ref itR), (.int 1), (.ref itR)]) s₁ f0 := fun t k => R388 t (by
    refine XS.iload X387.here hx rfl (hb hby d15_182) rfl ?_
    refine XS.iconst X387.here hx rfl (hb hby d15_184) ?_
    refine XS.iadd X387.here hx rfl (hb hby d15_185) rfl ?_
    refine XS.iload X387.here hx rfl (hb hby d15_186) rfl ?_
    exact k)
   obtain ⟨T390, h390, L390, X390, e390, N390, Kc390, v390_, st390⟩ := cpA X387 hx hZ hown (hU 107 _ rfl) (hU 110 _ rfl) (hU 108 _ rfl) (hU 109 _ rfl) e387 f381_A_itR f381_A_itR (us := [(.ref iv_)]) (Or.inr ⟨rfl, rfl, ⟨own_sto f381_A_itR ovr_itR (Ins.of_exa f381_E_iv_ (hU 133 _ rfl)), trivial⟩⟩) (by decide) (by decide) (by decide) (by decide) (by decide) rfl (Nat.le_of_ble_eq_true rfl) N381 g_itR (g := (mkF m 188 (fA5 iv_ kkR oR p3) [(.int 1), (.int 2), (.ref itR), (.int 1), (.ref itR)])) rfl (by rw [hml]; rfl) rfl (hb hby d15_188) (by decide) (W := 0) (Nat.le_of_eq rfl) (by decide)
   have f390_E_oR := f381_E_oR.keep Kc390
   have f390_F_firsts_oR := f381_F_firsts_oR.keep Kc390 (ninS (Exa.neArv f381_E_oR f381_A_itR (hU 10 _ rfl)) nin0)
   have f390_E_kkR := f381_E_kkR.keep Kc390
   have f390_F_size_kkR := f381_F_size_kkR.keep Kc390 (ninS (Exa.neArv f381_E_kkR f381_A_itR (hU 25 _ rfl)) nin0)
   have f390_F_starts_kkR := f381_F_starts_kkR.keep Kc390 (ninS (Exa.neArv f381_E_kkR f381_A_itR (hU 25 _ rfl)) nin0)
   have f390_A_fiR := f381_A_fiR.keep Kc390 (ninS ne_fiR_itR nin0)
   have f390_F_ends_kkR := f381_F_ends_kkR.keep Kc390 (ninS (Exa.neArv f381_E_kkR f381_A_itR (hU 25 _ rfl)) nin0)
   have f390_F_items_kkR := f381_F_items_kkR.keep Kc390 (ninS (Exa.neArv f381_E_kkR f381_A_itR (hU 25 _ rfl)) nin0)
   have f390_E_iv_ := f381_E_iv_.keep Kc390
   have f390_A_saR := f381_A_saR.keep Kc390 (ninS ne_saR_itR nin0)
   have f390_A_enR := v381.keep Kc390 (ninS ne_enR_itR nin0)
   have z390 : n0 ≤ h390.size := Nat.le_trans z381 Kc390.1
   have K390 : Keep h0 h390 [saR, enR, itR, kkR, fiR] := K381.trans Kc390 (allS (Or.inl (List.mem_of_getElem? (i := 2) rfl)) all0)
   have v390 : Arv Z h390 itR kitR (.object "java/lang/Object") (256 : Int32) [(.ref iv_), (.ref iv_), (.ref iv_)] .null := v390_
   have R391 := fun t k => R389 t (st390 t k)
   have R392 : own_R p e below T390 (mkF m 193 (fA5 iv_ kkR oR p3) [(.ref kkR)]) s₁ f0 := fun t k => R391 t (by
    refine XS.aload X390.here hx rfl (hb hby d15_191) rfl rfl ?_
    exact k)
   obtain ⟨T393, X393, e393, R394⟩ := own_gF R392 X390 hx hZ hown (Or.inr (hU 131 _ rfl)) Via.refl e390 f390_F_ends_kkR rfl rfl (hb hby d15_193)
   have R395 : own_R p e below T393 (mkF m 200 (fA5 iv_ kkR oR p3) [(.int (p3 + (1 : Int32))), (.int 1), (.ref enR)]) s₁ f0 := fun t k => R394 t (by
    refine XS.iload X393.here hx rfl (hb hby d15_196) rfl ?_
    refine XS.iload X393.here hx rfl (hb hby d15_198) rfl ?_
    exact k)
   obtain ⟨cl396, Ar396, q396, S396, n396_, H396, G396⟩ := id f390_A_enR
   have hin396 : ¬ ((1 : Int32) < 0 ∨ cl396.slots.size ≤ ((1 : Int32)).toNatClampNeg) := inb_of S396 ⟨by decide, by decide⟩
   obtain ⟨T396, h396, X396, e396, W396, st396⟩ := stI X393 hx hZ e393 Ar396 (j := (1 : Int32)) hin396 (g := (mkF m 200 (fA5 iv_ kkR oR p3) [(.int (p3 + (1 : Int32))), (.int 1), (.ref enR)])) rfl rfl (hb hby d15_200)
   have f396_E_oR := f390_E_oR.wr W396
   have f396_F_firsts_oR := f390_F_firsts_oR.other W396 (Or.inl (Exa.neArv f390_E_oR f390_A_enR (hU 10 _ rfl)))
   have f396_E_kkR := f390_E_kkR.wr W396
   have f396_F_size_kkR := f390_F_size_kkR.other W396 (Or.inl (Exa.neArv f390_E_kkR f390_A_enR (hU 25 _ rfl)))
   have f396_F_starts_kkR := f390_F_starts_kkR.other W396 (Or.inl (Exa.neArv f390_E_kkR f390_A_enR (hU 25 _ rfl)))
   have f396_A_fiR := f390_A_fiR.other W396 ne_fiR_enR
   have f396_F_ends_kkR := f390_F_ends_kkR.other W396 (Or.inl (Exa.neArv f390_E_kkR f390_A_enR (hU 25 _ rfl)))
   have f396_F_items_kkR := f390_F_items_kkR.other W396 (Or.inl (Exa.neArv f390_E_kkR f390_A_enR (hU 25 _ rfl)))
   have f396_E_iv_ := f390_E_iv_.wr W396
   have f396_A_saR := f390_A_saR.other W396 ne_saR_enR
   have f396_A_itR := v390.other W396 (Ne.symm ne_enR_itR)
   have z396 : n0 ≤ h396.size := by rw [W396.size]; exact z390
   have K396 : Keep h0 h396 [saR, enR, itR, kkR, fiR] := K390.wr W396 (Or.inl (List.mem_of_getElem? (i := 1) rfl))
   have v396 : Arv Z h396 enR kenR .int 256 [(.int (xa + (1 : Int32))), (.int (p3 + (1 : Int32))), (.int (xb + (1 : Int32)))] (.int 0) := Arv.set Ar396 q396 S396 n396_ H396 G396 rfl W396 1 rfl (Nat.le_of_ble_eq_true rfl)
   have N396 := Fr.snoc X396 N390 g_enR
   have R397 := fun t k => R395 t (st396 t k)
   have R398 : own_R p e below T396 (mkF m 203 (fA5 iv_ kkR oR p3) [(.ref kkR)]) s₁ f0 := fun t k => R397 t (by
    refine XS.aload X396.here hx rfl (hb hby d15_201) rfl rfl ?_
    exact k)
   obtain ⟨T399, X399, e399, R400⟩ := own_gF R398 X396 hx hZ hown (Or.inr (hU 132 _ rfl)) Via.refl e396 f396_F_items_kkR rfl rfl (hb hby d15_203)
   have R401 : own_R p e below T399 (mkF m 210 (fA5 iv_ kkR oR p3) [(.ref iv_), (.int 1), (.ref itR)]) s₁ f0 := fun t k => R400 t (by
    refine XS.iload X399.here hx rfl (hb hby d15_206) rfl ?_
    refine XS.aload X399.here hx rfl (hb hby d15_208) rfl rfl ?_
    exact k)
   obtain ⟨cl402, Ar402, q402, S402, n402_, H402, G402⟩ := id f396_A_itR
   have hin402 : ¬ ((1 : Int32) < 0 ∨ cl402.slots.size ≤ ((1 : Int32)).toNatClampNeg) := inb_of S402 ⟨by decide, by decide⟩
   obtain ⟨T402, h402, X402, e402, W402, st402⟩ := stR X399 hx hZ e399 Ar402 (j := (1 : Int32)) hin402 rfl (Sto.ofV Ar402 q402 ovr_itR (Ins.of_exa f396_E_iv_ (hU 133 _ rfl))) (g := (mkF m 210 (fA5 iv_ kkR oR p3) [(.ref iv_), (.int 1), (.ref itR)])) rfl rfl (hb hby d15_210)
   have f402_E_oR := f396_E_oR.wr W402
   have f402_F_firsts_oR := f396_F_firsts_oR.other W402 (Or.inl (Exa.neArv f396_E_oR f396_A_itR (hU 10 _ rfl)))
   have f402_E_kkR := f396_E_kkR.wr W402
   have f402_F_size_kkR := f396_F_size_kkR.other W402 (Or.inl (Exa.neArv f396_E_kkR f396_A_itR (hU 25 _ rfl)))
   have f402_F_starts_kkR := f396_F_starts_kkR.other W402 (Or.inl (Exa.neArv f396_E_kkR f396_A_itR (hU 25 _ rfl)))
   have f402_A_fiR := f396_A_fiR.other W402 ne_fiR_itR
   have f402_F_ends_kkR := f396_F_ends_kkR.other W402 (Or.inl (Exa.neArv f396_E_kkR f396_A_itR (hU 25 _ rfl)))
   have f402_F_items_kkR := f396_F_items_kkR.other W402 (Or.inl (Exa.neArv f396_E_kkR f396_A_itR (hU 25 _ rfl)))
   have f402_E_iv_ := f396_E_iv_.wr W402
   have f402_A_saR := f396_A_saR.other W402 ne_saR_itR
   have f402_A_enR := v396.other W402 ne_enR_itR
   have z402 : n0 ≤ h402.size := by rw [W402.size]; exact z396
   have K402 : Keep h0 h402 [saR, enR, itR, kkR, fiR] := K396.wr W402 (Or.inl (List.mem_of_getElem? (i := 2) rfl))
   have v402 : Arv Z h402 itR kitR (.object "java/lang/Object") (256 : Int32) [(.ref iv_), (.ref iv_), (.ref iv_)] .null := Arv.set Ar402 q402 S402 n402_ H402 G402 rfl W402 1 rfl (Nat.le_of_ble_eq_true rfl)
   have N402 := Fr.snoc X402 N396 g_itR
   have R403 := fun t k => R401 t (st402 t k)
   have R404 : own_R p e below T402 (mkF m 214 (fA5 iv_ kkR oR p3) [(.ref kkR), (.ref kkR)]) s₁ f0 := fun t k => R403 t (by
    refine XS.aload X402.here hx rfl (hb hby d15_211) rfl rfl ?_
    refine XS.dup X402.here hx rfl (hb hby d15_213) rfl rfl ?_
    exact k)
   obtain ⟨T405, X405, e405, R406⟩ := own_gF R404 X402 hx hZ hown (Or.inr (hU 63 _ rfl)) Via.refl e402 f402_F_size_kkR rfl rfl (hb hby d15_214)
   have R407 : own_R p e below T405 (mkF m 219 (fA5 iv_ kkR oR p3) [(.int 3), (.ref kkR)]) s₁ f0 := fun t k => R406 t (by
    refine XS.iconst X405.here hx rfl (hb hby d15_217) ?_
    refine XS.iadd X405.here hx rfl (hb hby d15_218) rfl ?_
    exact k)
   obtain ⟨T408, h408, X408, e408, W408, st408⟩ := putF X405 hx hZ hown (Or.inr (hU 63 _ rfl)) Via.refl e405 f402_F_size_kkR f402_E_kkR (Or.inl (hU 64 _ rfl)) (hU 25 _ rfl) (ty := .int) (by decide) rfl rfl (g := (mkF m 219 (fA5 iv_ kkR oR p3) [(.int 3), (.ref kkR)])) rfl rfl (hb hby d15_219)
   have fw408 : Fld Z h408 kkR sN0 "size" "I" (.int 3) := f402_F_size_kkR.same W408
   have f408_E_oR := f402_E_oR.wr W408
   have f408_F_firsts_oR := f402_F_firsts_oR.other W408 (Or.inl (Exa.ne f402_E_oR f402_E_kkR (by decide)))
   have f408_E_kkR := f402_E_kkR.wr W408
   have f408_F_starts_kkR := f402_F_starts_kkR.other W408 (Or.inr (slot_ne (Or.inr (hU 32 _ rfl)) (Or.inl (hU 64 _ rfl)) (by decide) (t := (.array .int)) (t' := .int) (by decide) (by decide)))
   have f408_A_fiR := f402_A_fiR.other W408 (Ne.symm (Exa.neArv f402_E_kkR f402_A_fiR (hU 25 _ rfl)))
   have f408_F_ends_kkR := f402_F_ends_kkR.other W408 (Or.inr (slot_ne (Or.inr (hU 34 _ rfl)) (Or.inl (hU 64 _ rfl)) (by decide) (t := (.array .int)) (t' := .int) (by decide) (by decide)))
   have f408_F_items_kkR := f402_F_items_kkR.other W408 (Or.inr (slot_ne (Or.inr (hU 38 _ rfl)) (Or.inl (hU 64 _ rfl)) (by decide) (t := (.array (.object "java/lang/Object"))) (t' := .int) (by decide) (by decide)))
   have f408_E_iv_ := f402_E_iv_.wr W408
   have f408_A_saR := f402_A_saR.other W408 (Ne.symm (Exa.neArv f402_E_kkR f402_A_saR (hU 25 _ rfl)))
   have f408_A_enR := f402_A_enR.other W408 (Ne.symm (Exa.neArv f402_E_kkR f402_A_enR (hU 25 _ rfl)))
   have f408_A_itR := v402.other W408 (Ne.symm (Exa.neArv f402_E_kkR v402 (hU 25 _ rfl)))
   have z408 : n0 ≤ h408.size := by rw [W408.size]; exact z402
   have K408 : Keep h0 h408 [saR, enR, itR, kkR, fiR] := K402.wr W408 (Or.inl (List.mem_of_getElem? (i := 3) rfl))
   have N408 := Fr.snoc X408 N402 g_kkR
   have R409 := fun t k => R407 t (st408 t k)
   have R410 : own_R p e below T408 (mkF m 223 (fA5 iv_ kkR oR p3) [(.ref oR)]) s₁ f0 := fun t k => R409 t (by
    refine XS.aloadN X408.here hx rfl (hb hby d15_222) rfl rfl ?_
    exact k)
   obtain ⟨T411, X411, e411, R412⟩ := own_gF R410 X408 hx hZ hown (host := "") (Or.inl (hU 17 _ rfl)) Via.refl e408 f408_F_firsts_oR rfl rfl (hb hby d15_223)
   have R413 : own_R p e below T411 (mkF m 230 (fA5 iv_ kkR oR p3) [(.ref kkR), (.int 0), (.ref fiR)]) s₁ f0 := fun t k => R412 t (by
    refine XS.iload X411.here hx rfl (hb hby d15_226) rfl ?_
    refine XS.aload X411.here hx rfl (hb hby d15_228) rfl rfl ?_
    exact k)
   obtain ⟨T414, X414, e414, R415⟩ := own_gF R413 X411 hx hZ hown (Or.inr (hU 106 _ rfl)) Via.refl e411 f408_F_starts_kkR rfl rfl (hb hby d15_230)
   have R416 : own_R p e below T414 (mkF m 234 (fA5 iv_ kkR oR p3) [(.int 0), (.ref saR), (.int 0), (.ref fiR)]) s₁ f0 := fun t k => R415 t (by
    refine XS.iconst X414.here hx rfl (hb hby d15_233) ?_
    exact k)
   obtain ⟨cl417, Ar417, q417, S417, n417_, H417, G417⟩ := id f408_A_saR
   have hin417 : ¬ ((0 : Int32) < 0 ∨ cl417.slots.size ≤ ((0 : Int32)).toNatClampNeg) := inb_of S417 ⟨by decide, by decide⟩
   have hat417 : cl417.slots[((0 : Int32)).toNatClampNeg]? = some (.int xa) := Has.at H417 hin417 rfl
   have R418 : own_R p e below T414 (mkF m 235 (fA5 iv_ kkR oR p3) [(.int xa), (.int 0), (.ref fiR)]) s₁ f0 := fun t k => R416 t (X414.iaload hx (j := (0 : Int32)) (v := (.int xa)) (by rw [e414]; exact Ar417.1) (State.isArrayOf_alike hZ.alike Ar417.2.1) Ar417.2.2 hin417 hat417 (g := (mkF m 234 (fA5 iv_ kkR oR p3) [(.int 0), (.ref saR), (.int 0), (.ref fiR)])) rfl rfl (hb hby d15_234) _ k)
   obtain ⟨cl419, Ar419, q419, S419, n419_, H419, G419⟩ := id f408_A_fiR
   have hin419 : ¬ ((0 : Int32) < 0 ∨ cl419.slots.size ≤ ((0 : Int32)).toNatClampNeg) := inb_of S419 ⟨by decide, by decide⟩
   obtain ⟨T419, h419, X419, e419, W419, st419⟩ := stI X414 hx hZ e414 Ar419 (j := (0 : Int32)) hin419 (g := (mkF m 235 (fA5 iv_ kkR oR p3) [(.int xa), (.int 0), (.ref fiR)])) rfl rfl (hb hby d15_235)
   have f419_E_oR := f408_E_oR.wr W419
   have f419_F_firsts_oR := f408_F_firsts_oR.other W419 (Or.inl (Exa.neArv f408_E_oR f408_A_fiR (hU 10 _ rfl)))
   have f419_E_kkR := f408_E_kkR.wr W419
   have f419_F_size_kkR := fw408.other W419 (Or.inl (Exa.neArv f408_E_kkR f408_A_fiR (hU 25 _ rfl)))
   have f419_F_starts_kkR := f408_F_starts_kkR.other W419 (Or.inl (Exa.neArv f408_E_kkR f408_A_fiR (hU 25 _ rfl)))
   have f419_F_ends_kkR := f408_F_ends_kkR.other W419 (Or.inl (Exa.neArv f408_E_kkR f408_A_fiR (hU 25 _ rfl)))
   have f419_F_items_kkR := f408_F_items_kkR.other W419 (Or.inl (Exa.neArv f408_E_kkR f408_A_fiR (hU 25 _ rfl)))
   have f419_E_iv_ := f408_E_iv_.wr W419
   have f419_A_saR := f408_A_saR.other W419 (Ne.symm ne_fiR_saR)
   have f419_A_enR := f408_A_enR.other W419 (Ne.symm ne_fiR_enR)
   have f419_A_itR := f408_A_itR.other W419 (Ne.symm ne_fiR_itR)
   have z419 : n0 ≤ h419.size := by rw [W419.size]; exact z408
   have K419 : Keep h0 h419 [saR, enR, itR, kkR, fiR] := K408.wr W419 (Or.inl (List.mem_of_getElem? (i := 4) rfl))
   have v419 : Arv Z h419 fiR kfiR .int 1 [(.int xa)] (.int 0) := Arv.set Ar419 q419 S419 n419_ H419 G419 rfl W419 0 rfl (Nat.le_of_ble_eq_true rfl)
   have N419 := Fr.snoc X419 N408 g_fiR
   have R420 := fun t k => R418 t (st419 t k)
   have ei : own_ins p3 [xa, xb] = [xa, p3, xb] := own_in2_1 ho0 ho1
   obtain ⟨fs, hr, hrun, hended, hW, hsame⟩ := X419.leave (v := none) (fun _ => rfl)
   refine ⟨_, _, pre0 _ (R420 _ ?_), hrun, hended, _, _, rfl, ?_, ⟨_, rfl⟩, hW, hsame.mono (by decide) (by decide)⟩
   ·
    show own_S p e below T419 (mkF m 236 (fA5 iv_ kkR oR p3) []) _
    exact X419.returnOut hx Bd.returns (hb hby d15_236) hr
   ·
    show Q_rmOi1 Z oR p3 iv_ ckR kckR kkR fiR kfiR saR kstR enR kenR itR kitR [xa, xb] h0 n0 _ T419.heap _
    rw [e419]
    exact ⟨rfl, N419, K419, (by rw [ei]; exact f419_F_size_kkR), f419_F_starts_kkR, (by rw [ei]; exact v419), (by rw [ei]; exact f419_A_saR), f419_F_ends_kkR, f419_F_items_kkR, (by rw [ei]; exact f419_A_enR), (by rw [ei]; exact f419_A_itR)⟩
  ·
   exact absurd ho1 (hnl.resolve_left (by simp))
theorem ef_rmOi0 (m : MethodId) (x0 : Addr) (x1 : Int64) (x2 : Int32) (x3 : Int32) : entryFrame m #[(.ref x0), (.long x1), (.int x2), (.int x3), .null] 10 = mkF m 0 #[rv x0, own_l x1, .second, iv x2, iv x3, .val .null, .unset, .unset, .unset, .unset] [] := by first | (simp [entryFrame, mkF, argsToLocals, Value.category]; done) | rfl
def Q_rmOi0 (Z : State) (oR : Addr) (p3 : Int32) (ckR : Addr) (kckR : ClassId) (kkR : Addr) (fiR : Addr) (kfiR : ClassId) (saR : Addr) (kstR : ClassId) (xs : List Int32) (h0 : Heap) (n0 : Nat) (v : Option Value) (h : Heap) (L : List Loc) : Prop := v = none ∧ Fr n0 L ∧ Keep h0 h [saR, kkR, fiR] ∧ (Fld Z h kkR sN0 "size" "I" (.int (own_n (own_ins p3 xs)))) ∧ (Fld Z h kkR sN0 "starts" "[I" (.ref saR)) ∧ (Arv Z h fiR kfiR .int 1 [(.int (own_h (own_ins p3 xs)))] (.int 0)) ∧ (Arv Z h saR kstR .int 256 (own_v (own_ins p3 xs)) (.int 0))
set_option maxRecDepth 65536 in
set_option maxHeartbeats 40000000 in
theorem rmOi0 (l : Launch) (Z : State) (a0 : Array Value) (hw : ∀ d ∈ tables_1, d.before a0 Z = true) (ws : List Jvm.Cond) (oR : Addr) (p3 : Int32) (ckR : Addr) (kckR : ClassId) (kkR : Addr) (fiR : Addr) (kfiR : ClassId) (saR : Addr) (kstR : ClassId) (xs : List Int32) (h0 : Heap) (n0 : Nat) (Z0 : n0 ≤ h0.size) (E_oR : Exa Z h0 oR sN1) (F_chunks_oR : Fld Z h0 oR sN1 "chunks" sN2 (.ref ckR)) (F_chunkCount_oR : Fld Z h0 oR sN1 "chunkCount" "I" (.int 1)) (F_firsts_oR : Fld Z h0 oR sN1 "firsts" "[I" (.ref fiR)) (F_withItems_oR : Fld Z h0 oR sN1 "withItems" "Z" (.int 0)) (A_ckR : Arv Z h0 ckR kckR (.object sN0) (1 : Int32) [(.ref kkR)] .null) (E_kkR : Exa Z h0 kkR sN0) (F_size_kkR : Fld Z h0 kkR sN0 "size" "I" (.int (own_n xs))) (F_starts_kkR : Fld Z h0 kkR sN0 "starts" "[I" (.ref saR)) (A_fiR : Arv Z h0 fiR kfiR .int 1 [(.int (own_h xs))] (.int 0)) (A_saR : Arv Z h0 saR kstR .int 256 (own_v xs) (.int 0)) (g_saR : n0 ≤ saR) (g_kkR : n0 ≤ kkR) (g_fiR : n0 ≤ fiR) (ne_fiR_ckR : fiR ≠ ckR) (ne_fiR_saR : fiR ≠ saR) (ne_ckR_saR : ckR ≠ saR) (hlen : xs.length ≤ 2) (hso : own_so xs) (hq : p3 ∉ xs) :
  own_M l yN6 (Jvm.Cond.code yN6 prog_118_method_6_code 10 none :: ws) ({ frames := 1, cells := 0, slots := 0, locals := 18 } : Room) #[(.ref oR), (.long (own_p xs p3)), (.int p3), (.int p3), .null] Z h0 (Q_rmOi0 Z oR p3 ckR kckR kkR fiR kfiR saR kstR xs h0 n0) := by
 refine MetFree.of_bodySF (plainFor_of_name pn_1) hisR ?_
 intro p e s m args below meth c s₁ Bd hml0 hP hK
 obtain ⟨rfl, hZ, hh⟩ := hP
 have hx := Bd.exec
 have hby := Bd.bytes
 have hml : c.maxLocals = 10 := hml0
 have hown : s.vm.findClass sN1 = some m.cls := findClass_of_methodNamed Bd.named
 have hnm := (name_of_methodNamed Bd.named Bd.method).1
 have X0 : Stand p l e ({ frames := 1, cells := 0, slots := 0, locals := 18 } : Room) s m #[(.ref oR), (.long (own_p xs p3)), (.int p3), (.int p3), .null] below meth c s₁ [] 0 0 := Stand.of_body Bd
 have hU : ∀ (i : Nat) (d : Jvm.Cond), tables_1[i]? = some d → d.before a0 Z = true := fun i d h => hw d (List.mem_of_getElem? h)
 have e0 : s₁.heap = h0 := by rw [← hh, Bd.state]; rfl
 have N0 := Fr.nil n0
 obtain ⟨f0, hf0⟩ : ∃ f : JFrame, f = mkF m 0 #[rv oR, own_l (own_p xs p3), .second, iv p3, iv p3, .val .null, .unset, .unset, .unset, .unset] [] := ⟨_, rfl⟩
 have pre0 : ∀ t, own_S p e below s₁ f0 t → Steps p.tables e below (s₁.setTop (entryFrame m #[(.ref oR), (.long (own_p xs p3)), (.int p3), (.int p3), .null] 10)) t := fun t k => castTop ((ef_rmOi0 m oR (own_p xs p3) p3 p3).trans hf0.symm) k
 have R0 : own_R p e below s₁ (mkF m 0 #[rv oR, own_l (own_p xs p3), .second, iv p3, iv p3, .val .null, .unset, .unset, .unset, .unset] []) s₁ f0 := by rw [hf0]; exact fun t k => k
 rcases own_sh2 hlen with rfl | ⟨xa, rfl⟩ | ⟨xa, xb, rfl⟩
 ·
  have lt_F_size_kkR : Fld Z h0 kkR sN0 "size" "I" (.int 0) := F_size_kkR
  have lt_A_fiR : Arv Z h0 fiR kfiR .int 1 [(.int 0)] (.int 0) := A_fiR
  have lt_A_saR : Arv Z h0 saR kstR .int 256 [(.int 0), (.int 0), (.int 0)] (.int 0) := A_saR
  have R1 : own_R p e below s₁ (mkF m 0 #[rv oR, own_l (256 : Int64), .second, iv p3, iv p3, .val .null, .unset, .unset, .unset, .unset] []) s₁ f0 := by have q := R0; rw [((own_pe0_0 p3) : (own_p [] p3) = (256 : Int64))] at q; exact q
  have R2 : own_R p e below s₁ (mkF m 4 #[rv oR, own_l (256 : Int64), .second, iv p3, iv p3, .val .null, .unset, .unset, .unset, .unset] [(.long (((256 : Int64).toUInt64 >>> ((32 : Int32) &&& 0x3f).toInt64.toUInt64).toInt64))]) s₁ f0 := fun t k => R1 t (by
   refine XS.lloadN X0.here hx rfl (hb hby d15_0) rfl ?_
   refine XS.bipush X0.here hx rfl (hb hby d15_1) ?_
   refine XS.lushr X0.here hx rfl (hb hby d15_3) rfl ?_
   exact k)
  have R3 : own_R p e below s₁ (mkF m 4 #[rv oR, own_l (256 : Int64), .second, iv p3, iv p3, .val .null, .unset, .unset, .unset, .unset] [(.long (0 : Int64))]) s₁ f0 := by have q := R2; rw [((by decide) : (((256 : Int64).toUInt64 >>> ((32 : Int32) &&& 0x3f).toInt64.toUInt64).toInt64) = (0 : Int64))] at q; exact q
  have R4 : own_R p e below s₁ (mkF m 5 #[rv oR, own_l (256 : Int64), .second, iv p3, iv p3, .val .null, .unset, .unset, .unset, .unset] [(.int ((0 : Int64).toInt32))]) s₁ f0 := fun t k => R3 t (by
   refine XS.l2i X0.here hx rfl (hb hby d15_4) rfl ?_
   exact k)
  have R5 : own_R p e below s₁ (mkF m 5 #[rv oR, own_l (256 : Int64), .second, iv p3, iv p3, .val .null, .unset, .unset, .unset, .unset] [(.int 0)]) s₁ f0 := by have q := R4; rw [((by decide) : ((0 : Int64).toInt32) = (0 : Int32))] at q; exact q
  have R6 : own_R p e below s₁ (mkF m 9 #[rv oR, own_l (256 : Int64), .second, iv p3, iv p3, .val .null, iv 0, .unset, .unset, .unset] [(.int ((256 : Int64).toInt32))]) s₁ f0 := fun t k => R5 t (by
   refine XS.istore X0.here hx rfl (hb hby d15_5) rfl (l' := #[rv oR, own_l (256 : Int64), .second, iv p3, iv p3, .val .null, iv 0, .unset, .unset, .unset]) rfl ?_
   refine XS.lloadN X0.here hx rfl (hb hby d15_7) rfl ?_
   refine XS.l2i X0.here hx rfl (hb hby d15_8) rfl ?_
   exact k)
  have R7 : own_R p e below s₁ (mkF m 9 #[rv oR, own_l (256 : Int64), .second, iv p3, iv p3, .val .null, iv 0, .unset, .unset, .unset] [(.int 256)]) s₁ f0 := by have q := R6; rw [((by decide) : ((256 : Int64).toInt32) = (256 : Int32))] at q; exact q
  have R8 : own_R p e below s₁ (mkF m 16 #[rv oR, own_l (256 : Int64), .second, iv p3, iv p3, .val .null, iv 0, iv 0, .unset, .unset] [(.ref oR)]) s₁ f0 := fun t k => R7 t (by
   refine XS.sipush X0.here hx rfl (hb hby d15_9) ?_
   refine XS.isub X0.here hx rfl (hb hby d15_12) rfl ?_
   refine XS.istore X0.here hx rfl (hb hby d15_13) rfl (l' := #[rv oR, own_l (256 : Int64), .second, iv p3, iv p3, .val .null, iv 0, iv 0, .unset, .unset]) rfl ?_
   refine XS.aloadN X0.here hx rfl (hb hby d15_15) rfl rfl ?_
   exact k)
  obtain ⟨T9, X9, e9, R10⟩ := own_gF R8 X0 hx hZ hown (host := "") (Or.inl (hU 40 _ rfl)) Via.refl e0 F_chunks_oR rfl rfl (hb hby d15_16)
  have R11 : own_R p e below T9 (mkF m 21 #[rv oR, own_l (256 : Int64), .second, iv p3, iv p3, .val .null, iv 0, iv 0, .unset, .unset] [(.int 0), (.ref ckR)]) s₁ f0 := fun t k => R10 t (by
   refine XS.iload X9.here hx rfl (hb hby d15_19) rfl ?_
   exact k)
  obtain ⟨cl12, Ar12, q12, S12, n12_, H12, G12⟩ := id A_ckR
  have hin12 : ¬ ((0 : Int32) < 0 ∨ cl12.slots.size ≤ ((0 : Int32)).toNatClampNeg) := inb_of S12 ⟨by decide, by decide⟩
  have hat12 : cl12.slots[((0 : Int32)).toNatClampNeg]? = some (.ref kkR) := Has.at H12 hin12 rfl
  have R13 : own_R p e below T9 (mkF m 22 #[rv oR, own_l (256 : Int64), .second, iv p3, iv p3, .val .null, iv 0, iv 0, .unset, .unset] [(.ref kkR)]) s₁ f0 := fun t k => R11 t (X9.aaload hx (j := (0 : Int32)) (v := (.ref kkR)) (by rw [e9]; exact Ar12.1) (State.isArrayOf_alike hZ.alike Ar12.2.1) rfl Ar12.2.2 hin12 hat12 (g := (mkF m 21 #[rv oR, own_l (256 : Int64), .second, iv p3, iv p3, .val .null, iv 0, iv 0, .unset, .unset] [(.int 0), (.ref ckR)])) rfl rfl (hb hby d15_21) _ k)
  have R14 : own_R p e below T9 (mkF m 26 #[rv oR, own_l (256 : Int64), .second, iv p3, iv p3, .val .null, iv 0, iv 0, rv kkR, .unset] [(.ref kkR)]) s₁ f0 := fun t k => R13 t (by
   refine XS.astore X9.here hx rfl (hb hby d15_22) rfl rfl (l' := #[rv oR, own_l (256 : Int64), .second, iv p3, iv p3, .val .null, iv 0, iv 0, rv kkR, .unset]) rfl ?_
   refine XS.aload X9.here hx rfl (hb hby d15_24) rfl rfl ?_
   exact k)
  obtain ⟨T15, X15, e15, R16⟩ := own_gF R14 X9 hx hZ hown (Or.inr (hU 63 _ rfl)) Via.refl e9 lt_F_size_kkR rfl rfl (hb hby d15_26)
  have R17 : own_R p e below T15 (mkF m 104 #[rv oR, own_l (256 : Int64), .second, iv p3, iv p3, .val .null, iv 0, iv 0, rv kkR, .unset] [(.ref kkR)]) s₁ f0 := fun t k => R16 t (by
   refine XS.sipush X15.here hx rfl (hb hby d15_29) ?_
   refine XS.icmpYes X15.here hx rfl (pc0 := 32) (pc' := 102) rfl (hb hby d15_32) rfl (feq (by decide : ¬ ((0 : Int32) = (256 : Int32)))).2 (by decide) (by decide) ?_
   refine XS.aload X15.here hx rfl (hb hby d15_102) rfl rfl ?_
   exact k)
  obtain ⟨T18, X18, e18, R19⟩ := own_gF R17 X15 hx hZ hown (Or.inr (hU 63 _ rfl)) Via.refl e15 lt_F_size_kkR rfl rfl (hb hby d15_104)
  have R20 : own_R p e below T18 (mkF m 114 #[rv oR, own_l (256 : Int64), .second, iv p3, iv p3, .val .null, iv 0, iv 0, rv kkR, iv 0] [(.ref kkR)]) s₁ f0 := fun t k => R19 t (by
   refine XS.iload X18.here hx rfl (hb hby d15_107) rfl ?_
   refine XS.isub X18.here hx rfl (hb hby d15_109) rfl ?_
   refine XS.istore X18.here hx rfl (hb hby d15_110) rfl (l' := #[rv oR, own_l (256 : Int64), .second, iv p3, iv p3, .val .null, iv 0, iv 0, rv kkR, iv 0]) rfl ?_
   refine XS.aload X18.here hx rfl (hb hby d15_112) rfl rfl ?_
   exact k)
  obtain ⟨T21, X21, e21, R22⟩ := own_gF R20 X18 hx hZ hown (Or.inr (hU 106 _ rfl)) Via.refl e18 F_starts_kkR rfl rfl (hb hby d15_114)
  have R23 : own_R p e below T21 (mkF m 121 #[rv oR, own_l (256 : Int64), .second, iv p3, iv p3, .val .null, iv 0, iv 0, rv kkR, iv 0] [(.ref kkR), (.int 0), (.ref saR)]) s₁ f0 := fun t k => R22 t (by
   refine XS.iload X21.here hx rfl (hb hby d15_117) rfl ?_
   refine XS.aload X21.here hx rfl (hb hby d15_119) rfl rfl ?_
   exact k)
  obtain ⟨T24, X24, e24, R25⟩ := own_gF R23 X21 hx hZ hown (Or.inr (hU 106 _ rfl)) Via.refl e21 F_starts_kkR rfl rfl (hb hby d15_121)
  have R26 : own_R p e below T24 (mkF m 130 #[rv oR, own_l (256 : Int64), .second, iv p3, iv p3, .val .null, iv 0, iv 0, rv kkR, iv 0] [(.int 0), (.int 1), (.ref saR), (.int 0), (.ref saR)]) s₁ f0 := fun t k => R25 t (by
   refine XS.iload X24.here hx rfl (hb hby d15_124) rfl ?_
   refine XS.iconst X24.here hx rfl (hb hby d15_126) ?_
   refine XS.iadd X24.here hx rfl (hb hby d15_127) rfl ?_
   refine XS.iload X24.here hx rfl (hb hby d15_128) rfl ?_
   exact k)
  obtain ⟨T27, h27, L27, X27, e27, N27, Kc27, v27_, st27⟩ := cpA X24 hx hZ hown (hU 107 _ rfl) (hU 110 _ rfl) (hU 108 _ rfl) (hU 109 _ rfl) e24 lt_A_saR lt_A_saR (us := []) (Or.inl ⟨rfl, rfl⟩) (by decide) (by decide) (by decide) (by decide) (by decide) rfl (Nat.le_of_ble_eq_true rfl) N0 g_saR (g := (mkF m 130 #[rv oR, own_l (256 : Int64), .second, iv p3, iv p3, .val .null, iv 0, iv 0, rv kkR, iv 0] [(.int 0), (.int 1), (.ref saR), (.int 0), (.ref saR)])) rfl (by rw [hml]; rfl) rfl (hb hby d15_130) (by decide) (W := 0) (Nat.le_of_eq rfl) (by decide)
  have f27_E_oR := E_oR.keep Kc27
  have f27_F_firsts_oR := F_firsts_oR.keep Kc27 (ninS (Exa.neArv E_oR lt_A_saR (hU 10 _ rfl)) nin0)
  have f27_F_withItems_oR := F_withItems_oR.keep Kc27 (ninS (Exa.neArv E_oR lt_A_saR (hU 10 _ rfl)) nin0)
  have f27_E_kkR := E_kkR.keep Kc27
  have f27_F_size_kkR := lt_F_size_kkR.keep Kc27 (ninS (Exa.neArv E_kkR lt_A_saR (hU 25 _ rfl)) nin0)
  have f27_F_starts_kkR := F_starts_kkR.keep Kc27 (ninS (Exa.neArv E_kkR lt_A_saR (hU 25 _ rfl)) nin0)
  have f27_A_fiR := lt_A_fiR.keep Kc27 (ninS ne_fiR_saR nin0)
  have z27 : n0 ≤ h27.size := Nat.le_trans Z0 Kc27.1
  have K27 : Keep h0 h27 [saR, kkR, fiR] := (Keep.refl h0 [saR, kkR, fiR]).trans Kc27 (allS (Or.inl (List.mem_of_getElem? (i := 0) rfl)) all0)
  have v27 : Arv Z h27 saR kstR .int 256 [(.int 0), (.int 0), (.int 0)] (.int 0) := v27_
  have R28 := fun t k => R26 t (st27 t k)
  have R29 : own_R p e below T27 (mkF m 135 #[rv oR, own_l (256 : Int64), .second, iv p3, iv p3, .val .null, iv 0, iv 0, rv kkR, iv 0] [(.ref kkR)]) s₁ f0 := fun t k => R28 t (by
   refine XS.aload X27.here hx rfl (hb hby d15_133) rfl rfl ?_
   exact k)
  obtain ⟨T30, X30, e30, R31⟩ := own_gF R29 X27 hx hZ hown (Or.inr (hU 106 _ rfl)) Via.refl e27 f27_F_starts_kkR rfl rfl (hb hby d15_135)
  have R32 : own_R p e below T30 (mkF m 141 #[rv oR, own_l (256 : Int64), .second, iv p3, iv p3, .val .null, iv 0, iv 0, rv kkR, iv 0] [(.int p3), (.int 0), (.ref saR)]) s₁ f0 := fun t k => R31 t (by
   refine XS.iload X30.here hx rfl (hb hby d15_138) rfl ?_
   refine XS.iloadN X30.here hx rfl (hb hby d15_140) rfl ?_
   exact k)
  obtain ⟨cl33, Ar33, q33, S33, n33_, H33, G33⟩ := id v27
  have hin33 : ¬ ((0 : Int32) < 0 ∨ cl33.slots.size ≤ ((0 : Int32)).toNatClampNeg) := inb_of S33 ⟨by decide, by decide⟩
  obtain ⟨T33, h33, X33, e33, W33, st33⟩ := stI X30 hx hZ e30 Ar33 (j := (0 : Int32)) hin33 (g := (mkF m 141 #[rv oR, own_l (256 : Int64), .second, iv p3, iv p3, .val .null, iv 0, iv 0, rv kkR, iv 0] [(.int p3), (.int 0), (.ref saR)])) rfl rfl (hb hby d15_141)
  have f33_E_oR := f27_E_oR.wr W33
  have f33_F_firsts_oR := f27_F_firsts_oR.other W33 (Or.inl (Exa.neArv f27_E_oR v27 (hU 10 _ rfl)))
  have f33_F_withItems_oR := f27_F_withItems_oR.other W33 (Or.inl (Exa.neArv f27_E_oR v27 (hU 10 _ rfl)))
  have f33_E_kkR := f27_E_kkR.wr W33
  have f33_F_size_kkR := f27_F_size_kkR.other W33 (Or.inl (Exa.neArv f27_E_kkR v27 (hU 25 _ rfl)))
  have f33_F_starts_kkR := f27_F_starts_kkR.other W33 (Or.inl (Exa.neArv f27_E_kkR v27 (hU 25 _ rfl)))
  have f33_A_fiR := f27_A_fiR.other W33 ne_fiR_saR
  have z33 : n0 ≤ h33.size := by rw [W33.size]; exact z27
  have K33 : Keep h0 h33 [saR, kkR, fiR] := K27.wr W33 (Or.inl (List.mem_of_getElem? (i := 0) rfl))
  have v33 : Arv Z h33 saR kstR .int 256 [(.int p3), (.int 0), (.int 0)] (.int 0) := Arv.set Ar33 q33 S33 n33_ H33 G33 rfl W33 0 rfl (Nat.le_of_ble_eq_true rfl)
  have N33 := Fr.snoc X33 N27 g_saR
  have R34 := fun t k => R32 t (st33 t k)
  have R35 : own_R p e below T33 (mkF m 143 #[rv oR, own_l (256 : Int64), .second, iv p3, iv p3, .val .null, iv 0, iv 0, rv kkR, iv 0] [(.ref oR)]) s₁ f0 := fun t k => R34 t (by
   refine XS.aloadN X33.here hx rfl (hb hby d15_142) rfl rfl ?_
   exact k)
  obtain ⟨T36, X36, e36, R37⟩ := own_gF R35 X33 hx hZ hown (host := "") (Or.inl (hU 21 _ rfl)) Via.refl e33 f33_F_withItems_oR rfl rfl (hb hby d15_143)
  have R38 : own_R p e below T36 (mkF m 214 #[rv oR, own_l (256 : Int64), .second, iv p3, iv p3, .val .null, iv 0, iv 0, rv kkR, iv 0] [(.ref kkR), (.ref kkR)]) s₁ f0 := fun t k => R37 t (by
   refine XS.ifYes X36.here hx rfl (pc0 := 146) (pc' := 211) rfl (hb hby d15_146) rfl ((if0 _ _).trans (teq (by decide : (0 : Int32) = (0 : Int32))).1) (by decide) (by decide) ?_
   refine XS.aload X36.here hx rfl (hb hby d15_211) rfl rfl ?_
   refine XS.dup X36.here hx rfl (hb hby d15_213) rfl rfl ?_
   exact k)
  obtain ⟨T39, X39, e39, R40⟩ := own_gF R38 X36 hx hZ hown (Or.inr (hU 63 _ rfl)) Via.refl e36 f33_F_size_kkR rfl rfl (hb hby d15_214)
  have R41 : own_R p e below T39 (mkF m 219 #[rv oR, own_l (256 : Int64), .second, iv p3, iv p3, .val .null, iv 0, iv 0, rv kkR, iv 0] [(.int 1), (.ref kkR)]) s₁ f0 := fun t k => R40 t (by
   refine XS.iconst X39.here hx rfl (hb hby d15_217) ?_
   refine XS.iadd X39.here hx rfl (hb hby d15_218) rfl ?_
   exact k)
  obtain ⟨T42, h42, X42, e42, W42, st42⟩ := putF X39 hx hZ hown (Or.inr (hU 63 _ rfl)) Via.refl e39 f33_F_size_kkR f33_E_kkR (Or.inl (hU 64 _ rfl)) (hU 25 _ rfl) (ty := .int) (by decide) rfl rfl (g := (mkF m 219 #[rv oR, own_l (256 : Int64), .second, iv p3, iv p3, .val .null, iv 0, iv 0, rv kkR, iv 0] [(.int 1), (.ref kkR)])) rfl rfl (hb hby d15_219)
  have fw42 : Fld Z h42 kkR sN0 "size" "I" (.int 1) := f33_F_size_kkR.same W42
  have f42_E_oR := f33_E_oR.wr W42
  have f42_F_firsts_oR := f33_F_firsts_oR.other W42 (Or.inl (Exa.ne f33_E_oR f33_E_kkR (by decide)))
  have f42_E_kkR := f33_E_kkR.wr W42
  have f42_F_starts_kkR := f33_F_starts_kkR.other W42 (Or.inr (slot_ne (Or.inr (hU 32 _ rfl)) (Or.inl (hU 64 _ rfl)) (by decide) (t := (.array .int)) (t' := .int) (by decide) (by decide)))
  have f42_A_fiR := f33_A_fiR.other W42 (Ne.symm (Exa.neArv f33_E_kkR f33_A_fiR (hU 25 _ rfl)))
  have f42_A_saR := v33.other W42 (Ne.symm (Exa.neArv f33_E_kkR v33 (hU 25 _ rfl)))
  have z42 : n0 ≤ h42.size := by rw [W42.size]; exact z33
  have K42 : Keep h0 h42 [saR, kkR, fiR] := K33.wr W42 (Or.inl (List.mem_of_getElem? (i := 1) rfl))
  have N42 := Fr.snoc X42 N33 g_kkR
  have R43 := fun t k => R41 t (st42 t k)
  have R44 : own_R p e below T42 (mkF m 223 #[rv oR, own_l (256 : Int64), .second, iv p3, iv p3, .val .null, iv 0, iv 0, rv kkR, iv 0] [(.ref oR)]) s₁ f0 := fun t k => R43 t (by
   refine XS.aloadN X42.here hx rfl (hb hby d15_222) rfl rfl ?_
   exact k)
  obtain ⟨T45, X45, e45, R46⟩ := own_gF R44 X42 hx hZ hown (host := "") (Or.inl (hU 17 _ rfl)) Via.refl e42 f42_F_firsts_oR rfl rfl (hb hby d15_223)
  have R47 : own_R p e below T45 (mkF m 230 #[rv oR, own_l (256 : Int64), .second, iv p3, iv p3, .val .null, iv 0, iv 0, rv kkR, iv 0] [(.ref kkR), (.int 0), (.ref fiR)]) s₁ f0 := fun t k => R46 t (by
   refine XS.iload X45.here hx rfl (hb hby d15_226) rfl ?_
   refine XS.aload X45.here hx rfl (hb hby d15_228) rfl rfl ?_
   exact k)
  obtain ⟨T48, X48, e48, R49⟩ := own_gF R47 X45 hx hZ hown (Or.inr (hU 106 _ rfl)) Via.refl e45 f42_F_starts_kkR rfl rfl (hb hby d15_230)
  have R50 : own_R p e below T48 (mkF m 234 #[rv oR, own_l (256 : Int64), .second, iv p3, iv p3, .val .null, iv 0, iv 0, rv kkR, iv 0] [(.int 0), (.ref saR), (.int 0), (.ref fiR)]) s₁ f0 := fun t k => R49 t (by
   refine XS.iconst X48.here hx rfl (hb hby d15_233) ?_
   exact k)
  obtain ⟨cl51, Ar51, q51, S51, n51_, H51, G51⟩ := id f42_A_saR
  have hin51 : ¬ ((0 : Int32) < 0 ∨ cl51.slots.size ≤ ((0 : Int32)).toNatClampNeg) := inb_of S51 ⟨by decide, by decide⟩
  have hat51 : cl51.slots[((0 : Int32)).toNatClampNeg]? = some (.int p3) := Has.at H51 hin51 rfl
  have R52 : own_R p e below T48 (mkF m 235 #[rv oR, own_l (256 : Int64), .second, iv p3, iv p3, .val .null, iv 0, iv 0, rv kkR, iv 0] [(.int p3), (.int 0), (.ref fiR)]) s₁ f0 := fun t k => R50 t (X48.iaload hx (j := (0 : Int32)) (v := (.int p3)) (by rw [e48]; exact Ar51.1) (State.isArrayOf_alike hZ.alike Ar51.2.1) Ar51.2.2 hin51 hat51 (g := (mkF m 234 #[rv oR, own_l (256 : Int64), .second, iv p3, iv p3, .val .null, iv 0, iv 0, rv kkR, iv 0] [(.int 0), (.ref saR), (.int 0), (.ref fiR)])) rfl rfl (hb hby d15_234) _ k)
  obtain ⟨cl53, Ar53, q53, S53, n53_, H53, G53⟩ := id f42_A_fiR
  have hin53 : ¬ ((0 : Int32) < 0 ∨ cl53.slots.size ≤ ((0 : Int32)).toNatClampNeg) := inb_of S53 ⟨by decide, by decide⟩
  obtain ⟨T53, h53, X53, e53, W53, st53⟩ := stI X48 hx hZ e48 Ar53 (j := (0 : Int32)) hin53 (g := (mkF m 235 #[rv oR, own_l (256 : Int64), .second, iv p3, iv p3, .val .null, iv 0, iv 0, rv kkR, iv 0] [(.int p3), (.int 0), (.ref fiR)])) rfl rfl (hb hby d15_235)
  have f53_E_oR := f42_E_oR.wr W53
  have f53_F_firsts_oR := f42_F_firsts_oR.other W53 (Or.inl (Exa.neArv f42_E_oR f42_A_fiR (hU 10 _ rfl)))
  have f53_E_kkR := f42_E_kkR.wr W53
  have f53_F_size_kkR := fw42.other W53 (Or.inl (Exa.neArv f42_E_kkR f42_A_fiR (hU 25 _ rfl)))
  have f53_F_starts_kkR := f42_F_starts_kkR.other W53 (Or.inl (Exa.neArv f42_E_kkR f42_A_fiR (hU 25 _ rfl)))
  have f53_A_saR := f42_A_saR.other W53 (Ne.symm ne_fiR_saR)
  have z53 : n0 ≤ h53.size := by rw [W53.size]; exact z42
  have K53 : Keep h0 h53 [saR, kkR, fiR] := K42.wr W53 (Or.inl (List.mem_of_getElem? (i := 2) rfl))
  have v53 : Arv Z h53 fiR kfiR .int 1 [(.int p3)] (.int 0) := Arv.set Ar53 q53 S53 n53_ H53 G53 rfl W53 0 rfl (Nat.le_of_ble_eq_true rfl)
  have N53 := Fr.snoc X53 N42 g_fiR
  have R54 := fun t k => R52 t (st53 t k)
  have ei : own_ins p3 [] = [p3] := own_in0_0 p3
  obtain ⟨fs, hr, hrun, hended, hW, hsame⟩ := X53.leave (v := none) (fun _ => rfl)
  refine ⟨_, _, pre0 _ (R54 _ ?_), hrun, hended, _, _, rfl, ?_, ⟨_, rfl⟩, hW, hsame.mono (by decide) (by decide)⟩
  ·
   show own_S p e below T53 (mkF m 236 #[rv oR, own_l (256 : Int64), .second, iv p3, iv p3, .val .null, iv 0, iv 0, rv kkR, iv 0] []) _
   exact X53.returnOut hx Bd.returns (hb hby d15_236) hr
  ·
   show Q_rmOi0 Z oR p3 ckR kckR kkR fiR kfiR saR kstR [] h0 n0 _ T53.heap _
   rw [e53]
   exact ⟨rfl, N53, K53, (by rw [ei]; exact f53_F_size_kkR), f53_F_starts_kkR, (by rw [ei]; exact v53), (by rw [ei]; exact f53_A_saR)⟩
 ·
  have lt_F_size_kkR : Fld Z h0 kkR sN0 "size" "I" (.int 1) := F_size_kkR
  have lt_A_fiR : Arv Z h0 fiR kfiR .int 1 [(.int xa)] (.int 0) := A_fiR
  have lt_A_saR : Arv Z h0 saR kstR .int 256 [(.int xa), (.int 0), (.int 0)] (.int 0) := A_saR
  rcases own_q1 hq with ho0 | ho0
  ·
   have R55 : own_R p e below s₁ (mkF m 0 #[rv oR, own_l (256 : Int64), .second, iv p3, iv p3, .val .null, .unset, .unset, .unset, .unset] []) s₁ f0 := by have q := R0; rw [((own_pe1_0 ho0) : (own_p [xa] p3) = (256 : Int64))] at q; exact q
   have R56 : own_R p e below s₁ (mkF m 4 #[rv oR, own_l (256 : Int64), .second, iv p3, iv p3, .val .null, .unset, .unset, .unset, .unset] [(.long (((256 : Int64).toUInt64 >>> ((32 : Int32) &&& 0x3f).toInt64.toUInt64).toInt64))]) s₁ f0 := fun t k => R55 t (by
    refine XS.lloadN X0.here hx rfl (hb hby d15_0) rfl ?_
    refine XS.bipush X0.here hx rfl (hb hby d15_1) ?_
    refine XS.lushr X0.here hx rfl (hb hby d15_3) rfl ?_
    exact k)
   have R57 : own_R p e below s₁ (mkF m 4 #[rv oR, own_l (256 : Int64), .second, iv p3, iv p3, .val .null, .unset, .unset, .unset, .unset] [(.long (0 : Int64))]) s₁ f0 := by have q := R56; rw [((by decide) : (((256 : Int64).toUInt64 >>> ((32 : Int32) &&& 0x3f).toInt64.toUInt64).toInt64) = (0 : Int64))] at q; exact q
   have R58 : own_R p e below s₁ (mkF m 5 #[rv oR, own_l (256 : Int64), .second, iv p3, iv p3, .val .null, .unset, .unset, .unset, .unset] [(.int ((0 : Int64).toInt32))]) s₁ f0 := fun t k => R57 t (by
    refine XS.l2i X0.here hx rfl (hb hby d15_4) rfl ?_
    exact k)
   have R59 : own_R p e below s₁ (mkF m 5 #[rv oR, own_l (256 : Int64), .second, iv p3, iv p3, .val .null, .unset, .unset, .unset, .unset] [(.int 0)]) s₁ f0 := by have q := R58; rw [((by decide) : ((0 : Int64).toInt32) = (0 : Int32))] at q; exact q
   have R60 : own_R p e below s₁ (mkF m 9 #[rv oR, own_l (256 : Int64), .second, iv p3, iv p3, .val .null, iv 0, .unset, .unset, .unset] [(.int ((256 : Int64).toInt32))]) s₁ f0 := fun t k => R59 t (by
    refine XS.istore X0.here hx rfl (hb hby d15_5) rfl (l' := #[rv oR, own_l (256 : Int64), .second, iv p3, iv p3, .val .null, iv 0, .unset, .unset, .unset]) rfl ?_
    refine XS.lloadN X0.here hx rfl (hb hby d15_7) rfl ?_
    refine XS.l2i X0.here hx rfl (hb hby d15_8) rfl ?_
    exact k)
   have R61 : own_R p e below s₁ (mkF m 9 #[rv oR, own_l (256 : Int64), .second, iv p3, iv p3, .val .null, iv 0, .unset, .unset, .unset] [(.int 256)]) s₁ f0 := by have q := R60; rw [((by decide) : ((256 : Int64).toInt32) = (256 : Int32))] at q; exact q
   have R62 : own_R p e below s₁ (mkF m 16 #[rv oR, own_l (256 : Int64), .second, iv p3, iv p3, .val .null, iv 0, iv 0, .unset, .unset] [(.ref oR)]) s₁ f0 := fun t k => R61 t (by
    refine XS.sipush X0.here hx rfl (hb hby d15_9) ?_
    refine XS.isub X0.here hx rfl (hb hby d15_12) rfl ?_
    refine XS.istore X0.here hx rfl (hb hby d15_13) rfl (l' := #[rv oR, own_l (256 : Int64), .second, iv p3, iv p3, .val .null, iv 0, iv 0, .unset, .unset]) rfl ?_
    refine XS.aloadN X0.here hx rfl (hb hby d15_15) rfl rfl ?_
    exact k)
   obtain ⟨T63, X63, e63, R64⟩ := own_gF R62 X0 hx hZ hown (host := "") (Or.inl (hU 40 _ rfl)) Via.refl e0 F_chunks_oR rfl rfl (hb hby d15_16)
   have R65 : own_R p e below T63 (mkF m 21 #[rv oR, own_l (256 : Int64), .second, iv p3, iv p3, .val .null, iv 0, iv 0, .unset, .unset] [(.int 0), (.ref ckR)]) s₁ f0 := fun t k => R64 t (by
    refine XS.iload X63.here hx rfl (hb hby d15_19) rfl ?_
    exact k)
   obtain ⟨cl66, Ar66, q66, S66, n66_, H66, G66⟩ := id A_ckR
   have hin66 : ¬ ((0 : Int32) < 0 ∨ cl66.slots.size ≤ ((0 : Int32)).toNatClampNeg) := inb_of S66 ⟨by decide, by decide⟩
   have hat66 : cl66.slots[((0 : Int32)).toNatClampNeg]? = some (.ref kkR) := Has.at H66 hin66 rfl
   have R67 : own_R p e below T63 (mkF m 22 #[rv oR, own_l (256 : Int64), .second, iv p3, iv p3, .val .null, iv 0, iv 0, .unset, .unset] [(.ref kkR)]) s₁ f0 := fun t k => R65 t (X63.aaload hx (j := (0 : Int32)) (v := (.ref kkR)) (by rw [e63]; exact Ar66.1) (State.isArrayOf_alike hZ.alike Ar66.2.1) rfl Ar66.2.2 hin66 hat66 (g := (mkF m 21 #[rv oR, own_l (256 : Int64), .second, iv p3, iv p3, .val .null, iv 0, iv 0, .unset, .unset] [(.int 0), (.ref ckR)])) rfl rfl (hb hby d15_21) _ k)
   have R68 : own_R p e below T63 (mkF m 26 #[rv oR, own_l (256 : Int64), .second, iv p3, iv p3, .val .null, iv 0, iv 0, rv kkR, .unset] [(.ref kkR)]) s₁ f0 := fun t k => R67 t (by
    refine XS.astore X63.here hx rfl (hb hby d15_22) rfl rfl (l' := #[rv oR, own_l (256 : Int64), .second, iv p3, iv p3, .val .null, iv 0, iv 0, rv kkR, .unset]) rfl ?_
    refine XS.aload X63.here hx rfl (hb hby d15_24) rfl rfl ?_
    exact k)
   obtain ⟨T69, X69, e69, R70⟩ := own_gF R68 X63 hx hZ hown (Or.inr (hU 63 _ rfl)) Via.refl e63 lt_F_size_kkR rfl rfl (hb hby d15_26)
   have R71 : own_R p e below T69 (mkF m 104 #[rv oR, own_l (256 : Int64), .second, iv p3, iv p3, .val .null, iv 0, iv 0, rv kkR, .unset] [(.ref kkR)]) s₁ f0 := fun t k => R70 t (by
    refine XS.sipush X69.here hx rfl (hb hby d15_29) ?_
    refine XS.icmpYes X69.here hx rfl (pc0 := 32) (pc' := 102) rfl (hb hby d15_32) rfl (feq (by decide : ¬ ((1 : Int32) = (256 : Int32)))).2 (by decide) (by decide) ?_
    refine XS.aload X69.here hx rfl (hb hby d15_102) rfl rfl ?_
    exact k)
   obtain ⟨T72, X72, e72, R73⟩ := own_gF R71 X69 hx hZ hown (Or.inr (hU 63 _ rfl)) Via.refl e69 lt_F_size_kkR rfl rfl (hb hby d15_104)
   have R74 : own_R p e below T72 (mkF m 114 #[rv oR, own_l (256 : Int64), .second, iv p3, iv p3, .val .null, iv 0, iv 0, rv kkR, iv 1] [(.ref kkR)]) s₁ f0 := fun t k => R73 t (by
    refine XS.iload X72.here hx rfl (hb hby d15_107) rfl ?_
    refine XS.isub X72.here hx rfl (hb hby d15_109) rfl ?_
    refine XS.istore X72.here hx rfl (hb hby d15_110) rfl (l' := #[rv oR, own_l (256 : Int64), .second, iv p3, iv p3, .val .null, iv 0, iv 0, rv kkR, iv 1]) rfl ?_
    refine XS.aload X72.here hx rfl (hb hby d15_112) rfl rfl ?_
    exact k)
   obtain ⟨T75, X75, e75, R76⟩ := own_gF R74 X72 hx hZ hown (Or.inr (hU 106 _ rfl)) Via.refl e72 F_starts_kkR rfl rfl (hb hby d15_114)
   have R77 : own_R p e below T75 (mkF m 121 #[rv oR, own_l (256 : Int64), .second, iv p3, iv p3, .val .null, iv 0, iv 0, rv kkR, iv 1] [(.ref kkR), (.int 0), (.ref saR)]) s₁ f0 := fun t k => R76 t (by
    refine XS.iload X75.here hx rfl (hb hby d15_117) rfl ?_
    refine XS.aload X75.here hx rfl (hb hby d15_119) rfl rfl ?_
    exact k)
   obtain ⟨T78, X78, e78, R79⟩ := own_gF R77 X75 hx hZ hown (Or.inr (hU 106 _ rfl)) Via.refl e75 F_starts_kkR rfl rfl (hb hby d15_121)
   have R80 : own_R p e below T78 (mkF m 130 #[rv oR, own_l (256 : Int64), .second, iv p3, iv p3, .val .null, iv 0, iv 0, rv kkR, iv 1] [(.int 1), (.int 1), (.ref saR), (.int 0), (.ref saR)]) s₁ f0 := fun t k => R79 t (by
    refine XS.iload X78.here hx rfl (hb hby d15_124) rfl ?_
    refine XS.iconst X78.here hx rfl (hb hby d15_126) ?_
    refine XS.iadd X78.here hx rfl (hb hby d15_127) rfl ?_
    refine XS.iload X78.here hx rfl (hb hby d15_128) rfl ?_
    exact k)
   obtain ⟨T81, h81, L81, X81, e81, N81, Kc81, v81_, st81⟩ := cpA X78 hx hZ hown (hU 107 _ rfl) (hU 110 _ rfl) (hU 108 _ rfl) (hU 109 _ rfl) e78 lt_A_saR lt_A_saR (us := [(.int xa)]) (Or.inl ⟨rfl, rfl⟩) (by decide) (by decide) (by decide) (by decide) (by decide) rfl (Nat.le_of_ble_eq_true rfl) N0 g_saR (g := (mkF m 130 #[rv oR, own_l (256 : Int64), .second, iv p3, iv p3, .val .null, iv 0, iv 0, rv kkR, iv 1] [(.int 1), (.int 1), (.ref saR), (.int 0), (.ref saR)])) rfl (by rw [hml]; rfl) rfl (hb hby d15_130) (by decide) (W := 0) (Nat.le_of_eq rfl) (by decide)
   have f81_E_oR := E_oR.keep Kc81
   have f81_F_firsts_oR := F_firsts_oR.keep Kc81 (ninS (Exa.neArv E_oR lt_A_saR (hU 10 _ rfl)) nin0)
   have f81_F_withItems_oR := F_withItems_oR.keep Kc81 (ninS (Exa.neArv E_oR lt_A_saR (hU 10 _ rfl)) nin0)
   have f81_E_kkR := E_kkR.keep Kc81
   have f81_F_size_kkR := lt_F_size_kkR.keep Kc81 (ninS (Exa.neArv E_kkR lt_A_saR (hU 25 _ rfl)) nin0)
   have f81_F_starts_kkR := F_starts_kkR.keep Kc81 (ninS (Exa.neArv E_kkR lt_A_saR (hU 25 _ rfl)) nin0)
   have f81_A_fiR := lt_A_fiR.keep Kc81 (ninS ne_fiR_saR nin0)
   have z81 : n0 ≤ h81.size := Nat.le_trans Z0 Kc81.1
   have K81 : Keep h0 h81 [saR, kkR, fiR] := (Keep.refl h0 [saR, kkR, fiR]).trans Kc81 (allS (Or.inl (List.mem_of_getElem? (i := 0) rfl)) all0)
   have v81 : Arv Z h81 saR kstR .int 256 [(.int xa), (.int xa), (.int 0)] (.int 0) := v81_
   have R82 := fun t k => R80 t (st81 t k)
   have R83 : own_R p e below T81 (mkF m 135 #[rv oR, own_l (256 : Int64), .second, iv p3, iv p3, .val .null, iv 0, iv 0, rv kkR, iv 1] [(.ref kkR)]) s₁ f0 := fun t k => R82 t (by
    refine XS.aload X81.here hx rfl (hb hby d15_133) rfl rfl ?_
    exact k)
   obtain ⟨T84, X84, e84, R85⟩ := own_gF R83 X81 hx hZ hown (Or.inr (hU 106 _ rfl)) Via.refl e81 f81_F_starts_kkR rfl rfl (hb hby d15_135)
   have R86 : own_R p e below T84 (mkF m 141 #[rv oR, own_l (256 : Int64), .second, iv p3, iv p3, .val .null, iv 0, iv 0, rv kkR, iv 1] [(.int p3), (.int 0), (.ref saR)]) s₁ f0 := fun t k => R85 t (by
    refine XS.iload X84.here hx rfl (hb hby d15_138) rfl ?_
    refine XS.iloadN X84.here hx rfl (hb hby d15_140) rfl ?_
    exact k)
   obtain ⟨cl87, Ar87, q87, S87, n87_, H87, G87⟩ := id v81
   have hin87 : ¬ ((0 : Int32) < 0 ∨ cl87.slots.size ≤ ((0 : Int32)).toNatClampNeg) := inb_of S87 ⟨by decide, by decide⟩
   obtain ⟨T87, h87, X87, e87, W87, st87⟩ := stI X84 hx hZ e84 Ar87 (j := (0 : Int32)) hin87 (g := (mkF m 141 #[rv oR, own_l (256 : Int64), .second, iv p3, iv p3, .val .null, iv 0, iv 0, rv kkR, iv 1] [(.int p3), (.int 0), (.ref saR)])) rfl rfl (hb hby d15_141)
   have f87_E_oR := f81_E_oR.wr W87
   have f87_F_firsts_oR := f81_F_firsts_oR.other W87 (Or.inl (Exa.neArv f81_E_oR v81 (hU 10 _ rfl)))
   have f87_F_withItems_oR := f81_F_withItems_oR.other W87 (Or.inl (Exa.neArv f81_E_oR v81 (hU 10 _ rfl)))
   have f87_E_kkR := f81_E_kkR.wr W87
   have f87_F_size_kkR := f81_F_size_kkR.other W87 (Or.inl (Exa.neArv f81_E_kkR v81 (hU 25 _ rfl)))
   have f87_F_starts_kkR := f81_F_starts_kkR.other W87 (Or.inl (Exa.neArv f81_E_kkR v81 (hU 25 _ rfl)))
   have f87_A_fiR := f81_A_fiR.other W87 ne_fiR_saR
   have z87 : n0 ≤ h87.size := by rw [W87.size]; exact z81
   have K87 : Keep h0 h87 [saR, kkR, fiR] := K81.wr W87 (Or.inl (List.mem_of_getElem? (i := 0) rfl))
   have v87 : Arv Z h87 saR kstR .int 256 [(.int p3), (.int xa), (.int 0)] (.int 0) := Arv.set Ar87 q87 S87 n87_ H87 G87 rfl W87 0 rfl (Nat.le_of_ble_eq_true rfl)
   have N87 := Fr.snoc X87 N81 g_saR
   have R88 := fun t k => R86 t (st87 t k)
   have R89 : own_R p e below T87 (mkF m 143 #[rv oR, own_l (256 : Int64), .second, iv p3, iv p3, .val .null, iv 0, iv 0, rv kkR, iv 1] [(.ref oR)]) s₁ f0 := fun t k => R88 t (by
    refine XS.aloadN X87.here hx rfl (hb hby d15_142) rfl rfl ?_
    exact k)
   obtain ⟨T90, X90, e90, R91⟩ := own_gF R89 X87 hx hZ hown (host := "") (Or.inl (hU 21 _ rfl)) Via.refl e87 f87_F_withItems_oR rfl rfl (hb hby d15_143)
   have R92 : own_R p e below T90 (mkF m 214 #[rv oR, own_l (256 : Int64), .second, iv p3, iv p3, .val .null, iv 0, iv 0, rv kkR, iv 1] [(.ref kkR), (.ref kkR)]) s₁ f0 := fun t k => R91 t (by
    refine XS.ifYes X90.here hx rfl (pc0 := 146) (pc' := 211) rfl (hb hby d15_146) rfl ((if0 _ _).trans (teq (by decide : (0 : Int32) = (0 : Int32))).1) (by decide) (by decide) ?_
    refine XS.aload X90.here hx rfl (hb hby d15_211) rfl rfl ?_
    refine XS.dup X90.here hx rfl (hb hby d15_213) rfl rfl ?_
    exact k)
   obtain ⟨T93, X93, e93, R94⟩ := own_gF R92 X90 hx hZ hown (Or.inr (hU 63 _ rfl)) Via.refl e90 f87_F_size_kkR rfl rfl (hb hby d15_214)
   have R95 : own_R p e below T93 (mkF m 219 #[rv oR, own_l (256 : Int64), .second, iv p3, iv p3, .val .null, iv 0, iv 0, rv kkR, iv 1] [(.int 2), (.ref kkR)]) s₁ f0 := fun t k => R94 t (by
    refine XS.iconst X93.here hx rfl (hb hby d15_217) ?_
    refine XS.iadd X93.here hx rfl (hb hby d15_218) rfl ?_
    exact k)
   obtain ⟨T96, h96, X96, e96, W96, st96⟩ := putF X93 hx hZ hown (Or.inr (hU 63 _ rfl)) Via.refl e93 f87_F_size_kkR f87_E_kkR (Or.inl (hU 64 _ rfl)) (hU 25 _ rfl) (ty := .int) (by decide) rfl rfl (g := (mkF m 219 #[rv oR, own_l (256 : Int64), .second, iv p3, iv p3, .val .null, iv 0, iv 0, rv kkR, iv 1] [(.int 2), (.ref kkR)])) rfl rfl (hb hby d15_219)
   have fw96 : Fld Z h96 kkR sN0 "size" "I" (.int 2) := f87_F_size_kkR.same W96
   have f96_E_oR := f87_E_oR.wr W96
   have f96_F_firsts_oR := f87_F_firsts_oR.other W96 (Or.inl (Exa.ne f87_E_oR f87_E_kkR (by decide)))
   have f96_E_kkR := f87_E_kkR.wr W96
   have f96_F_starts_kkR := f87_F_starts_kkR.other W96 (Or.inr (slot_ne (Or.inr (hU 32 _ rfl)) (Or.inl (hU 64 _ rfl)) (by decide) (t := (.array .int)) (t' := .int) (by decide) (by decide)))
   have f96_A_fiR := f87_A_fiR.other W96 (Ne.symm (Exa.neArv f87_E_kkR f87_A_fiR (hU 25 _ rfl)))
   have f96_A_saR := v87.other W96 (Ne.symm (Exa.neArv f87_E_kkR v87 (hU 25 _ rfl)))
   have z96 : n0 ≤ h96.size := by rw [W96.size]; exact z87
   have K96 : Keep h0 h96 [saR, kkR, fiR] := K87.wr W96 (Or.inl (List.mem_of_getElem? (i := 1) rfl))
   have N96 := Fr.snoc X96 N87 g_kkR
   have R97 := fun t k => R95 t (st96 t k)
   have R98 : own_R p e below T96 (mkF m 223 #[rv oR, own_l (256 : Int64), .second, iv p3, iv p3, .val .null, iv 0, iv 0, rv kkR, iv 1] [(.ref oR)]) s₁ f0 := fun t k => R97 t (by
    refine XS.aloadN X96.here hx rfl (hb hby d15_222) rfl rfl ?_
    exact k)
   obtain ⟨T99, X99, e99, R100⟩ := own_gF R98 X96 hx hZ hown (host := "") (Or.inl (hU 17 _ rfl)) Via.refl e96 f96_F_firsts_oR rfl rfl (hb hby d15_223)
   have R101 : own_R p e below T99 (mkF m 230 #[rv oR, own_l (256 : Int64), .second, iv p3, iv p3, .val .null, iv 0, iv 0, rv kkR, iv 1] [(.ref kkR), (.int 0), (.ref fiR)]) s₁ f0 := fun t k => R100 t (by
    refine XS.iload X99.here hx rfl (hb hby d15_226) rfl ?_
    refine XS.aload X99.here hx rfl (hb hby d15_228) rfl rfl ?_
    exact k)
   obtain ⟨T102, X102, e102, R103⟩ := own_gF R101 X99 hx hZ hown (Or.inr (hU 106 _ rfl)) Via.refl e99 f96_F_starts_kkR rfl rfl (hb hby d15_230)
   have R104 : own_R p e below T102 (mkF m 234 #[rv oR, own_l (256 : Int64), .second, iv p3, iv p3, .val .null, iv 0, iv 0, rv kkR, iv 1] [(.int 0), (.ref saR), (.int 0), (.ref fiR)]) s₁ f0 := fun t k => R103 t (by
    refine XS.iconst X102.here hx rfl (hb hby d15_233) ?_
    exact k)
   obtain ⟨cl105, Ar105, q105, S105, n105_, H105, G105⟩ := id f96_A_saR
   have hin105 : ¬ ((0 : Int32) < 0 ∨ cl105.slots.size ≤ ((0 : Int32)).toNatClampNeg) := inb_of S105 ⟨by decide, by decide⟩
   have hat105 : cl105.slots[((0 : Int32)).toNatClampNeg]? = some (.int p3) := Has.at H105 hin105 rfl
   have R106 : own_R p e below T102 (mkF m 235 #[rv oR, own_l (256 : Int64), .second, iv p3, iv p3, .val .null, iv 0, iv 0, rv kkR, iv 1] [(.int p3), (.int 0), (.ref fiR)]) s₁ f0 := fun t k => R104 t (X102.iaload hx (j := (0 : Int32)) (v := (.int p3)) (by rw [e102]; exact Ar105.1) (State.isArrayOf_alike hZ.alike Ar105.2.1) Ar105.2.2 hin105 hat105 (g := (mkF m 234 #[rv oR, own_l (256 : Int64), .second, iv p3, iv p3, .val .null, iv 0, iv 0, rv kkR, iv 1] [(.int 0), (.ref saR), (.int 0), (.ref fiR)])) rfl rfl (hb hby d15_234) _ k)
   obtain ⟨cl107, Ar107, q107, S107, n107_, H107, G107⟩ := id f96_A_fiR
   have hin107 : ¬ ((0 : Int32) < 0 ∨ cl107.slots.size ≤ ((0 : Int32)).toNatClampNeg) := inb_of S107 ⟨by decide, by decide⟩
   obtain ⟨T107, h107, X107, e107, W107, st107⟩ := stI X102 hx hZ e102 Ar107 (j := (0 : Int32)) hin107 (g := (mkF m 235 #[rv oR, own_l (256 : Int64), .second, iv p3, iv p3, .val .null, iv 0, iv 0, rv kkR, iv 1] [(.int p3), (.int 0), (.ref fiR)])) rfl rfl (hb hby d15_235)
   have f107_E_oR := f96_E_oR.wr W107
   have f107_F_firsts_oR := f96_F_firsts_oR.other W107 (Or.inl (Exa.neArv f96_E_oR f96_A_fiR (hU 10 _ rfl)))
   have f107_E_kkR := f96_E_kkR.wr W107
   have f107_F_size_kkR := fw96.other W107 (Or.inl (Exa.neArv f96_E_kkR f96_A_fiR (hU 25 _ rfl)))
   have f107_F_starts_kkR := f96_F_starts_kkR.other W107 (Or.inl (Exa.neArv f96_E_kkR f96_A_fiR (hU 25 _ rfl)))
   have f107_A_saR := f96_A_saR.other W107 (Ne.symm ne_fiR_saR)
   have z107 : n0 ≤ h107.size := by rw [W107.size]; exact z96
   have K107 : Keep h0 h107 [saR, kkR, fiR] := K96.wr W107 (Or.inl (List.mem_of_getElem? (i := 2) rfl))
   have v107 : Arv Z h107 fiR kfiR .int 1 [(.int p3)] (.int 0) := Arv.set Ar107 q107 S107 n107_ H107 G107 rfl W107 0 rfl (Nat.le_of_ble_eq_true rfl)
   have N107 := Fr.snoc X107 N96 g_fiR
   have R108 := fun t k => R106 t (st107 t k)
   have ei : own_ins p3 [xa] = [p3, xa] := own_in1_0 ho0
   obtain ⟨fs, hr, hrun, hended, hW, hsame⟩ := X107.leave (v := none) (fun _ => rfl)
   refine ⟨_, _, pre0 _ (R108 _ ?_), hrun, hended, _, _, rfl, ?_, ⟨_, rfl⟩, hW, hsame.mono (by decide) (by decide)⟩
   ·
    show own_S p e below T107 (mkF m 236 #[rv oR, own_l (256 : Int64), .second, iv p3, iv p3, .val .null, iv 0, iv 0, rv kkR, iv 1] []) _
    exact X107.returnOut hx Bd.returns (hb hby d15_236) hr
   ·
    show Q_rmOi0 Z oR p3 ckR kckR kkR fiR kfiR saR kstR [xa] h0 n0 _ T107.heap _
    rw [e107]
    exact ⟨rfl, N107, K107, (by rw [ei]; exact f107_F_size_kkR), f107_F_starts_kkR, (by rw [ei]; exact v107), (by rw [ei]; exact f107_A_saR)⟩
  ·
   have R109 : own_R p e below s₁ (mkF m 0 #[rv oR, own_l (257 : Int64), .second, iv p3, iv p3, .val .null, .unset, .unset, .unset, .unset] []) s₁ f0 := by have q := R0; rw [((own_pe1_1 ho0) : (own_p [xa] p3) = (257 : Int64))] at q; exact q
   have R110 : own_R p e below s₁ (mkF m 4 #[rv oR, own_l (257 : Int64), .second, iv p3, iv p3, .val .null, .unset, .unset, .unset, .unset] [(.long (((257 : Int64).toUInt64 >>> ((32 : Int32) &&& 0x3f).toInt64.toUInt64).toInt64))]) s₁ f0 := fun t k => R109 t (by
    refine XS.lloadN X0.here hx rfl (hb hby d15_0) rfl ?_
    refine XS.bipush X0.here hx rfl (hb hby d15_1) ?_
    refine XS.lushr X0.here hx rfl (hb hby d15_3) rfl ?_
    exact k)
   have R111 : own_R p e below s₁ (mkF m 4 #[rv oR, own_l (257 : Int64), .second, iv p3, iv p3, .val .null, .unset, .unset, .unset, .unset] [(.long (0 : Int64))]) s₁ f0 := by have q := R110; rw [((by decide) : (((257 : Int64).toUInt64 >>> ((32 : Int32) &&& 0x3f).toInt64.toUInt64).toInt64) = (0 : Int64))] at q; exact q
   have R112 : own_R p e below s₁ (mkF m 5 #[rv oR, own_l (257 : Int64), .second, iv p3, iv p3, .val .null, .unset, .unset, .unset, .unset] [(.int ((0 : Int64).toInt32))]) s₁ f0 := fun t k => R111 t (by
    refine XS.l2i X0.here hx rfl (hb hby d15_4) rfl ?_
    exact k)
   have R113 : own_R p e below s₁ (mkF m 5 #[rv oR, own_l (257 : Int64), .second, iv p3, iv p3, .val .null, .unset, .unset, .unset, .unset] [(.int 0)]) s₁ f0 := by have q := R112; rw [((by decide) : ((0 : Int64).toInt32) = (0 : Int32))] at q; exact q
   have R114 : own_R p e below s₁ (mkF m 9 #[rv oR, own_l (257 : Int64), .second, iv p3, iv p3, .val .null, iv 0, .unset, .unset, .unset] [(.int ((257 : Int64).toInt32))]) s₁ f0 := fun t k => R113 t (by
    refine XS.istore X0.here hx rfl (hb hby d15_5) rfl (l' := #[rv oR, own_l (257 : Int64), .second, iv p3, iv p3, .val .null, iv 0, .unset, .unset, .unset]) rfl ?_
    refine XS.lloadN X0.here hx rfl (hb hby d15_7) rfl ?_
    refine XS.l2i X0.here hx rfl (hb hby d15_8) rfl ?_
    exact k)
   have R115 : own_R p e below s₁ (mkF m 9 #[rv oR, own_l (257 : Int64), .second, iv p3, iv p3, .val .null, iv 0, .unset, .unset, .unset] [(.int 257)]) s₁ f0 := by have q := R114; rw [((by decide) : ((257 : Int64).toInt32) = (257 : Int32))] at q; exact q
   have R116 : own_R p e below s₁ (mkF m 16 #[rv oR, own_l (257 : Int64), .second, iv p3, iv p3, .val .null, iv 0, iv 1, .unset, .unset] [(.ref oR)]) s₁ f0 := fun t k => R115 t (by
    refine XS.sipush X0.here hx rfl (hb hby d15_9) ?_
    refine XS.isub X0.here hx rfl (hb hby d15_12) rfl ?_
    refine XS.istore X0.here hx rfl (hb hby d15_13) rfl (l' := #[rv oR, own_l (257 : Int64), .second, iv p3, iv p3, .val .null, iv 0, iv 1, .unset, .unset]) rfl ?_
    refine XS.aloadN X0.here hx rfl (hb hby d15_15) rfl rfl ?_
    exact k)
   obtain ⟨T117, X117, e117, R118⟩ := own_gF R116 X0 hx hZ hown (host := "") (Or.inl (hU 40 _ rfl)) Via.refl e0 F_chunks_oR rfl rfl (hb hby d15_16)
   have R119 : own_R p e below T117 (mkF m 21 #[rv oR, own_l (257 : Int64), .second, iv p3, iv p3, .val .null, iv 0, iv 1, .unset, .unset] [(.int 0), (.ref ckR)]) s₁ f0 := fun t k => R118 t (by
    refine XS.iload X117.here hx rfl (hb hby d15_19) rfl ?_
    exact k)
   obtain ⟨cl120, Ar120, q120, S120, n120_, H120, G120⟩ := id A_ckR
   have hin120 : ¬ ((0 : Int32) < 0 ∨ cl120.slots.size ≤ ((0 : Int32)).toNatClampNeg) := inb_of S120 ⟨by decide, by decide⟩
   have hat120 : cl120.slots[((0 : Int32)).toNatClampNeg]? = some (.ref kkR) := Has.at H120 hin120 rfl
   have R121 : own_R p e below T117 (mkF m 22 #[rv oR, own_l (257 : Int64), .second, iv p3, iv p3, .val .null, iv 0, iv 1, .unset, .unset] [(.ref kkR)]) s₁ f0 := fun t k => R119 t (X117.aaload hx (j := (0 : Int32)) (v := (.ref kkR)) (by rw [e117]; exact Ar120.1) (State.isArrayOf_alike hZ.alike Ar120.2.1) rfl Ar120.2.2 hin120 hat120 (g := (mkF m 21 #[rv oR, own_l (257 : Int64), .second, iv p3, iv p3, .val .null, iv 0, iv 1, .unset, .unset] [(.int 0), (.ref ckR)])) rfl rfl (hb hby d15_21) _ k)
   have R122 : own_R p e below T117 (mkF m 26 #[rv oR, own_l (257 : Int64), .second, iv p3, iv p3, .val .null, iv 0, iv 1, rv kkR, .unset] [(.ref kkR)]) s₁ f0 := fun t k => R121 t (by
    refine XS.astore X117.here hx rfl (hb hby d15_22) rfl rfl (l' := #[rv oR, own_l (257 : Int64), .second, iv p3, iv p3, .val .null, iv 0, iv 1, rv kkR, .unset]) rfl ?_
    refine XS.aload X117.here hx rfl (hb hby d15_24) rfl rfl ?_
    exact k)
   obtain ⟨T123, X123, e123, R124⟩ := own_gF R122 X117 hx hZ hown (Or.inr (hU 63 _ rfl)) Via.refl e117 lt_F_size_kkR rfl rfl (hb hby d15_26)
   have R125 : own_R p e below T123 (mkF m 104 #[rv oR, own_l (257 : Int64), .second, iv p3, iv p3, .val .null, iv 0, iv 1, rv kkR, .unset] [(.ref kkR)]) s₁ f0 := fun t k => R124 t (by
    refine XS.sipush X123.here hx rfl (hb hby d15_29) ?_
    refine XS.icmpYes X123.here hx rfl (pc0 := 32) (pc' := 102) rfl (hb hby d15_32) rfl (feq (by decide : ¬ ((1 : Int32) = (256 : Int32)))).2 (by decide) (by decide) ?_
    refine XS.aload X123.here hx rfl (hb hby d15_102) rfl rfl ?_
    exact k)
   obtain ⟨T126, X126, e126, R127⟩ := own_gF R125 X123 hx hZ hown (Or.inr (hU 63 _ rfl)) Via.refl e123 lt_F_size_kkR rfl rfl (hb hby d15_104)
   have R128 : own_R p e below T126 (mkF m 114 #[rv oR, own_l (257 : Int64), .second, iv p3, iv p3, .val .null, iv 0, iv 1, rv kkR, iv 0] [(.ref kkR)]) s₁ f0 := fun t k => R127 t (by
    refine XS.iload X126.here hx rfl (hb hby d15_107) rfl ?_
    refine XS.isub X126.here hx rfl (hb hby d15_109) rfl ?_
    refine XS.istore X126.here hx rfl (hb hby d15_110) rfl (l' := #[rv oR, own_l (257 : Int64), .second, iv p3, iv p3, .val .null, iv 0, iv 1, rv kkR, iv 0]) rfl ?_
    refine XS.aload X126.here hx rfl (hb hby d15_112) rfl rfl ?_
    exact k)
   obtain ⟨T129, X129, e129, R130⟩ := own_gF R128 X126 hx hZ hown (Or.inr (hU 106 _ rfl)) Via.refl e126 F_starts_kkR rfl rfl (hb hby d15_114)
   have R131 : own_R p e below T129 (mkF m 121 #[rv oR, own_l (257 : Int64), .second, iv p3, iv p3, .val .null, iv 0, iv 1, rv kkR, iv 0] [(.ref kkR), (.int 1), (.ref saR)]) s₁ f0 := fun t k => R130 t (by
    refine XS.iload X129.here hx rfl (hb hby d15_117) rfl ?_
    refine XS.aload X129.here hx rfl (hb hby d15_119) rfl rfl ?_
    exact k)
   obtain ⟨T132, X132, e132, R133⟩ := own_gF R131 X129 hx hZ hown (Or.inr (hU 106 _ rfl)) Via.refl e129 F_starts_kkR rfl rfl (hb hby d15_121)
   have R134 : own_R p e below T132 (mkF m 130 #[rv oR, own_l (257 : Int64), .second, iv p3, iv p3, .val .null, iv 0, iv 1, rv kkR, iv 0] [(.int 0), (.int 2), (.ref saR), (.int 1), (.ref saR)]) s₁ f0 := fun t k => R133 t (by
    refine XS.iload X132.here hx rfl (hb hby d15_124) rfl ?_
    refine XS.iconst X132.here hx rfl (hb hby d15_126) ?_
    refine XS.iadd X132.here hx rfl (hb hby d15_127) rfl ?_
    refine XS.iload X132.here hx rfl (hb hby d15_128) rfl ?_
    exact k)
   obtain ⟨T135, h135, L135, X135, e135, N135, Kc135, v135_, st135⟩ := cpA X132 hx hZ hown (hU 107 _ rfl) (hU 110 _ rfl) (hU 108 _ rfl) (hU 109 _ rfl) e132 lt_A_saR lt_A_saR (us := []) (Or.inl ⟨rfl, rfl⟩) (by decide) (by decide) (by decide) (by decide) (by decide) rfl (Nat.le_of_ble_eq_true rfl) N0 g_saR (g := (mkF m 130 #[rv oR, own_l (257 : Int64), .second, iv p3, iv p3, .val .null, iv 0, iv 1, rv kkR, iv 0] [(.int 0), (.int 2), (.ref saR), (.int 1), (.ref saR)])) rfl (by rw [hml]; rfl) rfl (hb hby d15_130) (by decide) (W := 0) (Nat.le_of_eq rfl) (by decide)
   have f135_E_oR := E_oR.keep Kc135
   have f135_F_firsts_oR := F_firsts_oR.keep Kc135 (ninS (Exa.neArv E_oR lt_A_saR (hU 10 _ rfl)) nin0)
   have f135_F_withItems_oR := F_withItems_oR.keep Kc135 (ninS (Exa.neArv E_oR lt_A_saR (hU 10 _ rfl)) nin0)
   have f135_E_kkR := E_kkR.keep Kc135
   have f135_F_size_kkR := lt_F_size_kkR.keep Kc135 (ninS (Exa.neArv E_kkR lt_A_saR (hU 25 _ rfl)) nin0)
   have f135_F_starts_kkR := F_starts_kkR.keep Kc135 (ninS (Exa.neArv E_kkR lt_A_saR (hU 25 _ rfl)) nin0)
   have f135_A_fiR := lt_A_fiR.keep Kc135 (ninS ne_fiR_saR nin0)
   have z135 : n0 ≤ h135.size := Nat.le_trans Z0 Kc135.1
   have K135 : Keep h0 h135 [saR, kkR, fiR] := (Keep.refl h0 [saR, kkR, fiR]).trans Kc135 (allS (Or.inl (List.mem_of_getElem? (i := 0) rfl)) all0)
   have v135 : Arv Z h135 saR kstR .int 256 [(.int xa), (.int 0), (.int 0)] (.int 0) := v135_
   have R136 := fun t k => R134 t (st135 t k)
   have R137 : own_R p e below T135 (mkF m 135 #[rv oR, own_l (257 : Int64), .second, iv p3, iv p3, .val .null, iv 0, iv 1, rv kkR, iv 0] [(.ref kkR)]) s₁ f0 := fun t k => R136 t (by
    refine XS.aload X135.here hx rfl (hb hby d15_133) rfl rfl ?_
    exact k)
   obtain ⟨T138, X138, e138, R139⟩ := own_gF R137 X135 hx hZ hown (Or.inr (hU 106 _ rfl)) Via.refl e135 f135_F_starts_kkR rfl rfl (hb hby d15_135)
   have R140 : own_R p e below T138 (mkF m 141 #[rv oR, own_l (257 : Int64), .second, iv p3, iv p3, .val .null, iv 0, iv 1, rv kkR, iv 0] [(.int p3), (.int 1), (.ref saR)]) s₁ f0 := fun t k => R139 t (by
    refine XS.iload X138.here hx rfl (hb hby d15_138) rfl ?_
    refine XS.iloadN X138.here hx rfl (hb hby d15_140) rfl ?_
    exact k)
   obtain ⟨cl141, Ar141, q141, S141, n141_, H141, G141⟩ := id v135
   have hin141 : ¬ ((1 : Int32) < 0 ∨ cl141.slots.size ≤ ((1 : Int32)).toNatClampNeg) := inb_of S141 ⟨by decide, by decide⟩
   obtain ⟨T141, h141, X141, e141, W141, st141⟩ := stI X138 hx hZ e138 Ar141 (j := (1 : Int32)) hin141 (g := (mkF m 141 #[rv oR, own_l (257 : Int64), .second, iv p3, iv p3, .val .null, iv 0, iv 1, rv kkR, iv 0] [(.int p3), (.int 1), (.ref saR)])) rfl rfl (hb hby d15_141)
   have f141_E_oR := f135_E_oR.wr W141
   have f141_F_firsts_oR := f135_F_firsts_oR.other W141 (Or.inl (Exa.neArv f135_E_oR v135 (hU 10 _ rfl)))
   have f141_F_withItems_oR := f135_F_withItems_oR.other W141 (Or.inl (Exa.neArv f135_E_oR v135 (hU 10 _ rfl)))
   have f141_E_kkR := f135_E_kkR.wr W141
   have f141_F_size_kkR := f135_F_size_kkR.other W141 (Or.inl (Exa.neArv f135_E_kkR v135 (hU 25 _ rfl)))
   have f141_F_starts_kkR := f135_F_starts_kkR.other W141 (Or.inl (Exa.neArv f135_E_kkR v135 (hU 25 _ rfl)))
   have f141_A_fiR := f135_A_fiR.other W141 ne_fiR_saR
   have z141 : n0 ≤ h141.size := by rw [W141.size]; exact z135
   have K141 : Keep h0 h141 [saR, kkR, fiR] := K135.wr W141 (Or.inl (List.mem_of_getElem? (i := 0) rfl))
   have v141 : Arv Z h141 saR kstR .int 256 [(.int xa), (.int p3), (.int 0)] (.int 0) := Arv.set Ar141 q141 S141 n141_ H141 G141 rfl W141 1 rfl (Nat.le_of_ble_eq_true rfl)
   have N141 := Fr.snoc X141 N135 g_saR
   have R142 := fun t k => R140 t (st141 t k)
   have R143 : own_R p e below T141 (mkF m 143 #[rv oR, own_l (257 : Int64), .second, iv p3, iv p3, .val .null, iv 0, iv 1, rv kkR, iv 0] [(.ref oR)]) s₁ f0 := fun t k => R142 t (by
    refine XS.aloadN X141.here hx rfl (hb hby d15_142) rfl rfl ?_
    exact k)
   obtain ⟨T144, X144, e144, R145⟩ := own_gF R143 X141 hx hZ hown (host := "") (Or.inl (hU 21 _ rfl)) Via.refl e141 f141_F_withItems_oR rfl rfl (hb hby d15_143)
   have R146 : own_R p e below T144 (mkF m 214 #[rv oR, own_l (257 : Int64), .second, iv p3, iv p3, .val .null, iv 0, iv 1, rv kkR, iv 0] [(.ref kkR), (.ref kkR)]) s₁ f0 := fun t k => R145 t (by
    refine XS.ifYes X144.here hx rfl (pc0 := 146) (pc' := 211) rfl (hb hby d15_146) rfl ((if0 _ _).trans (teq (by decide : (0 : Int32) = (0 : Int32))).1) (by decide) (by decide) ?_
    refine XS.aload X144.here hx rfl (hb hby d15_211) rfl rfl ?_
    refine XS.dup X144.here hx rfl (hb hby d15_213) rfl rfl ?_
    exact k)
   obtain ⟨T147, X147, e147, R148⟩ := own_gF R146 X144 hx hZ hown (Or.inr (hU 63 _ rfl)) Via.refl e144 f141_F_size_kkR rfl rfl (hb hby d15_214)
   have R149 : own_R p e below T147 (mkF m 219 #[rv oR, own_l (257 : Int64), .second, iv p3, iv p3, .val .null, iv 0, iv 1, rv kkR, iv 0] [(.int 2), (.ref kkR)]) s₁ f0 := fun t k => R148 t (by
    refine XS.iconst X147.here hx rfl (hb hby d15_217) ?_
    refine XS.iadd X147.here hx rfl (hb hby d15_218) rfl ?_
    exact k)
   obtain ⟨T150, h150, X150, e150, W150, st150⟩ := putF X147 hx hZ hown (Or.inr (hU 63 _ rfl)) Via.refl e147 f141_F_size_kkR f141_E_kkR (Or.inl (hU 64 _ rfl)) (hU 25 _ rfl) (ty := .int) (by decide) rfl rfl (g := (mkF m 219 #[rv oR, own_l (257 : Int64), .second, iv p3, iv p3, .val .null, iv 0, iv 1, rv kkR, iv 0] [(.int 2), (.ref kkR)])) rfl rfl (hb hby d15_219)
   have fw150 : Fld Z h150 kkR sN0 "size" "I" (.int 2) := f141_F_size_kkR.same W150
   have f150_E_oR := f141_E_oR.wr W150
   have f150_F_firsts_oR := f141_F_firsts_oR.other W150 (Or.inl (Exa.ne f141_E_oR f141_E_kkR (by decide)))
   have f150_E_kkR := f141_E_kkR.wr W150
   have f150_F_starts_kkR := f141_F_starts_kkR.other W150 (Or.inr (slot_ne (Or.inr (hU 32 _ rfl)) (Or.inl (hU 64 _ rfl)) (by decide) (t := (.array .int)) (t' := .int) (by decide) (by decide)))
   have f150_A_fiR := f141_A_fiR.other W150 (Ne.symm (Exa.neArv f141_E_kkR f141_A_fiR (hU 25 _ rfl)))
   have f150_A_saR := v141.other W150 (Ne.symm (Exa.neArv f141_E_kkR v141 (hU 25 _ rfl)))
   have z150 : n0 ≤ h150.size := by rw [W150.size]; exact z141
   have K150 : Keep h0 h150 [saR, kkR, fiR] := K141.wr W150 (Or.inl (List.mem_of_getElem? (i := 1) rfl))
   have N150 := Fr.snoc X150 N141 g_kkR
   have R151 := fun t k => R149 t (st150 t k)
   have R152 : own_R p e below T150 (mkF m 223 #[rv oR, own_l (257 : Int64), .second, iv p3, iv p3, .val .null, iv 0, iv 1, rv kkR, iv 0] [(.ref oR)]) s₁ f0 := fun t k => R151 t (by
    refine XS.aloadN X150.here hx rfl (hb hby d15_222) rfl rfl ?_
    exact k)
   obtain ⟨T153, X153, e153, R154⟩ := own_gF R152 X150 hx hZ hown (host := "") (Or.inl (hU 17 _ rfl)) Via.refl e150 f150_F_firsts_oR rfl rfl (hb hby d15_223)
   have R155 : own_R p e below T153 (mkF m 230 #[rv oR, own_l (257 : Int64), .second, iv p3, iv p3, .val .null, iv 0, iv 1, rv kkR, iv 0] [(.ref kkR), (.int 0), (.ref fiR)]) s₁ f0 := fun t k => R154 t (by
    refine XS.iload X153.here hx rfl (hb hby d15_226) rfl ?_
    refine XS.aload X153.here hx rfl (hb hby d15_228) rfl rfl ?_
    exact k)
   obtain ⟨T156, X156, e156, R157⟩ := own_gF R155 X153 hx hZ hown (Or.inr (hU 106 _ rfl)) Via.refl e153 f150_F_starts_kkR rfl rfl (hb hby d15_230)
   have R158 : own_R p e below T156 (mkF m 234 #[rv oR, own_l (257 : Int64), .second, iv p3, iv p3, .val .null, iv 0, iv 1, rv kkR, iv 0] [(.int 0), (.ref saR), (.int 0), (.ref fiR)]) s₁ f0 := fun t k => R157 t (by
    refine XS.iconst X156.here hx rfl (hb hby d15_233) ?_
    exact k)
   obtain ⟨cl159, Ar159, q159, S159, n159_, H159, G159⟩ := id f150_A_saR
   have hin159 : ¬ ((0 : Int32) < 0 ∨ cl159.slots.size ≤ ((0 : Int32)).toNatClampNeg) := inb_of S159 ⟨by decide, by decide⟩
   have hat159 : cl159.slots[((0 : Int32)).toNatClampNeg]? = some (.int xa) := Has.at H159 hin159 rfl
   have R160 : own_R p e below T156 (mkF m 235 #[rv oR, own_l (257 : Int64), .second, iv p3, iv p3, .val .null, iv 0, iv 1, rv kkR, iv 0] [(.int xa), (.int 0), (.ref fiR)]) s₁ f0 := fun t k => R158 t (X156.iaload hx (j := (0 : Int32)) (v := (.int xa)) (by rw [e156]; exact Ar159.1) (State.isArrayOf_alike hZ.alike Ar159.2.1) Ar159.2.2 hin159 hat159 (g := (mkF m 234 #[rv oR, own_l (257 : Int64), .second, iv p3, iv p3, .val .null, iv 0, iv 1, rv kkR, iv 0] [(.int 0), (.ref saR), (.int 0), (.ref fiR)])) rfl rfl (hb hby d15_234) _ k)
   obtain ⟨cl161, Ar161, q161, S161, n161_, H161, G161⟩ := id f150_A_fiR
   have hin161 : ¬ ((0 : Int32) < 0 ∨ cl161.slots.size ≤ ((0 : Int32)).toNatClampNeg) := inb_of S161 ⟨by decide, by decide⟩
   obtain ⟨T161, h161, X161, e161, W161, st161⟩ := stI X156 hx hZ e156 Ar161 (j := (0 : Int32)) hin161 (g := (mkF m 235 #[rv oR, own_l (257 : Int64), .second, iv p3, iv p3, .val .null, iv 0, iv 1, rv kkR, iv 0] [(.int xa), (.int 0), (.ref fiR)])) rfl rfl (hb hby d15_235)
   have f161_E_oR := f150_E_oR.wr W161
   have f161_F_firsts_oR := f150_F_firsts_oR.other W161 (Or.inl (Exa.neArv f150_E_oR f150_A_fiR (hU 10 _ rfl)))
   have f161_E_kkR := f150_E_kkR.wr W161
   have f161_F_size_kkR := fw150.other W161 (Or.inl (Exa.neArv f150_E_kkR f150_A_fiR (hU 25 _ rfl)))
   have f161_F_starts_kkR := f150_F_starts_kkR.other W161 (Or.inl (Exa.neArv f150_E_kkR f150_A_fiR (hU 25 _ rfl)))
   have f161_A_saR := f150_A_saR.other W161 (Ne.symm ne_fiR_saR)
   have z161 : n0 ≤ h161.size := by rw [W161.size]; exact z150
   have K161 : Keep h0 h161 [saR, kkR, fiR] := K150.wr W161 (Or.inl (List.mem_of_getElem? (i := 2) rfl))
   have v161 : Arv Z h161 fiR kfiR .int 1 [(.int xa)] (.int 0) := Arv.set Ar161 q161 S161 n161_ H161 G161 rfl W161 0 rfl (Nat.le_of_ble_eq_true rfl)
   have N161 := Fr.snoc X161 N150 g_fiR
   have R162 := fun t k => R160 t (st161 t k)
   have ei : own_ins p3 [xa] = [xa, p3] := own_in1_1 ho0
   obtain ⟨fs, hr, hrun, hended, hW, hsame⟩ := X161.leave (v := none) (fun _ => rfl)
   refine ⟨_, _, pre0 _ (R162 _ ?_), hrun, hended, _, _, rfl, ?_, ⟨_, rfl⟩, hW, hsame.mono (by decide) (by decide)⟩
   ·
    show own_S p e below T161 (mkF m 236 #[rv oR, own_l (257 : Int64), .second, iv p3, iv p3, .val .null, iv 0, iv 1, rv kkR, iv 0] []) _
    exact X161.returnOut hx Bd.returns (hb hby d15_236) hr
   ·
    show Q_rmOi0 Z oR p3 ckR kckR kkR fiR kfiR saR kstR [xa] h0 n0 _ T161.heap _
    rw [e161]
    exact ⟨rfl, N161, K161, (by rw [ei]; exact f161_F_size_kkR), f161_F_starts_kkR, (by rw [ei]; exact v161), (by rw [ei]; exact f161_A_saR)⟩
 ·
  have lt_F_size_kkR : Fld Z h0 kkR sN0 "size" "I" (.int 2) := F_size_kkR
  have lt_A_fiR : Arv Z h0 fiR kfiR .int 1 [(.int xa)] (.int 0) := A_fiR
  have lt_A_saR : Arv Z h0 saR kstR .int 256 [(.int xa), (.int xb), (.int 0)] (.int 0) := A_saR
  rcases own_q2 hso hq with ⟨ho0, ho1⟩ | ⟨ho0, ho1⟩ | ⟨ho0, ho1⟩
  ·
   have R163 : own_R p e below s₁ (mkF m 0 #[rv oR, own_l (256 : Int64), .second, iv p3, iv p3, .val .null, .unset, .unset, .unset, .unset] []) s₁ f0 := by have q := R0; rw [((own_pe2_0 ho0 ho1) : (own_p [xa, xb] p3) = (256 : Int64))] at q; exact q
   have R164 : own_R p e below s₁ (mkF m 4 #[rv oR, own_l (256 : Int64), .second, iv p3, iv p3, .val .null, .unset, .unset, .unset, .unset] [(.long (((256 : Int64).toUInt64 >>> ((32 : Int32) &&& 0x3f).toInt64.toUInt64).toInt64))]) s₁ f0 := fun t k => R163 t (by
    refine XS.lloadN X0.here hx rfl (hb hby d15_0) rfl ?_
    refine XS.bipush X0.here hx rfl (hb hby d15_1) ?_
    refine XS.lushr X0.here hx rfl (hb hby d15_3) rfl ?_
    exact k)
   have R165 : own_R p e below s₁ (mkF m 4 #[rv oR, own_l (256 : Int64), .second, iv p3, iv p3, .val .null, .unset, .unset, .unset, .unset] [(.long (0 : Int64))]) s₁ f0 := by have q := R164; rw [((by decide) : (((256 : Int64).toUInt64 >>> ((32 : Int32) &&& 0x3f).toInt64.toUInt64).toInt64) = (0 : Int64))] at q; exact q
   have R166 : own_R p e below s₁ (mkF m 5 #[rv oR, own_l (256 : Int64), .second, iv p3, iv p3, .val .null, .unset, .unset, .unset, .unset] [(.int ((0 : Int64).toInt32))]) s₁ f0 := fun t k => R165 t (by
    refine XS.l2i X0.here hx rfl (hb hby d15_4) rfl ?_
    exact k)
   have R167 : own_R p e below s₁ (mkF m 5 #[rv oR, own_l (256 : Int64), .second, iv p3, iv p3, .val .null, .unset, .unset, .unset, .unset] [(.int 0)]) s₁ f0 := by have q := R166; rw [((by decide) : ((0 : Int64).toInt32) = (0 : Int32))] at q; exact q
   have R168 : own_R p e below s₁ (mkF m 9 #[rv oR, own_l (256 : Int64), .second, iv p3, iv p3, .val .null, iv 0, .unset, .unset, .unset] [(.int ((256 : Int64).toInt32))]) s₁ f0 := fun t k => R167 t (by
    refine XS.istore X0.here hx rfl (hb hby d15_5) rfl (l' := #[rv oR, own_l (256 : Int64), .second, iv p3, iv p3, .val .null, iv 0, .unset, .unset, .unset]) rfl ?_
    refine XS.lloadN X0.here hx rfl (hb hby d15_7) rfl ?_
    refine XS.l2i X0.here hx rfl (hb hby d15_8) rfl ?_
    exact k)
   have R169 : own_R p e below s₁ (mkF m 9 #[rv oR, own_l (256 : Int64), .second, iv p3, iv p3, .val .null, iv 0, .unset, .unset, .unset] [(.int 256)]) s₁ f0 := by have q := R168; rw [((by decide) : ((256 : Int64).toInt32) = (256 : Int32))] at q; exact q
   have R170 : own_R p e below s₁ (mkF m 16 #[rv oR, own_l (256 : Int64), .second, iv p3, iv p3, .val .null, iv 0, iv 0, .unset, .unset] [(.ref oR)]) s₁ f0 := fun t k => R169 t (by
    refine XS.sipush X0.here hx rfl (hb hby d15_9) ?_
    refine XS.isub X0.here hx rfl (hb hby d15_12) rfl ?_
    refine XS.istore X0.here hx rfl (hb hby d15_13) rfl (l' := #[rv oR, own_l (256 : Int64), .second, iv p3, iv p3, .val .null, iv 0, iv 0, .unset, .unset]) rfl ?_
    refine XS.aloadN X0.here hx rfl (hb hby d15_15) rfl rfl ?_
    exact k)
   obtain ⟨T171, X171, e171, R172⟩ := own_gF R170 X0 hx hZ hown (host := "") (Or.inl (hU 40 _ rfl)) Via.refl e0 F_chunks_oR rfl rfl (hb hby d15_16)
   have R173 : own_R p e below T171 (mkF m 21 #[rv oR, own_l (256 : Int64), .second, iv p3, iv p3, .val .null, iv 0, iv 0, .unset, .unset] [(.int 0), (.ref ckR)]) s₁ f0 := fun t k => R172 t (by
    refine XS.iload X171.here hx rfl (hb hby d15_19) rfl ?_
    exact k)
   obtain ⟨cl174, Ar174, q174, S174, n174_, H174, G174⟩ := id A_ckR
   have hin174 : ¬ ((0 : Int32) < 0 ∨ cl174.slots.size ≤ ((0 : Int32)).toNatClampNeg) := inb_of S174 ⟨by decide, by decide⟩
   have hat174 : cl174.slots[((0 : Int32)).toNatClampNeg]? = some (.ref kkR) := Has.at H174 hin174 rfl
   have R175 : own_R p e below T171 (mkF m 22 #[rv oR, own_l (256 : Int64), .second, iv p3, iv p3, .val .null, iv 0, iv 0, .unset, .unset] [(.ref kkR)]) s₁ f0 := fun t k => R173 t (X171.aaload hx (j := (0 : Int32)) (v := (.ref kkR)) (by rw [e171]; exact Ar174.1) (State.isArrayOf_alike hZ.alike Ar174.2.1) rfl Ar174.2.2 hin174 hat174 (g := (mkF m 21 #[rv oR, own_l (256 : Int64), .second, iv p3, iv p3, .val .null, iv 0, iv 0, .unset, .unset] [(.int 0), (.ref ckR)])) rfl rfl (hb hby d15_21) _ k)
   have R176 : own_R p e below T171 (mkF m 26 #[rv oR, own_l (256 : Int64), .second, iv p3, iv p3, .val .null, iv 0, iv 0, rv kkR, .unset] [(.ref kkR)]) s₁ f0 := fun t k => R175 t (by
    refine XS.astore X171.here hx rfl (hb hby d15_22) rfl rfl (l' := #[rv oR, own_l (256 : Int64), .second, iv p3, iv p3, .val .null, iv 0, iv 0, rv kkR, .unset]) rfl ?_
    refine XS.aload X171.here hx rfl (hb hby d15_24) rfl rfl ?_
    exact k)
   obtain ⟨T177, X177, e177, R178⟩ := own_gF R176 X171 hx hZ hown (Or.inr (hU 63 _ rfl)) Via.refl e171 lt_F_size_kkR rfl rfl (hb hby d15_26)
   have R179 : own_R p e below T177 (mkF m 104 #[rv oR, own_l (256 : Int64), .second, iv p3, iv p3, .val .null, iv 0, iv 0, rv kkR, .unset] [(.ref kkR)]) s₁ f0 := fun t k => R178 t (by
    refine XS.sipush X177.here hx rfl (hb hby d15_29) ?_
    refine XS.icmpYes X177.here hx rfl (pc0 := 32) (pc' := 102) rfl (hb hby d15_32) rfl (feq (by decide : ¬ ((2 : Int32) = (256 : Int32)))).2 (by decide) (by decide) ?_
    refine XS.aload X177.here hx rfl (hb hby d15_102) rfl rfl ?_
    exact k)
   obtain ⟨T180, X180, e180, R181⟩ := own_gF R179 X177 hx hZ hown (Or.inr (hU 63 _ rfl)) Via.refl e177 lt_F_size_kkR rfl rfl (hb hby d15_104)
   have R182 : own_R p e below T180 (mkF m 114 #[rv oR, own_l (256 : Int64), .second, iv p3, iv p3, .val .null, iv 0, iv 0, rv kkR, iv 2] [(.ref kkR)]) s₁ f0 := fun t k => R181 t (by
    refine XS.iload X180.here hx rfl (hb hby d15_107) rfl ?_
    refine XS.isub X180.here hx rfl (hb hby d15_109) rfl ?_
    refine XS.istore X180.here hx rfl (hb hby d15_110) rfl (l' := #[rv oR, own_l (256 : Int64), .second, iv p3, iv p3, .val .null, iv 0, iv 0, rv kkR, iv 2]) rfl ?_
    refine XS.aload X180.here hx rfl (hb hby d15_112) rfl rfl ?_
    exact k)
   obtain ⟨T183, X183, e183, R184⟩ := own_gF R182 X180 hx hZ hown (Or.inr (hU 106 _ rfl)) Via.refl e180 F_starts_kkR rfl rfl (hb hby d15_114)
   have R185 : own_R p e below T183 (mkF m 121 #[rv oR, own_l (256 : Int64), .second, iv p3, iv p3, .val .null, iv 0, iv 0, rv kkR, iv 2] [(.ref kkR), (.int 0), (.ref saR)]) s₁ f0 := fun t k => R184 t (by
    refine XS.iload X183.here hx rfl (hb hby d15_117) rfl ?_
    refine XS.aload X183.here hx rfl (hb hby d15_119) rfl rfl ?_
    exact k)
   obtain ⟨T186, X186, e186, R187⟩ := own_gF R185 X183 hx hZ hown (Or.inr (hU 106 _ rfl)) Via.refl e183 F_starts_kkR rfl rfl (hb hby d15_121)
   have R188 : own_R p e below T186 (mkF m 130 #[rv oR, own_l (256 : Int64), .second, iv p3, iv p3, .val .null, iv 0, iv 0, rv kkR, iv 2] [(.int 2), (.int 1), (.ref saR), (.int 0), (.ref saR)]) s₁ f0 := fun t k => R187 t (by
    refine XS.iload X186.here hx rfl (hb hby d15_124) rfl ?_
    refine XS.iconst X186.here hx rfl (hb hby d15_126) ?_
    refine XS.iadd X186.here hx rfl (hb hby d15_127) rfl ?_
    refine XS.iload X186.here hx rfl (hb hby d15_128) rfl ?_
    exact k)
   obtain ⟨T189, h189, L189, X189, e189, N189, Kc189, v189_, st189⟩ := cpA X186 hx hZ hown (hU 107 _ rfl) (hU 110 _ rfl) (hU 108 _ rfl) (hU 109 _ rfl) e186 lt_A_saR lt_A_saR (us := [(.int xa), (.int xb)]) (Or.inl ⟨rfl, rfl⟩) (by decide) (by decide) (by decide) (by decide) (by decide) rfl (Nat.le_of_ble_eq_true rfl) N0 g_saR (g := (mkF m 130 #[rv oR, own_l (256 : Int64), .second, iv p3, iv p3, .val .null, iv 0, iv 0, rv kkR, iv 2] [(.int 2), (.int 1), (.ref saR), (.int 0), (.ref saR)])) rfl (by rw [hml]; rfl) rfl (hb hby d15_130) (by decide) (W := 0) (Nat.le_of_eq rfl) (by decide)
   have f189_E_oR := E_oR.keep Kc189
   have f189_F_firsts_oR := F_firsts_oR.keep Kc189 (ninS (Exa.neArv E_oR lt_A_saR (hU 10 _ rfl)) nin0)
   have f189_F_withItems_oR := F_withItems_oR.keep Kc189 (ninS (Exa.neArv E_oR lt_A_saR (hU 10 _ rfl)) nin0)
   have f189_E_kkR := E_kkR.keep Kc189
   have f189_F_size_kkR := lt_F_size_kkR.keep Kc189 (ninS (Exa.neArv E_kkR lt_A_saR (hU 25 _ rfl)) nin0)
   have f189_F_starts_kkR := F_starts_kkR.keep Kc189 (ninS (Exa.neArv E_kkR lt_A_saR (hU 25 _ rfl)) nin0)
   have f189_A_fiR := lt_A_fiR.keep Kc189 (ninS ne_fiR_saR nin0)
   have z189 : n0 ≤ h189.size := Nat.le_trans Z0 Kc189.1
   have K189 : Keep h0 h189 [saR, kkR, fiR] := (Keep.refl h0 [saR, kkR, fiR]).trans Kc189 (allS (Or.inl (List.mem_of_getElem? (i := 0) rfl)) all0)
   have v189 : Arv Z h189 saR kstR .int 256 [(.int xa), (.int xa), (.int xb)] (.int 0) := v189_
   have R190 := fun t k => R188 t (st189 t k)
   have R191 : own_R p e below T189 (mkF m 135 #[rv oR, own_l (256 : Int64), .second, iv p3, iv p3, .val .null, iv 0, iv 0, rv kkR, iv 2] [(.ref kkR)]) s₁ f0 := fun t k => R190 t (by
    refine XS.aload X189.here hx rfl (hb hby d15_133) rfl rfl ?_
    exact k)
   obtain ⟨T192, X192, e192, R193⟩ := own_gF R191 X189 hx hZ hown (Or.inr (hU 106 _ rfl)) Via.refl e189 f189_F_starts_kkR rfl rfl (hb hby d15_135)
   have R194 : own_R p e below T192 (mkF m 141 #[rv oR, own_l (256 : Int64), .second, iv p3, iv p3, .val .null, iv 0, iv 0, rv kkR, iv 2] [(.int p3), (.int 0), (.ref saR)]) s₁ f0 := fun t k => R193 t (by
    refine XS.iload X192.here hx rfl (hb hby d15_138) rfl ?_
    refine XS.iloadN X192.here hx rfl (hb hby d15_140) rfl ?_
    exact k)
   obtain ⟨cl195, Ar195, q195, S195, n195_, H195, G195⟩ := id v189
   have hin195 : ¬ ((0 : Int32) < 0 ∨ cl195.slots.size ≤ ((0 : Int32)).toNatClampNeg) := inb_of S195 ⟨by decide, by decide⟩
   obtain ⟨T195, h195, X195, e195, W195, st195⟩ := stI X192 hx hZ e192 Ar195 (j := (0 : Int32)) hin195 (g := (mkF m 141 #[rv oR, own_l (256 : Int64), .second, iv p3, iv p3, .val .null, iv 0, iv 0, rv kkR, iv 2] [(.int p3), (.int 0), (.ref saR)])) rfl rfl (hb hby d15_141)
   have f195_E_oR := f189_E_oR.wr W195
   have f195_F_firsts_oR := f189_F_firsts_oR.other W195 (Or.inl (Exa.neArv f189_E_oR v189 (hU 10 _ rfl)))
   have f195_F_withItems_oR := f189_F_withItems_oR.other W195 (Or.inl (Exa.neArv f189_E_oR v189 (hU 10 _ rfl)))
   have f195_E_kkR := f189_E_kkR.wr W195
   have f195_F_size_kkR := f189_F_size_kkR.other W195 (Or.inl (Exa.neArv f189_E_kkR v189 (hU 25 _ rfl)))
   have f195_F_starts_kkR := f189_F_starts_kkR.other W195 (Or.inl (Exa.neArv f189_E_kkR v189 (hU 25 _ rfl)))
   have f195_A_fiR := f189_A_fiR.other W195 ne_fiR_saR
   have z195 : n0 ≤ h195.size := by rw [W195.size]; exact z189
   have K195 : Keep h0 h195 [saR, kkR, fiR] := K189.wr W195 (Or.inl (List.mem_of_getElem? (i := 0) rfl))
   have v195 : Arv Z h195 saR kstR .int 256 [(.int p3), (.int xa), (.int xb)] (.int 0) := Arv.set Ar195 q195 S195 n195_ H195 G195 rfl W195 0 rfl (Nat.le_of_ble_eq_true rfl)
   have N195 := Fr.snoc X195 N189 g_saR
   have R196 := fun t k => R194 t (st195 t k)
   have R197 : own_R p e below T195 (mkF m 143 #[rv oR, own_l (256 : Int64), .second, iv p3, iv p3, .val .null, iv 0, iv 0, rv kkR, iv 2] [(.ref oR)]) s₁ f0 := fun t k => R196 t (by
    refine XS.aloadN X195.here hx rfl (hb hby d15_142) rfl rfl ?_
    exact k)
   obtain ⟨T198, X198, e198, R199⟩ := own_gF R197 X195 hx hZ hown (host := "") (Or.inl (hU 21 _ rfl)) Via.refl e195 f195_F_withItems_oR rfl rfl (hb hby d15_143)
   have R200 : own_R p e below T198 (mkF m 214 #[rv oR, own_l (256 : Int64), .second, iv p3, iv p3, .val .null, iv 0, iv 0, rv kkR, iv 2] [(.ref kkR), (.ref kkR)]) s₁ f0 := fun t k => R199 t (by
    refine XS.ifYes X198.here hx rfl (pc0 := 146) (pc' := 211) rfl (hb hby d15_146) rfl ((if0 _ _).trans (teq (by decide : (0 : Int32) = (0 : Int32))).1) (by decide) (by decide) ?_
    refine XS.aload X198.here hx rfl (hb hby d15_211) rfl rfl ?_
    refine XS.dup X198.here hx rfl (hb hby d15_213) rfl rfl ?_
    exact k)
   obtain ⟨T201, X201, e201, R202⟩ := own_gF R200 X198 hx hZ hown (Or.inr (hU 63 _ rfl)) Via.refl e198 f195_F_size_kkR rfl rfl (hb hby d15_214)
   have R203 : own_R p e below T201 (mkF m 219 #[rv oR, own_l (256 : Int64), .second, iv p3, iv p3, .val .null, iv 0, iv 0, rv kkR, iv 2] [(.int 3), (.ref kkR)]) s₁ f0 := fun t k => R202 t (by
    refine XS.iconst X201.here hx rfl (hb hby d15_217) ?_
    refine XS.iadd X201.here hx rfl (hb hby d15_218) rfl ?_
    exact k)
   obtain ⟨T204, h204, X204, e204, W204, st204⟩ := putF X201 hx hZ hown (Or.inr (hU 63 _ rfl)) Via.refl e201 f195_F_size_kkR f195_E_kkR (Or.inl (hU 64 _ rfl)) (hU 25 _ rfl) (ty := .int) (by decide) rfl rfl (g := (mkF m 219 #[rv oR, own_l (256 : Int64), .second, iv p3, iv p3, .val .null, iv 0, iv 0, rv kkR, iv 2] [(.int 3), (.ref kkR)])) rfl rfl (hb hby d15_219)
   have fw204 : Fld Z h204 kkR sN0 "size" "I" (.int 3) := f195_F_size_kkR.same W204
   have f204_E_oR := f195_E_oR.wr W204
   have f204_F_firsts_oR := f195_F_firsts_oR.other W204 (Or.inl (Exa.ne f195_E_oR f195_E_kkR (by decide)))
   have f204_E_kkR := f195_E_kkR.wr W204
   have f204_F_starts_kkR := f195_F_starts_kkR.other W204 (Or.inr (slot_ne (Or.inr (hU 32 _ rfl)) (Or.inl (hU 64 _ rfl)) (by decide) (t := (.array .int)) (t' := .int) (by decide) (by decide)))
   have f204_A_fiR := f195_A_fiR.other W204 (Ne.symm (Exa.neArv f195_E_kkR f195_A_fiR (hU 25 _ rfl)))
   have f204_A_saR := v195.other W204 (Ne.symm (Exa.neArv f195_E_kkR v195 (hU 25 _ rfl)))
   have z204 : n0 ≤ h204.size := by rw [W204.size]; exact z195
   have K204 : Keep h0 h204 [saR, kkR, fiR] := K195.wr W204 (Or.inl (List.mem_of_getElem? (i := 1) rfl))
   have N204 := Fr.snoc X204 N195 g_kkR
   have R205 := fun t k => R203 t (st204 t k)
   have R206 : own_R p e below T204 (mkF m 223 #[rv oR, own_l (256 : Int64), .second, iv p3, iv p3, .val .null, iv 0, iv 0, rv kkR, iv 2] [(.ref oR)]) s₁ f0 := fun t k => R205 t (by
    refine XS.aloadN X204.here hx rfl (hb hby d15_222) rfl rfl ?_
    exact k)
   obtain ⟨T207, X207, e207, R208⟩ := own_gF R206 X204 hx hZ hown (host := "") (Or.inl (hU 17 _ rfl)) Via.refl e204 f204_F_firsts_oR rfl rfl (hb hby d15_223)
   have R209 : own_R p e below T207 (mkF m 230 #[rv oR, own_l (256 : Int64), .second, iv p3, iv p3, .val .null, iv 0, iv 0, rv kkR, iv 2] [(.ref kkR), (.int 0), (.ref fiR)]) s₁ f0 := fun t k => R208 t (by
    refine XS.iload X207.here hx rfl (hb hby d15_226) rfl ?_
    refine XS.aload X207.here hx rfl (hb hby d15_228) rfl rfl ?_
    exact k)
   obtain ⟨T210, X210, e210, R211⟩ := own_gF R209 X207 hx hZ hown (Or.inr (hU 106 _ rfl)) Via.refl e207 f204_F_starts_kkR rfl rfl (hb hby d15_230)
   have R212 : own_R p e below T210 (mkF m 234 #[rv oR, own_l (256 : Int64), .second, iv p3, iv p3, .val .null, iv 0, iv 0, rv kkR, iv 2] [(.int 0), (.ref saR), (.int 0), (.ref fiR)]) s₁ f0 := fun t k => R211 t (by
    refine XS.iconst X210.here hx rfl (hb hby d15_233) ?_
    exact k)
   obtain ⟨cl213, Ar213, q213, S213, n213_, H213, G213⟩ := id f204_A_saR
   have hin213 : ¬ ((0 : Int32) < 0 ∨ cl213.slots.size ≤ ((0 : Int32)).toNatClampNeg) := inb_of S213 ⟨by decide, by decide⟩
   have hat213 : cl213.slots[((0 : Int32)).toNatClampNeg]? = some (.int p3) := Has.at H213 hin213 rfl
   have R214 : own_R p e below T210 (mkF m 235 #[rv oR, own_l (256 : Int64), .second, iv p3, iv p3, .val .null, iv 0, iv 0, rv kkR, iv 2] [(.int p3), (.int 0), (.ref fiR)]) s₁ f0 := fun t k => R212 t (X210.iaload hx (j := (0 : Int32)) (v := (.int p3)) (by rw [e210]; exact Ar213.1) (State.isArrayOf_alike hZ.alike Ar213.2.1) Ar213.2.2 hin213 hat213 (g := (mkF m 234 #[rv oR, own_l (256 : Int64), .second, iv p3, iv p3, .val .null, iv 0, iv 0, rv kkR, iv 2] [(.int 0), (.ref saR), (.int 0), (.ref fiR)])) rfl rfl (hb hby d15_234) _ k)
   obtain ⟨cl215, Ar215, q215, S215, n215_, H215, G215⟩ := id f204_A_fiR
   have hin215 : ¬ ((0 : Int32) < 0 ∨ cl215.slots.size ≤ ((0 : Int32)).toNatClampNeg) := inb_of S215 ⟨by decide, by decide⟩
   obtain ⟨T215, h215, X215, e215, W215, st215⟩ := stI X210 hx hZ e210 Ar215 (j := (0 : Int32)) hin215 (g := (mkF m 235 #[rv oR, own_l (256 : Int64), .second, iv p3, iv p3, .val .null, iv 0, iv 0, rv kkR, iv 2] [(.int p3), (.int 0), (.ref fiR)])) rfl rfl (hb hby d15_235)
   have f215_E_oR := f204_E_oR.wr W215
   have f215_F_firsts_oR := f204_F_firsts_oR.other W215 (Or.inl (Exa.neArv f204_E_oR f204_A_fiR (hU 10 _ rfl)))
   have f215_E_kkR := f204_E_kkR.wr W215
   have f215_F_size_kkR := fw204.other W215 (Or.inl (Exa.neArv f204_E_kkR f204_A_fiR (hU 25 _ rfl)))
   have f215_F_starts_kkR := f204_F_starts_kkR.other W215 (Or.inl (Exa.neArv f204_E_kkR f204_A_fiR (hU 25 _ rfl)))
   have f215_A_saR := f204_A_saR.other W215 (Ne.symm ne_fiR_saR)
   have z215 : n0 ≤ h215.size := by rw [W215.size]; exact z204
   have K215 : Keep h0 h215 [saR, kkR, fiR] := K204.wr W215 (Or.inl (List.mem_of_getElem? (i := 2) rfl))
   have v215 : Arv Z h215 fiR kfiR .int 1 [(.int p3)] (.int 0) := Arv.set Ar215 q215 S215 n215_ H215 G215 rfl W215 0 rfl (Nat.le_of_ble_eq_true rfl)
   have N215 := Fr.snoc X215 N204 g_fiR
   have R216 := fun t k => R214 t (st215 t k)
   have ei : own_ins p3 [xa, xb] = [p3, xa, xb] := own_in2_0 ho0 ho1
   obtain ⟨fs, hr, hrun, hended, hW, hsame⟩ := X215.leave (v := none) (fun _ => rfl)
   refine ⟨_, _, pre0 _ (R216 _ ?_), hrun, hended, _, _, rfl, ?_, ⟨_, rfl⟩, hW, hsame.mono (by decide) (by decide)⟩
   ·
    show own_S p e below T215 (mkF m 236 #[rv oR, own_l (256 : Int64), .second, iv p3, iv p3, .val .null, iv 0, iv 0, rv kkR, iv 2] []) _
    exact X215.returnOut hx Bd.returns (hb hby d15_236) hr
   ·
    show Q_rmOi0 Z oR p3 ckR kckR kkR fiR kfiR saR kstR [xa, xb] h0 n0 _ T215.heap _
    rw [e215]
    exact ⟨rfl, N215, K215, (by rw [ei]; exact f215_F_size_kkR), f215_F_starts_kkR, (by rw [ei]; exact v215), (by rw [ei]; exact f215_A_saR)⟩
  ·
   have R217 : own_R p e below s₁ (mkF m 0 #[rv oR, own_l (257 : Int64), .second, iv p3, iv p3, .val .null, .unset, .unset, .unset, .unset] []) s₁ f0 := by have q := R0; rw [((own_pe2_1 ho0 ho1) : (own_p [xa, xb] p3) = (257 : Int64))] at q; exact q
   have R218 : own_R p e below s₁ (mkF m 4 #[rv oR, own_l (257 : Int64), .second, iv p3, iv p3, .val .null, .unset, .unset, .unset, .unset] [(.long (((257 : Int64).toUInt64 >>> ((32 : Int32) &&& 0x3f).toInt64.toUInt64).toInt64))]) s₁ f0 := fun t k => R217 t (by
    refine XS.lloadN X0.here hx rfl (hb hby d15_0) rfl ?_
    refine XS.bipush X0.here hx rfl (hb hby d15_1) ?_
    refine XS.lushr X0.here hx rfl (hb hby d15_3) rfl ?_
    exact k)
   have R219 : own_R p e below s₁ (mkF m 4 #[rv oR, own_l (257 : Int64), .second, iv p3, iv p3, .val .null, .unset, .unset, .unset, .unset] [(.long (0 : Int64))]) s₁ f0 := by have q := R218; rw [((by decide) : (((257 : Int64).toUInt64 >>> ((32 : Int32) &&& 0x3f).toInt64.toUInt64).toInt64) = (0 : Int64))] at q; exact q
   have R220 : own_R p e below s₁ (mkF m 5 #[rv oR, own_l (257 : Int64), .second, iv p3, iv p3, .val .null, .unset, .unset, .unset, .unset] [(.int ((0 : Int64).toInt32))]) s₁ f0 := fun t k => R219 t (by
    refine XS.l2i X0.here hx rfl (hb hby d15_4) rfl ?_
    exact k)
   have R221 : own_R p e below s₁ (mkF m 5 #[rv oR, own_l (257 : Int64), .second, iv p3, iv p3, .val .null, .unset, .unset, .unset, .unset] [(.int 0)]) s₁ f0 := by have q := R220; rw [((by decide) : ((0 : Int64).toInt32) = (0 : Int32))] at q; exact q
   have R222 : own_R p e below s₁ (mkF m 9 #[rv oR, own_l (257 : Int64), .second, iv p3, iv p3, .val .null, iv 0, .unset, .unset, .unset] [(.int ((257 : Int64).toInt32))]) s₁ f0 := fun t k => R221 t (by
    refine XS.istore X0.here hx rfl (hb hby d15_5) rfl (l' := #[rv oR, own_l (257 : Int64), .second, iv p3, iv p3, .val .null, iv 0, .unset, .unset, .unset]) rfl ?_
    refine XS.lloadN X0.here hx rfl (hb hby d15_7) rfl ?_
    refine XS.l2i X0.here hx rfl (hb hby d15_8) rfl ?_
    exact k)
   have R223 : own_R p e below s₁ (mkF m 9 #[rv oR, own_l (257 : Int64), .second, iv p3, iv p3, .val .null, iv 0, .unset, .unset, .unset] [(.int 257)]) s₁ f0 := by have q := R222; rw [((by decide) : ((257 : Int64).toInt32) = (257 : Int32))] at q; exact q
   have R224 : own_R p e below s₁ (mkF m 16 #[rv oR, own_l (257 : Int64), .second, iv p3, iv p3, .val .null, iv 0, iv 1, .unset, .unset] [(.ref oR)]) s₁ f0 := fun t k => R223 t (by
    refine XS.sipush X0.here hx rfl (hb hby d15_9) ?_
    refine XS.isub X0.here hx rfl (hb hby d15_12) rfl ?_
    refine XS.istore X0.here hx rfl (hb hby d15_13) rfl (l' := #[rv oR, own_l (257 : Int64), .second, iv p3, iv p3, .val .null, iv 0, iv 1, .unset, .unset]) rfl ?_
    refine XS.aloadN X0.here hx rfl (hb hby d15_15) rfl rfl ?_
    exact k)
   obtain ⟨T225, X225, e225, R226⟩ := own_gF R224 X0 hx hZ hown (host := "") (Or.inl (hU 40 _ rfl)) Via.refl e0 F_chunks_oR rfl rfl (hb hby d15_16)
   have R227 : own_R p e below T225 (mkF m 21 #[rv oR, own_l (257 : Int64), .second, iv p3, iv p3, .val .null, iv 0, iv 1, .unset, .unset] [(.int 0), (.ref ckR)]) s₁ f0 := fun t k => R226 t (by
    refine XS.iload X225.here hx rfl (hb hby d15_19) rfl ?_
    exact k)
   obtain ⟨cl228, Ar228, q228, S228, n228_, H228, G228⟩ := id A_ckR
   have hin228 : ¬ ((0 : Int32) < 0 ∨ cl228.slots.size ≤ ((0 : Int32)).toNatClampNeg) := inb_of S228 ⟨by decide, by decide⟩
   have hat228 : cl228.slots[((0 : Int32)).toNatClampNeg]? = some (.ref kkR) := Has.at H228 hin228 rfl
   have R229 : own_R p e below T225 (mkF m 22 #[rv oR, own_l (257 : Int64), .second, iv p3, iv p3, .val .null, iv 0, iv 1, .unset, .unset] [(.ref kkR)]) s₁ f0 := fun t k => R227 t (X225.aaload hx (j := (0 : Int32)) (v := (.ref kkR)) (by rw [e225]; exact Ar228.1) (State.isArrayOf_alike hZ.alike Ar228.2.1) rfl Ar228.2.2 hin228 hat228 (g := (mkF m 21 #[rv oR, own_l (257 : Int64), .second, iv p3, iv p3, .val .null, iv 0, iv 1, .unset, .unset] [(.int 0), (.ref ckR)])) rfl rfl (hb hby d15_21) _ k)
   have R230 : own_R p e below T225 (mkF m 26 #[rv oR, own_l (257 : Int64), .second, iv p3, iv p3, .val .null, iv 0, iv 1, rv kkR, .unset] [(.ref kkR)]) s₁ f0 := fun t k => R229 t (by
    refine XS.astore X225.here hx rfl (hb hby d15_22) rfl rfl (l' := #[rv oR, own_l (257 : Int64), .second, iv p3, iv p3, .val .null, iv 0, iv 1, rv kkR, .unset]) rfl ?_
    refine XS.aload X225.here hx rfl (hb hby d15_24) rfl rfl ?_
    exact k)
   obtain ⟨T231, X231, e231, R232⟩ := own_gF R230 X225 hx hZ hown (Or.inr (hU 63 _ rfl)) Via.refl e225 lt_F_size_kkR rfl rfl (hb hby d15_26)
   have R233 : own_R p e below T231 (mkF m 104 #[rv oR, own_l (257 : Int64), .second, iv p3, iv p3, .val .null, iv 0, iv 1, rv kkR, .unset] [(.ref kkR)]) s₁ f0 := fun t k => R232 t (by
    refine XS.sipush X231.here hx rfl (hb hby d15_29) ?_
    refine XS.icmpYes X231.here hx rfl (pc0 := 32) (pc' := 102) rfl (hb hby d15_32) rfl (feq (by decide : ¬ ((2 : Int32) = (256 : Int32)))).2 (by decide) (by decide) ?_
    refine XS.aload X231.here hx rfl (hb hby d15_102) rfl rfl ?_
    exact k)
   obtain ⟨T234, X234, e234, R235⟩ := own_gF R233 X231 hx hZ hown (Or.inr (hU 63 _ rfl)) Via.refl e231 lt_F_size_kkR rfl rfl (hb hby d15_104)
   have R236 : own_R p e below T234 (mkF m 114 #[rv oR, own_l (257 : Int64), .second, iv p3, iv p3, .val .null, iv 0, iv 1, rv kkR, iv 1] [(.ref kkR)]) s₁ f0 := fun t k => R235 t (by
    refine XS.iload X234.here hx rfl (hb hby d15_107) rfl ?_
    refine XS.isub X234.here hx rfl (hb hby d15_109) rfl ?_
    refine XS.istore X234.here hx rfl (hb hby d15_110) rfl (l' := #[rv oR, own_l (257 : Int64), .second, iv p3, iv p3, .val .null, iv 0, iv 1, rv kkR, iv 1]) rfl ?_
    refine XS.aload X234.here hx rfl (hb hby d15_112) rfl rfl ?_
    exact k)
   obtain ⟨T237, X237, e237, R238⟩ := own_gF R236 X234 hx hZ hown (Or.inr (hU 106 _ rfl)) Via.refl e234 F_starts_kkR rfl rfl (hb hby d15_114)
   have R239 : own_R p e below T237 (mkF m 121 #[rv oR, own_l (257 : Int64), .second, iv p3, iv p3, .val .null, iv 0, iv 1, rv kkR, iv 1] [(.ref kkR), (.int 1), (.ref saR)]) s₁ f0 := fun t k => R238 t (by
    refine XS.iload X237.here hx rfl (hb hby d15_117) rfl ?_
    refine XS.aload X237.here hx rfl (hb hby d15_119) rfl rfl ?_
    exact k)
   obtain ⟨T240, X240, e240, R241⟩ := own_gF R239 X237 hx hZ hown (Or.inr (hU 106 _ rfl)) Via.refl e237 F_starts_kkR rfl rfl (hb hby d15_121)
   have R242 : own_R p e below T240 (mkF m 130 #[rv oR, own_l (257 : Int64), .second, iv p3, iv p3, .val .null, iv 0, iv 1, rv kkR, iv 1] [(.int 1), (.int 2), (.ref saR), (.int 1), (.ref saR)]) s₁ f0 := fun t k => R241 t (by
    refine XS.iload X240.here hx rfl (hb hby d15_124) rfl ?_
    refine XS.iconst X240.here hx rfl (hb hby d15_126) ?_
    refine XS.iadd X240.here hx rfl (hb hby d15_127) rfl ?_
    refine XS.iload X240.here hx rfl (hb hby d15_128) rfl ?_
    exact k)
   obtain ⟨T243, h243, L243, X243, e243, N243, Kc243, v243_, st243⟩ := cpA X240 hx hZ hown (hU 107 _ rfl) (hU 110 _ rfl) (hU 108 _ rfl) (hU 109 _ rfl) e240 lt_A_saR lt_A_saR (us := [(.int xb)]) (Or.inl ⟨rfl, rfl⟩) (by decide) (by decide) (by decide) (by decide) (by decide) rfl (Nat.le_of_ble_eq_true rfl) N0 g_saR (g := (mkF m 130 #[rv oR, own_l (257 : Int64), .second, iv p3, iv p3, .val .null, iv 0, iv 1, rv kkR, iv 1] [(.int 1), (.int 2), (.ref saR), (.int 1), (.ref saR)])) rfl (by rw [hml]; rfl) rfl (hb hby d15_130) (by decide) (W := 0) (Nat.le_of_eq rfl) (by decide)
   have f243_E_oR := E_oR.keep Kc243
   have f243_F_firsts_oR := F_firsts_oR.keep Kc243 (ninS (Exa.neArv E_oR lt_A_saR (hU 10 _ rfl)) nin0)
   have f243_F_withItems_oR := F_withItems_oR.keep Kc243 (ninS (Exa.neArv E_oR lt_A_saR (hU 10 _ rfl)) nin0)
   have f243_E_kkR := E_kkR.keep Kc243
   have f243_F_size_kkR := lt_F_size_kkR.keep Kc243 (ninS (Exa.neArv E_kkR lt_A_saR (hU 25 _ rfl)) nin0)
   have f243_F_starts_kkR := F_starts_kkR.keep Kc243 (ninS (Exa.neArv E_kkR lt_A_saR (hU 25 _ rfl)) nin0)
   have f243_A_fiR := lt_A_fiR.keep Kc243 (ninS ne_fiR_saR nin0)
   have z243 : n0 ≤ h243.size := Nat.le_trans Z0 Kc243.1
   have K243 : Keep h0 h243 [saR, kkR, fiR] := (Keep.refl h0 [saR, kkR, fiR]).trans Kc243 (allS (Or.inl (List.mem_of_getElem? (i := 0) rfl)) all0)
   have v243 : Arv Z h243 saR kstR .int 256 [(.int xa), (.int xb), (.int xb)] (.int 0) := v243_
   have R244 := fun t k => R242 t (st243 t k)
   have R245 : own_R p e below T243 (mkF m 135 #[rv oR, own_l (257 : Int64), .second, iv p3, iv p3, .val .null, iv 0, iv 1, rv kkR, iv 1] [(.ref kkR)]) s₁ f0 := fun t k => R244 t (by
    refine XS.aload X243.here hx rfl (hb hby d15_133) rfl rfl ?_
    exact k)
   obtain ⟨T246, X246, e246, R247⟩ := own_gF R245 X243 hx hZ hown (Or.inr (hU 106 _ rfl)) Via.refl e243 f243_F_starts_kkR rfl rfl (hb hby d15_135)
   have R248 : own_R p e below T246 (mkF m 141 #[rv oR, own_l (257 : Int64), .second, iv p3, iv p3, .val .null, iv 0, iv 1, rv kkR, iv 1] [(.int p3), (.int 1), (.ref saR)]) s₁ f0 := fun t k => R247 t (by
    refine XS.iload X246.here hx rfl (hb hby d15_138) rfl ?_
    refine XS.iloadN X246.here hx rfl (hb hby d15_140) rfl ?_
    exact k)
   obtain ⟨cl249, Ar249, q249, S249, n249_, H249, G249⟩ := id v243
   have hin249 : ¬ ((1 : Int32) < 0 ∨ cl249.slots.size ≤ ((1 : Int32)).toNatClampNeg) := inb_of S249 ⟨by decide, by decide⟩
   obtain ⟨T249, h249, X249, e249, W249, st249⟩ := stI X246 hx hZ e246 Ar249 (j := (1 : Int32)) hin249 (g := (mkF m 141 #[rv oR, own_l (257 : Int64), .second, iv p3, iv p3, .val .null, iv 0, iv 1, rv kkR, iv 1] [(.int p3), (.int 1), (.ref saR)])) rfl rfl (hb hby d15_141)
   have f249_E_oR := f243_E_oR.wr W249
   have f249_F_firsts_oR := f243_F_firsts_oR.other W249 (Or.inl (Exa.neArv f243_E_oR v243 (hU 10 _ rfl)))
   have f249_F_withItems_oR := f243_F_withItems_oR.other W249 (Or.inl (Exa.neArv f243_E_oR v243 (hU 10 _ rfl)))
   have f249_E_kkR := f243_E_kkR.wr W249
   have f249_F_size_kkR := f243_F_size_kkR.other W249 (Or.inl (Exa.neArv f243_E_kkR v243 (hU 25 _ rfl)))
   have f249_F_starts_kkR := f243_F_starts_kkR.other W249 (Or.inl (Exa.neArv f243_E_kkR v243 (hU 25 _ rfl)))
   have f249_A_fiR := f243_A_fiR.other W249 ne_fiR_saR
   have z249 : n0 ≤ h249.size := by rw [W249.size]; exact z243
   have K249 : Keep h0 h249 [saR, kkR, fiR] := K243.wr W249 (Or.inl (List.mem_of_getElem? (i := 0) rfl))
   have v249 : Arv Z h249 saR kstR .int 256 [(.int xa), (.int p3), (.int xb)] (.int 0) := Arv.set Ar249 q249 S249 n249_ H249 G249 rfl W249 1 rfl (Nat.le_of_ble_eq_true rfl)
   have N249 := Fr.snoc X249 N243 g_saR
   have R250 := fun t k => R248 t (st249 t k)
   have R251 : own_R p e below T249 (mkF m 143 #[rv oR, own_l (257 : Int64), .second, iv p3, iv p3, .val .null, iv 0, iv 1, rv kkR, iv 1] [(.ref oR)]) s₁ f0 := fun t k => R250 t (by
    refine XS.aloadN X249.here hx rfl (hb hby d15_142) rfl rfl ?_
    exact k)
   obtain ⟨T252, X252, e252, R253⟩ := own_gF R251 X249 hx hZ hown (host := "") (Or.inl (hU 21 _ rfl)) Via.refl e249 f249_F_withItems_oR rfl rfl (hb hby d15_143)
   have R254 : own_R p e below T252 (mkF m 214 #[rv oR, own_l (257 : Int64), .second, iv p3, iv p3, .val .null, iv 0, iv 1, rv kkR, iv 1] [(.ref kkR), (.ref kkR)]) s₁ f0 := fun t k => R253 t (by
    refine XS.ifYes X252.here hx rfl (pc0 := 146) (pc' := 211) rfl (hb hby d15_146) rfl ((if0 _ _).trans (teq (by decide : (0 : Int32) = (0 : Int32))).1) (by decide) (by decide) ?_
    refine XS.aload X252.here hx rfl (hb hby d15_211) rfl rfl ?_
    refine XS.dup X252.here hx rfl (hb hby d15_213) rfl rfl ?_
    exact k)
   obtain ⟨T255, X255, e255, R256⟩ := own_gF R254 X252 hx hZ hown (Or.inr (hU 63 _ rfl)) Via.refl e252 f249_F_size_kkR rfl rfl (hb hby d15_214)
   have R257 : own_R p e below T255 (mkF m 219 #[rv oR, own_l (257 : Int64), .second, iv p3, iv p3, .val .null, iv 0, iv 1, rv kkR, iv 1] [(.int 3), (.ref kkR)]) s₁ f0 := fun t k => R256 t (by
    refine XS.iconst X255.here hx rfl (hb hby d15_217) ?_
    refine XS.iadd X255.here hx rfl (hb hby d15_218) rfl ?_
    exact k)
   obtain ⟨T258, h258, X258, e258, W258, st258⟩ := putF X255 hx hZ hown (Or.inr (hU 63 _ rfl)) Via.refl e255 f249_F_size_kkR f249_E_kkR (Or.inl (hU 64 _ rfl)) (hU 25 _ rfl) (ty := .int) (by decide) rfl rfl (g := (mkF m 219 #[rv oR, own_l (257 : Int64), .second, iv p3, iv p3, .val .null, iv 0, iv 1, rv kkR, iv 1] [(.int 3), (.ref kkR)])) rfl rfl (hb hby d15_219)
   have fw258 : Fld Z h258 kkR sN0 "size" "I" (.int 3) := f249_F_size_kkR.same W258
   have f258_E_oR := f249_E_oR.wr W258
   have f258_F_firsts_oR := f249_F_firsts_oR.other W258 (Or.inl (Exa.ne f249_E_oR f249_E_kkR (by decide)))
   have f258_E_kkR := f249_E_kkR.wr W258
   have f258_F_starts_kkR := f249_F_starts_kkR.other W258 (Or.inr (slot_ne (Or.inr (hU 32 _ rfl)) (Or.inl (hU 64 _ rfl)) (by decide) (t := (.array .int)) (t' := .int) (by decide) (by decide)))
   have f258_A_fiR := f249_A_fiR.other W258 (Ne.symm (Exa.neArv f249_E_kkR f249_A_fiR (hU 25 _ rfl)))
   have f258_A_saR := v249.other W258 (Ne.symm (Exa.neArv f249_E_kkR v249 (hU 25 _ rfl)))
   have z258 : n0 ≤ h258.size := by rw [W258.size]; exact z249
   have K258 : Keep h0 h258 [saR, kkR, fiR] := K249.wr W258 (Or.inl (List.mem_of_getElem? (i := 1) rfl))
   have N258 := Fr.snoc X258 N249 g_kkR
   have R259 := fun t k => R257 t (st258 t k)
   have R260 : own_R p e below T258 (mkF m 223 #[rv oR, own_l (257 : Int64), .second, iv p3, iv p3, .val .null, iv 0, iv 1, rv kkR, iv 1] [(.ref oR)]) s₁ f0 := fun t k => R259 t (by
    refine XS.aloadN X258.here hx rfl (hb hby d15_222) rfl rfl ?_
    exact k)
   obtain ⟨T261, X261, e261, R262⟩ := own_gF R260 X258 hx hZ hown (host := "") (Or.inl (hU 17 _ rfl)) Via.refl e258 f258_F_firsts_oR rfl rfl (hb hby d15_223)
   have R263 : own_R p e below T261 (mkF m 230 #[rv oR, own_l (257 : Int64), .second, iv p3, iv p3, .val .null, iv 0, iv 1, rv kkR, iv 1] [(.ref kkR), (.int 0), (.ref fiR)]) s₁ f0 := fun t k => R262 t (by
    refine XS.iload X261.here hx rfl (hb hby d15_226) rfl ?_
    refine XS.aload X261.here hx rfl (hb hby d15_228) rfl rfl ?_
    exact k)
   obtain ⟨T264, X264, e264, R265⟩ := own_gF R263 X261 hx hZ hown (Or.inr (hU 106 _ rfl)) Via.refl e261 f258_F_starts_kkR rfl rfl (hb hby d15_230)
   have R266 : own_R p e below T264 (mkF m 234 #[rv oR, own_l (257 : Int64), .second, iv p3, iv p3, .val .null, iv 0, iv 1, rv kkR, iv 1] [(.int 0), (.ref saR), (.int 0), (.ref fiR)]) s₁ f0 := fun t k => R265 t (by
    refine XS.iconst X264.here hx rfl (hb hby d15_233) ?_
    exact k)
   obtain ⟨cl267, Ar267, q267, S267, n267_, H267, G267⟩ := id f258_A_saR
   have hin267 : ¬ ((0 : Int32) < 0 ∨ cl267.slots.size ≤ ((0 : Int32)).toNatClampNeg) := inb_of S267 ⟨by decide, by decide⟩
   have hat267 : cl267.slots[((0 : Int32)).toNatClampNeg]? = some (.int xa) := Has.at H267 hin267 rfl
   have R268 : own_R p e below T264 (mkF m 235 #[rv oR, own_l (257 : Int64), .second, iv p3, iv p3, .val .null, iv 0, iv 1, rv kkR, iv 1] [(.int xa), (.int 0), (.ref fiR)]) s₁ f0 := fun t k => R266 t (X264.iaload hx (j := (0 : Int32)) (v := (.int xa)) (by rw [e264]; exact Ar267.1) (State.isArrayOf_alike hZ.alike Ar267.2.1) Ar267.2.2 hin267 hat267 (g := (mkF m 234 #[rv oR, own_l (257 : Int64), .second, iv p3, iv p3, .val .null, iv 0, iv 1, rv kkR, iv 1] [(.int 0), (.ref saR), (.int 0), (.ref fiR)])) rfl rfl (hb hby d15_234) _ k)
   obtain ⟨cl269, Ar269, q269, S269, n269_, H269, G269⟩ := id f258_A_fiR
   have hin269 : ¬ ((0 : Int32) < 0 ∨ cl269.slots.size ≤ ((0 : Int32)).toNatClampNeg) := inb_of S269 ⟨by decide, by decide⟩
   obtain ⟨T269, h269, X269, e269, W269, st269⟩ := stI X264 hx hZ e264 Ar269 (j := (0 : Int32)) hin269 (g := (mkF m 235 #[rv oR, own_l (257 : Int64), .second, iv p3, iv p3, .val .null, iv 0, iv 1, rv kkR, iv 1] [(.int xa), (.int 0), (.ref fiR)])) rfl rfl (hb hby d15_235)
   have f269_E_oR := f258_E_oR.wr W269
   have f269_F_firsts_oR := f258_F_firsts_oR.other W269 (Or.inl (Exa.neArv f258_E_oR f258_A_fiR (hU 10 _ rfl)))
   have f269_E_kkR := f258_E_kkR.wr W269
   have f269_F_size_kkR := fw258.other W269 (Or.inl (Exa.neArv f258_E_kkR f258_A_fiR (hU 25 _ rfl)))
   have f269_F_starts_kkR := f258_F_starts_kkR.other W269 (Or.inl (Exa.neArv f258_E_kkR f258_A_fiR (hU 25 _ rfl)))
   have f269_A_saR := f258_A_saR.other W269 (Ne.symm ne_fiR_saR)
   have z269 : n0 ≤ h269.size := by rw [W269.size]; exact z258
   have K269 : Keep h0 h269 [saR, kkR, fiR] := K258.wr W269 (Or.inl (List.mem_of_getElem? (i := 2) rfl))
   have v269 : Arv Z h269 fiR kfiR .int 1 [(.int xa)] (.int 0) := Arv.set Ar269 q269 S269 n269_ H269 G269 rfl W269 0 rfl (Nat.le_of_ble_eq_true rfl)
   have N269 := Fr.snoc X269 N258 g_fiR
   have R270 := fun t k => R268 t (st269 t k)
   have ei : own_ins p3 [xa, xb] = [xa, p3, xb] := own_in2_1 ho0 ho1
   obtain ⟨fs, hr, hrun, hended, hW, hsame⟩ := X269.leave (v := none) (fun _ => rfl)
   refine ⟨_, _, pre0 _ (R270 _ ?_), hrun, hended, _, _, rfl, ?_, ⟨_, rfl⟩, hW, hsame.mono (by decide) (by decide)⟩
   ·
    show own_S p e below T269 (mkF m 236 #[rv oR, own_l (257 : Int64), .second, iv p3, iv p3, .val .null, iv 0, iv 1, rv kkR, iv 1] []) _
    exact X269.returnOut hx Bd.returns (hb hby d15_236) hr
   ·
    show Q_rmOi0 Z oR p3 ckR kckR kkR fiR kfiR saR kstR [xa, xb] h0 n0 _ T269.heap _
    rw [e269]
    exact ⟨rfl, N269, K269, (by rw [ei]; exact f269_F_size_kkR), f269_F_starts_kkR, (by rw [ei]; exact v269), (by rw [ei]; exact f269_A_saR)⟩
  ·
   have R271 : own_R p e below s₁ (mkF m 0 #[rv oR, own_l (258 : Int64), .second, iv p3, iv p3, .val .null, .unset, .unset, .unset, .unset] []) s₁ f0 := by have q := R0; rw [((own_pe2_2 ho0 ho1) : (own_p [xa, xb] p3) = (258 : Int64))] at q; exact q
   have R272 : own_R p e below s₁ (mkF m 4 #[rv oR, own_l (258 : Int64), .second, iv p3, iv p3, .val .null, .unset, .unset, .unset, .unset] [(.long (((258 : Int64).toUInt64 >>> ((32 : Int32) &&& 0x3f).toInt64.toUInt64).toInt64))]) s₁ f0 := fun t k => R271 t (by
    refine XS.lloadN X0.here hx rfl (hb hby d15_0) rfl ?_
    refine XS.bipush X0.here hx rfl (hb hby d15_1) ?_
    refine XS.lushr X0.here hx rfl (hb hby d15_3) rfl ?_
    exact k)
   have R273 : own_R p e below s₁ (mkF m 4 #[rv oR, own_l (258 : Int64), .second, iv p3, iv p3, .val .null, .unset, .unset, .unset, .unset] [(.long (0 : Int64))]) s₁ f0 := by have q := R272; rw [((by decide) : (((258 : Int64).toUInt64 >>> ((32 : Int32) &&& 0x3f).toInt64.toUInt64).toInt64) = (0 : Int64))] at q; exact q
   have R274 : own_R p e below s₁ (mkF m 5 #[rv oR, own_l (258 : Int64), .second, iv p3, iv p3, .val .null, .unset, .unset, .unset, .unset] [(.int ((0 : Int64).toInt32))]) s₁ f0 := fun t k => R273 t (by
    refine XS.l2i X0.here hx rfl (hb hby d15_4) rfl ?_
    exact k)
   have R275 : own_R p e below s₁ (mkF m 5 #[rv oR, own_l (258 : Int64), .second, iv p3, iv p3, .val .null, .unset, .unset, .unset, .unset] [(.int 0)]) s₁ f0 := by have q := R274; rw [((by decide) : ((0 : Int64).toInt32) = (0 : Int32))] at q; exact q
   have R276 : own_R p e below s₁ (mkF m 9 #[rv oR, own_l (258 : Int64), .second, iv p3, iv p3, .val .null, iv 0, .unset, .unset, .unset] [(.int ((258 : Int64).toInt32))]) s₁ f0 := fun t k => R275 t (by
    refine XS.istore X0.here hx rfl (hb hby d15_5) rfl (l' := #[rv oR, own_l (258 : Int64), .second, iv p3, iv p3, .val .null, iv 0, .unset, .unset, .unset]) rfl ?_
    refine XS.lloadN X0.here hx rfl (hb hby d15_7) rfl ?_
    refine XS.l2i X0.here hx rfl (hb hby d15_8) rfl ?_
    exact k)
   have R277 : own_R p e below s₁ (mkF m 9 #[rv oR, own_l (258 : Int64), .second, iv p3, iv p3, .val .null, iv 0, .unset, .unset, .unset] [(.int 258)]) s₁ f0 := by have q := R276; rw [((by decide) : ((258 : Int64).toInt32) = (258 : Int32))] at q; exact q
   have R278 : own_R p e below s₁ (mkF m 16 #[rv oR, own_l (258 : Int64), .second, iv p3, iv p3, .val .null, iv 0, iv 2, .unset, .unset] [(.ref oR)]) s₁ f0 := fun t k => R277 t (by
    refine XS.sipush X0.here hx rfl (hb hby d15_9) ?_
    refine XS.isub X0.here hx rfl (hb hby d15_12) rfl ?_
    refine XS.istore X0.here hx rfl (hb hby d15_13) rfl (l' := #[rv oR, own_l (258 : Int64), .second, iv p3, iv p3, .val .null, iv 0, iv 2, .unset, .unset]) rfl ?_
    refine XS.aloadN X0.here hx rfl (hb hby d15_15) rfl rfl ?_
    exact k)
   obtain ⟨T279, X279, e279, R280⟩ := own_gF R278 X0 hx hZ hown (host := "") (Or.inl (hU 40 _ rfl)) Via.refl e0 F_chunks_oR rfl rfl (hb hby d15_16)
   have R281 : own_R p e below T279 (mkF m 21 #[rv oR, own_l (258 : Int64), .second, iv p3, iv p3, .val .null, iv 0, iv 2, .unset, .unset] [(.int 0), (.ref ckR)]) s₁ f0 := fun t k => R280 t (by
    refine XS.iload X279.here hx rfl (hb hby d15_19) rfl ?_
    exact k)
   obtain ⟨cl282, Ar282, q282, S282, n282_, H282, G282⟩ := id A_ckR
   have hin282 : ¬ ((0 : Int32) < 0 ∨ cl282.slots.size ≤ ((0 : Int32)).toNatClampNeg) := inb_of S282 ⟨by decide, by decide⟩
   have hat282 : cl282.slots[((0 : Int32)).toNatClampNeg]? = some (.ref kkR) := Has.at H282 hin282 rfl
   have R283 : own_R p e below T279 (mkF m 22 #[rv oR, own_l (258 : Int64), .second, iv p3, iv p3, .val .null, iv 0, iv 2, .unset, .unset] [(.ref kkR)]) s₁ f0 := fun t k => R281 t (X279.aaload hx (j := (0 : Int32)) (v := (.ref kkR)) (by rw [e279]; exact Ar282.1) (State.isArrayOf_alike hZ.alike Ar282.2.1) rfl Ar282.2.2 hin282 hat282 (g := (mkF m 21 #[rv oR, own_l (258 : Int64), .second, iv p3, iv p3, .val .null, iv 0, iv 2, .unset, .unset] [(.int 0), (.ref ckR)])) rfl rfl (hb hby d15_21) _ k)
   have R284 : own_R p e below T279 (mkF m 26 #[rv oR, own_l (258 : Int64), .second, iv p3, iv p3, .val .null, iv 0, iv 2, rv kkR, .unset] [(.ref kkR)]) s₁ f0 := fun t k => R283 t (by
    refine XS.astore X279.here hx rfl (hb hby d15_22) rfl rfl (l' := #[rv oR, own_l (258 : Int64), .second, iv p3, iv p3, .val .null, iv 0, iv 2, rv kkR, .unset]) rfl ?_
    refine XS.aload X279.here hx rfl (hb hby d15_24) rfl rfl ?_
    exact k)
   obtain ⟨T285, X285, e285, R286⟩ := own_gF R284 X279 hx hZ hown (Or.inr (hU 63 _ rfl)) Via.refl e279 lt_F_size_kkR rfl rfl (hb hby d15_26)
   have R287 : own_R p e below T285 (mkF m 104 #[rv oR, own_l (258 : Int64), .second, iv p3, iv p3, .val .null, iv 0, iv 2, rv kkR, .unset] [(.ref kkR)]) s₁ f0 := fun t k => R286 t (by
    refine XS.sipush X285.here hx rfl (hb hby d15_29) ?_
    refine XS.icmpYes X285.here hx rfl (pc0 := 32) (pc' := 102) rfl (hb hby d15_32) rfl (feq (by decide : ¬ ((2 : Int32) = (256 : Int32)))).2 (by decide) (by decide) ?_
    refine XS.aload X285.here hx rfl (hb hby d15_102) rfl rfl ?_
    exact k)
   obtain ⟨T288, X288, e288, R289⟩ := own_gF R287 X285 hx hZ hown (Or.inr (hU 63 _ rfl)) Via.refl e285 lt_F_size_kkR rfl rfl (hb hby d15_104)
   have R290 : own_R p e below T288 (mkF m 114 #[rv oR, own_l (258 : Int64), .second, iv p3, iv p3, .val .null, iv 0, iv 2, rv kkR, iv 0] [(.ref kkR)]) s₁ f0 := fun t k => R289 t (by
    refine XS.iload X288.here hx rfl (hb hby d15_107) rfl ?_
    refine XS.isub X288.here hx rfl (hb hby d15_109) rfl ?_
    refine XS.istore X288.here hx rfl (hb hby d15_110) rfl (l' := #[rv oR, own_l (258 : Int64), .second, iv p3, iv p3, .val .null, iv 0, iv 2, rv kkR, iv 0]) rfl ?_
    refine XS.aload X288.here hx rfl (hb hby d15_112) rfl rfl ?_
    exact k)
   obtain ⟨T291, X291, e291, R292⟩ := own_gF R290 X288 hx hZ hown (Or.inr (hU 106 _ rfl)) Via.refl e288 F_starts_kkR rfl rfl (hb hby d15_114)
   have R293 : own_R p e below T291 (mkF m 121 #[rv oR, own_l (258 : Int64), .second, iv p3, iv p3, .val .null, iv 0, iv 2, rv kkR, iv 0] [(.ref kkR), (.int 2), (.ref saR)]) s₁ f0 := fun t k => R292 t (by
    refine XS.iload X291.here hx rfl (hb hby d15_117) rfl ?_
    refine XS.aload X291.here hx rfl (hb hby d15_119) rfl rfl ?_
    exact k)
   obtain ⟨T294, X294, e294, R295⟩ := own_gF R293 X291 hx hZ hown (Or.inr (hU 106 _ rfl)) Via.refl e291 F_starts_kkR rfl rfl (hb hby d15_121)
   have R296 : own_R p e below T294 (mkF m 130 #[rv oR, own_l (258 : Int64), .second, iv p3, iv p3, .val .null, iv 0, iv 2, rv kkR, iv 0] [(.int 0), (.int 3), (.ref saR), (.int 2), (.ref saR)]) s₁ f0 := fun t k => R295 t (by
    refine XS.iload X294.here hx rfl (hb hby d15_124) rfl ?_
    refine XS.iconst X294.here hx rfl (hb hby d15_126) ?_
    refine XS.iadd X294.here hx rfl (hb hby d15_127) rfl ?_
    refine XS.iload X294.here hx rfl (hb hby d15_128) rfl ?_
    exact k)
   obtain ⟨T297, h297, L297, X297, e297, N297, Kc297, v297_, st297⟩ := cpA X294 hx hZ hown (hU 107 _ rfl) (hU 110 _ rfl) (hU 108 _ rfl) (hU 109 _ rfl) e294 lt_A_saR lt_A_saR (us := []) (Or.inl ⟨rfl, rfl⟩) (by decide) (by decide) (by decide) (by decide) (by decide) rfl (Nat.le_of_ble_eq_true rfl) N0 g_saR (g := (mkF m 130 #[rv oR, own_l (258 : Int64), .second, iv p3, iv p3, .val .null, iv 0, iv 2, rv kkR, iv 0] [(.int 0), (.int 3), (.ref saR), (.int 2), (.ref saR)])) rfl (by rw [hml]; rfl) rfl (hb hby d15_130) (by decide) (W := 0) (Nat.le_of_eq rfl) (by decide)
   have f297_E_oR := E_oR.keep Kc297
   have f297_F_firsts_oR := F_firsts_oR.keep Kc297 (ninS (Exa.neArv E_oR lt_A_saR (hU 10 _ rfl)) nin0)
   have f297_F_withItems_oR := F_withItems_oR.keep Kc297 (ninS (Exa.neArv E_oR lt_A_saR (hU 10 _ rfl)) nin0)
   have f297_E_kkR := E_kkR.keep Kc297
   have f297_F_size_kkR := lt_F_size_kkR.keep Kc297 (ninS (Exa.neArv E_kkR lt_A_saR (hU 25 _ rfl)) nin0)
   have f297_F_starts_kkR := F_starts_kkR.keep Kc297 (ninS (Exa.neArv E_kkR lt_A_saR (hU 25 _ rfl)) nin0)
   have f297_A_fiR := lt_A_fiR.keep Kc297 (ninS ne_fiR_saR nin0)
   have z297 : n0 ≤ h297.size := Nat.le_trans Z0 Kc297.1
   have K297 : Keep h0 h297 [saR, kkR, fiR] := (Keep.refl h0 [saR, kkR, fiR]).trans Kc297 (allS (Or.inl (List.mem_of_getElem? (i := 0) rfl)) all0)
   have v297 : Arv Z h297 saR kstR .int 256 [(.int xa), (.int xb), (.int 0)] (.int 0) := v297_
   have R298 := fun t k => R296 t (st297 t k)
   have R299 : own_R p e below T297 (mkF m 135 #[rv oR, own_l (258 : Int64), .second, iv p3, iv p3, .val .null, iv 0, iv 2, rv kkR, iv 0] [(.ref kkR)]) s₁ f0 := fun t k => R298 t (by
    refine XS.aload X297.here hx rfl (hb hby d15_133) rfl rfl ?_
    exact k)
   obtain ⟨T300, X300, e300, R301⟩ := own_gF R299 X297 hx hZ hown (Or.inr (hU 106 _ rfl)) Via.refl e297 f297_F_starts_kkR rfl rfl (hb hby d15_135)
   have R302 : own_R p e below T300 (mkF m 141 #[rv oR, own_l (258 : Int64), .second, iv p3, iv p3, .val .null, iv 0, iv 2, rv kkR, iv 0] [(.int p3), (.int 2), (.ref saR)]) s₁ f0 := fun t k => R301 t (by
    refine XS.iload X300.here hx rfl (hb hby d15_138) rfl ?_
    refine XS.iloadN X300.here hx rfl (hb hby d15_140) rfl ?_
    exact k)
   obtain ⟨cl303, Ar303, q303, S303, n303_, H303, G303⟩ := id v297
   have hin303 : ¬ ((2 : Int32) < 0 ∨ cl303.slots.size ≤ ((2 : Int32)).toNatClampNeg) := inb_of S303 ⟨by decide, by decide⟩
   obtain ⟨T303, h303, X303, e303, W303, st303⟩ := stI X300 hx hZ e300 Ar303 (j := (2 : Int32)) hin303 (g := (mkF m 141 #[rv oR, own_l (258 : Int64), .second, iv p3, iv p3, .val .null, iv 0, iv 2, rv kkR, iv 0] [(.int p3), (.int 2), (.ref saR)])) rfl rfl (hb hby d15_141)
   have f303_E_oR := f297_E_oR.wr W303
   have f303_F_firsts_oR := f297_F_firsts_oR.other W303 (Or.inl (Exa.neArv f297_E_oR v297 (hU 10 _ rfl)))
   have f303_F_withItems_oR := f297_F_withItems_oR.other W303 (Or.inl (Exa.neArv f297_E_oR v297 (hU 10 _ rfl)))
   have f303_E_kkR := f297_E_kkR.wr W303
   have f303_F_size_kkR := f297_F_size_kkR.other W303 (Or.inl (Exa.neArv f297_E_kkR v297 (hU 25 _ rfl)))
   have f303_F_starts_kkR := f297_F_starts_kkR.other W303 (Or.inl (Exa.neArv f297_E_kkR v297 (hU 25 _ rfl)))
   have f303_A_fiR := f297_A_fiR.other W303 ne_fiR_saR
   have z303 : n0 ≤ h303.size := by rw [W303.size]; exact z297
   have K303 : Keep h0 h303 [saR, kkR, fiR] := K297.wr W303 (Or.inl (List.mem_of_getElem? (i := 0) rfl))
   have v303 : Arv Z h303 saR kstR .int 256 [(.int xa), (.int xb), (.int p3)] (.int 0) := Arv.set Ar303 q303 S303 n303_ H303 G303 rfl W303 2 rfl (Nat.le_of_ble_eq_true rfl)
   have N303 := Fr.snoc X303 N297 g_saR
   have R304 := fun t k => R302 t (st303 t k)
   have R305 : own_R p e below T303 (mkF m 143 #[rv oR, own_l (258 : Int64), .second, iv p3, iv p3, .val .null, iv 0, iv 2, rv kkR, iv 0] [(.ref oR)]) s₁ f0 := fun t k => R304 t (by
    refine XS.aloadN X303.here hx rfl (hb hby d15_142) rfl rfl ?_
    exact k)
   obtain ⟨T306, X306, e306, R307⟩ := own_gF R305 X303 hx hZ hown (host := "") (Or.inl (hU 21 _ rfl)) Via.refl e303 f303_F_withItems_oR rfl rfl (hb hby d15_143)
   have R308 : own_R p e below T306 (mkF m 214 #[rv oR, own_l (258 : Int64), .second, iv p3, iv p3, .val .null, iv 0, iv 2, rv kkR, iv 0] [(.ref kkR), (.ref kkR)]) s₁ f0 := fun t k => R307 t (by
    refine XS.ifYes X306.here hx rfl (pc0 := 146) (pc' := 211) rfl (hb hby d15_146) rfl ((if0 _ _).trans (teq (by decide : (0 : Int32) = (0 : Int32))).1) (by decide) (by decide) ?_
    refine XS.aload X306.here hx rfl (hb hby d15_211) rfl rfl ?_
    refine XS.dup X306.here hx rfl (hb hby d15_213) rfl rfl ?_
    exact k)
   obtain ⟨T309, X309, e309, R310⟩ := own_gF R308 X306 hx hZ hown (Or.inr (hU 63 _ rfl)) Via.refl e306 f303_F_size_kkR rfl rfl (hb hby d15_214)
   have R311 : own_R p e below T309 (mkF m 219 #[rv oR, own_l (258 : Int64), .second, iv p3, iv p3, .val .null, iv 0, iv 2, rv kkR, iv 0] [(.int 3), (.ref kkR)]) s₁ f0 := fun t k => R310 t (by
    refine XS.iconst X309.here hx rfl (hb hby d15_217) ?_
    refine XS.iadd X309.here hx rfl (hb hby d15_218) rfl ?_
    exact k)
   obtain ⟨T312, h312, X312, e312, W312, st312⟩ := putF X309 hx hZ hown (Or.inr (hU 63 _ rfl)) Via.refl e309 f303_F_size_kkR f303_E_kkR (Or.inl (hU 64 _ rfl)) (hU 25 _ rfl) (ty := .int) (by decide) rfl rfl (g := (mkF m 219 #[rv oR, own_l (258 : Int64), .second, iv p3, iv p3, .val .null, iv 0, iv 2, rv kkR, iv 0] [(.int 3), (.ref kkR)])) rfl rfl (hb hby d15_219)
   have fw312 : Fld Z h312 kkR sN0 "size" "I" (.int 3) := f303_F_size_kkR.same W312
   have f312_E_oR := f303_E_oR.wr W312
   have f312_F_firsts_oR := f303_F_firsts_oR.other W312 (Or.inl (Exa.ne f303_E_oR f303_E_kkR (by decide)))
   have f312_E_kkR := f303_E_kkR.wr W312
   have f312_F_starts_kkR := f303_F_starts_kkR.other W312 (Or.inr (slot_ne (Or.inr (hU 32 _ rfl)) (Or.inl (hU 64 _ rfl)) (by decide) (t := (.array .int)) (t' := .int) (by decide) (by decide)))
   have f312_A_fiR := f303_A_fiR.other W312 (Ne.symm (Exa.neArv f303_E_kkR f303_A_fiR (hU 25 _ rfl)))
   have f312_A_saR := v303.other W312 (Ne.symm (Exa.neArv f303_E_kkR v303 (hU 25 _ rfl)))
   have z312 : n0 ≤ h312.size := by rw [W312.size]; exact z303
   have K312 : Keep h0 h312 [saR, kkR, fiR] := K303.wr W312 (Or.inl (List.mem_of_getElem? (i := 1) rfl))
   have N312 := Fr.snoc X312 N303 g_kkR
   have R313 := fun t k => R311 t (st312 t k)
   have R314 : own_R p e below T312 (mkF m 223 #[rv oR, own_l (258 : Int64), .second, iv p3, iv p3, .val .null, iv 0, iv 2, rv kkR, iv 0] [(.ref oR)]) s₁ f0 := fun t k => R313 t (by
    refine XS.aloadN X312.here hx rfl (hb hby d15_222) rfl rfl ?_
    exact k)
   obtain ⟨T315, X315, e315, R316⟩ := own_gF R314 X312 hx hZ hown (host := "") (Or.inl (hU 17 _ rfl)) Via.refl e312 f312_F_firsts_oR rfl rfl (hb hby d15_223)
   have R317 : own_R p e below T315 (mkF m 230 #[rv oR, own_l (258 : Int64), .second, iv p3, iv p3, .val .null, iv 0, iv 2, rv kkR, iv 0] [(.ref kkR), (.int 0), (.ref fiR)]) s₁ f0 := fun t k => R316 t (by
    refine XS.iload X315.here hx rfl (hb hby d15_226) rfl ?_
    refine XS.aload X315.here hx rfl (hb hby d15_228) rfl rfl ?_
    exact k)
   obtain ⟨T318, X318, e318, R319⟩ := own_gF R317 X315 hx hZ hown (Or.inr (hU 106 _ rfl)) Via.refl e315 f312_F_starts_kkR rfl rfl (hb hby d15_230)
   have R320 : own_R p e below T318 (mkF m 234 #[rv oR, own_l (258 : Int64), .second, iv p3, iv p3, .val .null, iv 0, iv 2, rv kkR, iv 0] [(.int 0), (.ref saR), (.int 0), (.ref fiR)]) s₁ f0 := fun t k => R319 t (by
    refine XS.iconst X318.here hx rfl (hb hby d15_233) ?_
    exact k)
   obtain ⟨cl321, Ar321, q321, S321, n321_, H321, G321⟩ := id f312_A_saR
   have hin321 : ¬ ((0 : Int32) < 0 ∨ cl321.slots.size ≤ ((0 : Int32)).toNatClampNeg) := inb_of S321 ⟨by decide, by decide⟩
   have hat321 : cl321.slots[((0 : Int32)).toNatClampNeg]? = some (.int xa) := Has.at H321 hin321 rfl
   have R322 : own_R p e below T318 (mkF m 235 #[rv oR, own_l (258 : Int64), .second, iv p3, iv p3, .val .null, iv 0, iv 2, rv kkR, iv 0] [(.int xa), (.int 0), (.ref fiR)]) s₁ f0 := fun t k => R320 t (X318.iaload hx (j := (0 : Int32)) (v := (.int xa)) (by rw [e318]; exact Ar321.1) (State.isArrayOf_alike hZ.alike Ar321.2.1) Ar321.2.2 hin321 hat321 (g := (mkF m 234 #[rv oR, own_l (258 : Int64), .second, iv p3, iv p3, .val .null, iv 0, iv 2, rv kkR, iv 0] [(.int 0), (.ref saR), (.int 0), (.ref fiR)])) rfl rfl (hb hby d15_234) _ k)
   obtain ⟨cl323, Ar323, q323, S323, n323_, H323, G323⟩ := id f312_A_fiR
   have hin323 : ¬ ((0 : Int32) < 0 ∨ cl323.slots.size ≤ ((0 : Int32)).toNatClampNeg) := inb_of S323 ⟨by decide, by decide⟩
   obtain ⟨T323, h323, X323, e323, W323, st323⟩ := stI X318 hx hZ e318 Ar323 (j := (0 : Int32)) hin323 (g := (mkF m 235 #[rv oR, own_l (258 : Int64), .second, iv p3, iv p3, .val .null, iv 0, iv 2, rv kkR, iv 0] [(.int xa), (.int 0), (.ref fiR)])) rfl rfl (hb hby d15_235)
   have f323_E_oR := f312_E_oR.wr W323
   have f323_F_firsts_oR := f312_F_firsts_oR.other W323 (Or.inl (Exa.neArv f312_E_oR f312_A_fiR (hU 10 _ rfl)))
   have f323_E_kkR := f312_E_kkR.wr W323
   have f323_F_size_kkR := fw312.other W323 (Or.inl (Exa.neArv f312_E_kkR f312_A_fiR (hU 25 _ rfl)))
   have f323_F_starts_kkR := f312_F_starts_kkR.other W323 (Or.inl (Exa.neArv f312_E_kkR f312_A_fiR (hU 25 _ rfl)))
   have f323_A_saR := f312_A_saR.other W323 (Ne.symm ne_fiR_saR)
   have z323 : n0 ≤ h323.size := by rw [W323.size]; exact z312
   have K323 : Keep h0 h323 [saR, kkR, fiR] := K312.wr W323 (Or.inl (List.mem_of_getElem? (i := 2) rfl))
   have v323 : Arv Z h323 fiR kfiR .int 1 [(.int xa)] (.int 0) := Arv.set Ar323 q323 S323 n323_ H323 G323 rfl W323 0 rfl (Nat.le_of_ble_eq_true rfl)
   have N323 := Fr.snoc X323 N312 g_fiR
   have R324 := fun t k => R322 t (st323 t k)
   have ei : own_ins p3 [xa, xb] = [xa, xb, p3] := own_in2_2 ho1
   obtain ⟨fs, hr, hrun, hended, hW, hsame⟩ := X323.leave (v := none) (fun _ => rfl)
   refine ⟨_, _, pre0 _ (R324 _ ?_), hrun, hended, _, _, rfl, ?_, ⟨_, rfl⟩, hW, hsame.mono (by decide) (by decide)⟩
   ·
    show own_S p e below T323 (mkF m 236 #[rv oR, own_l (258 : Int64), .second, iv p3, iv p3, .val .null, iv 0, iv 2, rv kkR, iv 0] []) _
    exact X323.returnOut hx Bd.returns (hb hby d15_236) hr
   ·
    show Q_rmOi0 Z oR p3 ckR kckR kkR fiR kfiR saR kstR [xa, xb] h0 n0 _ T323.heap _
    rw [e323]
    exact ⟨rfl, N323, K323, (by rw [ei]; exact f323_F_size_kkR), f323_F_starts_kkR, (by rw [ei]; exact v323), (by rw [ei]; exact f323_A_saR)⟩
theorem ef_rmFi1 (m : MethodId) (x0 : Addr) (x1 : Int64) (x2 : Int32) (x3 : Int32) (x4 : Addr) : entryFrame m #[(.ref x0), (.long x1), (.int x2), (.int x3), (.ref x4)] 6 = mkF m 0 #[rv x0, own_l x1, .second, iv x2, iv x3, rv x4] [] := by first | (simp [entryFrame, mkF, argsToLocals, Value.category]; done) | rfl
def Q_rmFi1 (Z : State) (a1 : Addr) (p2 : Int32) (iv_ : Addr) (oR : Addr) (ckR : Addr) (kckR : ClassId) (kkR : Addr) (fiR : Addr) (kfiR : ClassId) (saR : Addr) (kstR : ClassId) (enR : Addr) (kenR : ClassId) (itR : Addr) (kitR : ClassId) (oU : Addr) (ckU : Addr) (kckU : ClassId) (kkU : Addr) (fiU : Addr) (kfiU : ClassId) (saU : Addr) (kstU : ClassId) (rs : List Int32) (us : List Int32) (h0 : Heap) (n0 : Nat) (v : Option Value) (h : Heap) (L : List Loc) : Prop := v = none ∧ Fr n0 L ∧ Keep h0 h [saR, enR, itR, kkR, fiR] ∧ (Fld Z h kkR sN0 "size" "I" (.int (own_n (own_ins p2 rs)))) ∧ (Fld Z h kkR sN0 "starts" "[I" (.ref saR)) ∧ (Arv Z h fiR kfiR .int 1 [(.int (own_h (own_ins p2 rs)))] (.int 0)) ∧ (Arv Z h saR kstR .int 256 (own_v (own_ins p2 rs)) (.int 0)) ∧ (Fld Z h kkR sN0 "ends" "[I" (.ref enR)) ∧ (Fld Z h kkR sN0 "items" "[Ljava/lang/Object;" (.ref itR)) ∧ (Arv Z h enR kenR .int 256 (own_e (own_ins p2 rs)) (.int 0)) ∧ (Arv Z h itR kitR (.object "java/lang/Object") (256 : Int32) (own_i iv_ (own_ins p2 rs)) .null)
set_option maxRecDepth 65536 in
set_option maxHeartbeats 40000000 in
theorem rmFi1 (l : Launch) (Z : State) (a0 : Array Value) (hw : ∀ d ∈ tables_1, d.before a0 Z = true) (ws : List Jvm.Cond) (a1 : Addr) (p2 : Int32) (iv_ : Addr) (oR : Addr) (ckR : Addr) (kckR : ClassId) (kkR : Addr) (fiR : Addr) (kfiR : ClassId) (saR : Addr) (kstR : ClassId) (enR : Addr) (kenR : ClassId) (itR : Addr) (kitR : ClassId) (oU : Addr) (ckU : Addr) (kckU : ClassId) (kkU : Addr) (fiU : Addr) (kfiU : ClassId) (saU : Addr) (kstU : ClassId) (rs : List Int32) (us : List Int32) (h0 : Heap) (n0 : Nat) (Z0 : n0 ≤ h0.size) (F_read_a1 : Fld Z h0 a1 sN3 "read" sN4 (.ref oR)) (F_unread_a1 : Fld Z h0 a1 sN3 "unread" sN4 (.ref oU)) (E_a1 : Exa Z h0 a1 sN3) (E_oR : Exa Z h0 oR sN1) (F_chunks_oR : Fld Z h0 oR sN1 "chunks" sN2 (.ref ckR)) (F_chunkCount_oR : Fld Z h0 oR sN1 "chunkCount" "I" (.int 1)) (F_firsts_oR : Fld Z h0 oR sN1 "firsts" "[I" (.ref fiR)) (F_withItems_oR : Fld Z h0 oR sN1 "withItems" "Z" (.int 1)) (A_ckR : Arv Z h0 ckR kckR (.object sN0) (1 : Int32) [(.ref kkR)] .null) (E_kkR : Exa Z h0 kkR sN0) (F_size_kkR : Fld Z h0 kkR sN0 "size" "I" (.int (own_n rs))) (F_starts_kkR : Fld Z h0 kkR sN0 "starts" "[I" (.ref saR)) (A_fiR : Arv Z h0 fiR kfiR .int 1 [(.int (own_h rs))] (.int 0)) (A_saR : Arv Z h0 saR kstR .int 256 (own_v rs) (.int 0)) (F_ends_kkR : Fld Z h0 kkR sN0 "ends" "[I" (.ref enR)) (F_items_kkR : Fld Z h0 kkR sN0 "items" "[Ljava/lang/Object;" (.ref itR)) (A_enR : Arv Z h0 enR kenR .int 256 (own_e rs) (.int 0)) (A_itR : Arv Z h0 itR kitR (.object "java/lang/Object") (256 : Int32) (own_i iv_ rs) .null) (E_iv_ : Exa Z h0 iv_ "java/lang/Integer") (g_saR : n0 ≤ saR) (g_enR : n0 ≤ enR) (g_itR : n0 ≤ itR) (g_kkR : n0 ≤ kkR) (g_fiR : n0 ≤ fiR) (ne_fiR_ckR : fiR ≠ ckR) (ne_fiR_saR : fiR ≠ saR) (ne_fiR_enR : fiR ≠ enR) (ne_fiR_itR : fiR ≠ itR) (ne_ckR_saR : ckR ≠ saR) (ne_ckR_enR : ckR ≠ enR) (ne_ckR_itR : ckR ≠ itR) (ne_saR_enR : saR ≠ enR) (ne_saR_itR : saR ≠ itR) (ne_enR_itR : enR ≠ itR) (ovr_itR : Ovr Z kitR "java/lang/Object") (E_oU : Exa Z h0 oU sN1) (F_chunks_oU : Fld Z h0 oU sN1 "chunks" sN2 (.ref ckU)) (F_chunkCount_oU : Fld Z h0 oU sN1 "chunkCount" "I" (.int 1)) (F_firsts_oU : Fld Z h0 oU sN1 "firsts" "[I" (.ref fiU)) (A_ckU : Arv Z h0 ckU kckU (.object sN0) (1 : Int32) [(.ref kkU)] .null) (F_size_kkU : Fld Z h0 kkU sN0 "size" "I" (.int (own_n us))) (F_starts_kkU : Fld Z h0 kkU sN0 "starts" "[I" (.ref saU)) (A_fiU : Arv Z h0 fiU kfiU .int 1 [(.int (own_h us))] (.int 0)) (A_saU : Arv Z h0 saU kstU .int 256 (own_v us) (.int 0)) (hlR : rs.length ≤ 2) (hsR : own_so rs) (hlU : us.length ≤ 2) (hsU : own_so us) (hqR : p2 ∉ rs) (hqU : p2 ∉ us) (hnl : rs.length ≤ 1 ∨ ¬ own_ap rs p2) :
  own_M l yN7 (Jvm.Cond.code yN7 prog_116_method_10_code 6 none :: ws) ({ frames := 3, cells := 0, slots := 0, locals := 51 } : Room) #[(.ref a1), (.long (own_p rs p2)), (.int p2), (.int (p2 + (1 : Int32))), (.ref iv_)] Z h0 (Q_rmFi1 Z a1 p2 iv_ oR ckR kckR kkR fiR kfiR saR kstR enR kenR itR kitR oU ckU kckU kkU fiU kfiU saU kstU rs us h0 n0) := by
 refine MetFree.of_bodySF (plainFor_of_name pn_7) hisR ?_
 intro p e s m args below meth c s₁ Bd hml0 hP hK
 obtain ⟨rfl, hZ, hh⟩ := hP
 have hx := Bd.exec
 have hby := Bd.bytes
 have hml : c.maxLocals = 6 := hml0
 have hown : s.vm.findClass sN3 = some m.cls := findClass_of_methodNamed Bd.named
 have hnm := (name_of_methodNamed Bd.named Bd.method).1
 have X0 : Stand p l e ({ frames := 3, cells := 0, slots := 0, locals := 51 } : Room) s m #[(.ref a1), (.long (own_p rs p2)), (.int p2), (.int (p2 + (1 : Int32))), (.ref iv_)] below meth c s₁ [] 0 0 := Stand.of_body Bd
 have hU : ∀ (i : Nat) (d : Jvm.Cond), tables_1[i]? = some d → d.before a0 Z = true := fun i d h => hw d (List.mem_of_getElem? h)
 have e0 : s₁.heap = h0 := by rw [← hh, Bd.state]; rfl
 have N0 := Fr.nil n0
 obtain ⟨f0, hf0⟩ : ∃ f : JFrame, f = mkF m 0 (fA6 a1 iv_ p2 rs) [] := ⟨_, rfl⟩
 have pre0 : ∀ t, own_S p e below s₁ f0 t → Steps p.tables e below (s₁.setTop (entryFrame m #[(.ref a1), (.long (own_p rs p2)), (.int p2), (.int (p2 + (1 : Int32))), (.ref iv_)] 6)) t := fun t k => castTop ((ef_rmFi1 m a1 (own_p rs p2) p2 (p2 + (1 : Int32)) iv_).trans hf0.symm) k
 have R0 : own_R p e below s₁ (mkF m 0 (fA6 a1 iv_ p2 rs) []) s₁ f0 := by rw [hf0]; exact fun t k => k
 have R1 : own_R p e below s₁ (mkF m 1 (fA6 a1 iv_ p2 rs) [(.ref a1)]) s₁ f0 := fun t k => R0 t (by
  refine XS.aloadN X0.here hx rfl (hb hby d13_0) rfl rfl ?_
  exact k)
 obtain ⟨T2, X2, e2, R3⟩ := own_gF R1 X0 hx hZ hown (host := "") (Or.inl (hU 42 _ rfl)) Via.refl e0 F_read_a1 rfl rfl (hb hby d13_1)
 have R4 : own_R p e below T2 (mkF m 6 (fA6 a1 iv_ p2 rs) [(.int p2), (.long (own_p rs p2)), (.ref oR)]) s₁ f0 := fun t k => R3 t (by
  refine XS.lloadN X2.here hx rfl (hb hby d13_4) rfl ?_
  refine XS.iloadN X2.here hx rfl (hb hby d13_5) rfl ?_
  exact k)
 obtain ⟨cq5, kq5, q5a, q5b, q5c⟩ := isOf hZ e2 E_oR
 obtain ⟨_, _, ⟨T5, L5, k5, n5⟩, -, X5, ⟨Lc5, hQ5, l5, y5, z5⟩, st5⟩ := X2.virtualBack hx (y := yN10) (z := yN10) hown (mvT hZ (hU 96 _ rfl)) (mvT hZ (hU 97 _ rfl)) (notFace_of_selects (args := #[]) (mvT hZ (hU 99 _ rfl))) (mvT hZ (hU 99 _ rfl)) (mvT hZ (hU 98 _ rfl)) (by decide) (backOf (W := 0) (rmHolds l Z a0 hw [] oR p2 ckR kckR kkR saR kstR rs h0 n0 Z0 F_chunks_oR F_chunkCount_oR A_ckR F_size_kkR F_starts_kkR A_saR hlR hsR hqR) hZ (hU 100 _ rfl) (hU 11 _ rfl) (by decide) (by decide)) q5a q5c (g := (mkF m 6 (fA6 a1 iv_ p2 rs) [(.int p2), (.long (own_p rs p2)), (.ref oR)])) rfl (by rw [hml]; rfl) (Steps.refl _) (argsL := [(.long (own_p rs p2)), (.int p2)]) (rest := []) (lenOf pd_10 rfl) rfl (Nat.le_of_eq rfl) (hb hby d13_6) (fun _ _ => ⟨rfl, e2, (by decide : 0 + 0 ≤ _), (by decide : 0 + 0 ≤ _)⟩)
 dsimp only [Pt.U, Pt.locs, Pt.cells, Pt.slots] at X5 l5 y5 z5 st5 hQ5
 subst l5 y5 z5
 obtain ⟨rfl, N5q, p5_0⟩ := hQ5
 have N5 := Fr.app N0 N5q
 have R6 := fun t k => R4 t (st5.trans k)
 have R7 : own_R p e below T5 (mkF m 29 (fA6 a1 iv_ p2 rs) []) s₁ f0 := fun t k => R6 t (by
  refine XS.ifYes X5.here hx rfl (pc0 := 9) (pc' := 21) rfl (hb hby d13_9) rfl ((if0 _ _).trans (feq (by decide : ¬ ((1 : Int32) = (0 : Int32)))).2) (by decide) (by decide) ?_
  refine XS.lloadN X5.here hx rfl (hb hby d13_21) rfl ?_
  refine XS.l2i X5.here hx rfl (hb hby d13_22) rfl ?_
  refine XS.sipush X5.here hx rfl (hb hby d13_23) ?_
  refine XS.icmpNo X5.here hx rfl (hb hby d13_26) rfl (flt (own_p256 rs p2)).1 ?_
  exact k)
 obtain ⟨T21, L21, X21, N21, e21, R21⟩ : ∃ (T' : State) (L' : List Loc), Stand p l e ({ frames := 3, cells := 0, slots := 0, locals := 51 } : Room) s m #[(.ref a1), (.long (own_p rs p2)), (.int p2), (.int (p2 + (1 : Int32))), (.ref iv_)] below meth c T' L' 0 0 ∧ Fr n0 L' ∧ T'.heap = h0 ∧ own_R p e below T' (mkF m 68 (fA6 a1 iv_ p2 rs) []) s₁ f0 := by
  have R8 : own_R p e below T5 (mkF m 30 (fA6 a1 iv_ p2 rs) [(.ref a1)]) s₁ f0 := fun t k => R7 t (by
   refine XS.aloadN X5.here hx rfl (hb hby d13_29) rfl rfl ?_
   exact k)
  obtain ⟨T9, X9, e9, R10⟩ := own_gF R8 X5 hx hZ hown (host := "") (Or.inl (hU 44 _ rfl)) Via.refl p5_0 F_unread_a1 rfl rfl (hb hby d13_30)
  obtain ⟨cq11, kq11, q11a, q11b, q11c⟩ := isOf hZ e9 E_oU
  obtain ⟨_, _, ⟨T11, L11, k11, n11⟩, -, X11, ⟨Lc11, hQ11, l11, y11, z11⟩, st11⟩ := X9.virtualBack hx (y := yN4) (z := yN4) hown (mvT hZ (hU 65 _ rfl)) (mvT hZ (hU 66 _ rfl)) (notFace_of_selects (args := #[]) (mvT hZ (hU 68 _ rfl))) (mvT hZ (hU 68 _ rfl)) (mvT hZ (hU 67 _ rfl)) (by decide) (backOf (W := 0) (rmEmp l Z a0 hw [] oU ckU kckU kkU us h0 n0 Z0 F_chunks_oU A_ckU F_size_kkU) hZ (hU 69 _ rfl) (hU 11 _ rfl) (by decide) (by decide)) q11a q11c (g := (mkF m 33 (fA6 a1 iv_ p2 rs) [(.ref oU)])) rfl (by rw [hml]; rfl) (Steps.refl _) (argsL := []) (rest := []) (lenOf pd_9 rfl) rfl (Nat.le_of_eq rfl) (hb hby d13_33) (fun _ _ => ⟨rfl, e9, (by decide : 0 + 0 ≤ _), (by decide : 0 + 0 ≤ _)⟩)
  dsimp only [Pt.U, Pt.locs, Pt.cells, Pt.slots] at X11 l11 y11 z11 st11 hQ11
  subst l11 y11 z11
  obtain ⟨rfl, N11q, p11_0⟩ := hQ11
  have N11 := Fr.app N5 N11q
  have R12 := fun t k => R10 t (st11.trans k)
  by_cases hg1 : (own_ie us) = (0 : Int32)
  ·
   have R13 : own_R p e below T11 (mkF m 40 (fA6 a1 iv_ p2 rs) [(.ref a1)]) s₁ f0 := fun t k => R12 t (by
    refine XS.ifNo X11.here hx rfl (hb hby d13_36) rfl ((if0 _ _).trans (teq hg1).2) ?_
    refine XS.aloadN X11.here hx rfl (hb hby d13_39) rfl rfl ?_
    exact k)
   obtain ⟨T14, X14, e14, R15⟩ := own_gF R13 X11 hx hZ hown (host := "") (Or.inl (hU 44 _ rfl)) Via.refl p11_0 F_unread_a1 rfl rfl (hb hby d13_40)
   have R16 : own_R p e below T14 (mkF m 44 (fA6 a1 iv_ p2 rs) [(.int p2), (.ref oU)]) s₁ f0 := fun t k => R15 t (by
    refine XS.iloadN X14.here hx rfl (hb hby d13_43) rfl ?_
    exact k)
   obtain ⟨cq17, kq17, q17a, q17b, q17c⟩ := isOf hZ e14 E_oU
   obtain ⟨_, _, ⟨T17, L17, k17, n17⟩, -, X17, ⟨Lc17, hQ17, l17, y17, z17⟩, st17⟩ := X14.virtualBack hx (y := yN3) (z := yN3) hown (mvT hZ (hU 58 _ rfl)) (mvT hZ (hU 59 _ rfl)) (notFace_of_selects (args := #[]) (mvT hZ (hU 61 _ rfl))) (mvT hZ (hU 61 _ rfl)) (mvT hZ (hU 60 _ rfl)) (by decide) (backOf (W := 0) (rmFind l Z a0 hw [] oU p2 ckU kckU kkU fiU kfiU saU kstU us h0 n0 Z0 E_oU F_chunks_oU F_chunkCount_oU F_firsts_oU A_ckU F_size_kkU F_starts_kkU A_fiU A_saU (Nat.le_succ_of_le hlU) hsU) hZ (hU 62 _ rfl) (hU 11 _ rfl) (by decide) (by decide)) q17a q17c (g := (mkF m 44 (fA6 a1 iv_ p2 rs) [(.int p2), (.ref oU)])) rfl (by rw [hml]; rfl) (Steps.refl _) (argsL := [(.int p2)]) (rest := []) (lenOf pd_8 rfl) rfl (Nat.le_of_eq rfl) (hb hby d13_44) (fun _ _ => ⟨rfl, e14, (by decide : 0 + 0 ≤ _), (by decide : 0 + 0 ≤ _)⟩)
   dsimp only [Pt.U, Pt.locs, Pt.cells, Pt.slots] at X17 l17 y17 z17 st17 hQ17
   subst l17 y17 z17
   obtain ⟨pr_17, rfl, N17q, p17_0, p17_1⟩ := hQ17
   have N17 := Fr.app N11 N17q
   have R18 := fun t k => R16 t (st17.trans k)
   have R19 : own_R p e below T17 (mkF m 68 (fA6 a1 iv_ p2 rs) []) s₁ f0 := fun t k => R18 t (by
    refine XS.l2i X17.here hx rfl (hb hby d13_47) rfl ?_
    refine XS.sipush X17.here hx rfl (hb hby d13_48) ?_
    refine XS.icmpYes X17.here hx rfl (pc0 := 51) (pc' := 68) rfl (hb hby d13_51) rfl (flt (own_plN p17_1 hqU)).2.1 (by decide) (by decide) ?_
    exact k)
   exact ⟨T17, _, X17, N17, p17_0, R19⟩
  ·
   have R20 : own_R p e below T11 (mkF m 68 (fA6 a1 iv_ p2 rs) []) s₁ f0 := fun t k => R12 t (by
    refine XS.ifYes X11.here hx rfl (pc0 := 36) (pc' := 68) rfl (hb hby d13_36) rfl ((if0 _ _).trans (feq hg1).2) (by decide) (by decide) ?_
    exact k)
   exact ⟨T11, _, X11, N11, p11_0, R20⟩
 have R22 : own_R p e below T21 (mkF m 95 (fA6 a1 iv_ p2 rs) [(.ref a1)]) s₁ f0 := fun t k => R21 t (by
  refine XS.aload X21.here hx rfl (hb hby d13_68) rfl rfl ?_
  refine XS.ifnonnullYes X21.here hx rfl (pc0 := 70) (pc' := 94) rfl (hb hby d13_70) rfl (by decide) (by decide) ?_
  refine XS.aloadN X21.here hx rfl (hb hby d13_94) rfl rfl ?_
  exact k)
 obtain ⟨T23, X23, e23, R24⟩ := own_gF R22 X21 hx hZ hown (host := "") (Or.inl (hU 42 _ rfl)) Via.refl e21 F_read_a1 rfl rfl (hb hby d13_95)
 have R25 : own_R p e below T23 (mkF m 104 (fA6 a1 iv_ p2 rs) [(.ref iv_), (.int (p2 + (1 : Int32))), (.int p2), (.long (own_p rs p2)), (.ref oR)]) s₁ f0 := fun t k => R24 t (by
  refine XS.lloadN X23.here hx rfl (hb hby d13_98) rfl ?_
  refine XS.iloadN X23.here hx rfl (hb hby d13_99) rfl ?_
  refine XS.iload X23.here hx rfl (hb hby d13_100) rfl ?_
  refine XS.aload X23.here hx rfl (hb hby d13_102) rfl rfl ?_
  exact k)
 obtain ⟨cq26, kq26, q26a, q26b, q26c⟩ := isOf hZ e23 E_oR
 obtain ⟨_, _, ⟨T26, L26, k26, n26⟩, -, X26, ⟨Lc26, hQ26, l26, y26, z26⟩, st26⟩ := X23.virtualBack hx (y := yN6) (z := yN6) hown (mvT hZ (hU 101 _ rfl)) (mvT hZ (hU 102 _ rfl)) (notFace_of_selects (args := #[]) (mvT hZ (hU 104 _ rfl))) (mvT hZ (hU 104 _ rfl)) (mvT hZ (hU 103 _ rfl)) (by decide) (backOf (W := 0) (rmOi1 l Z a0 hw [] oR p2 iv_ ckR kckR kkR fiR kfiR saR kstR enR kenR itR kitR rs h0 n0 Z0 E_oR F_chunks_oR F_chunkCount_oR F_firsts_oR F_withItems_oR A_ckR E_kkR F_size_kkR F_starts_kkR A_fiR A_saR F_ends_kkR F_items_kkR A_enR A_itR E_iv_ g_saR g_enR g_itR g_kkR g_fiR ne_fiR_ckR ne_fiR_saR ne_fiR_enR ne_fiR_itR ne_ckR_saR ne_ckR_enR ne_ckR_itR ne_saR_enR ne_saR_itR ne_enR_itR ovr_itR hlR hsR hqR hnl) hZ (hU 105 _ rfl) (hU 11 _ rfl) (by decide) (by decide)) q26a q26c (g := (mkF m 104 (fA6 a1 iv_ p2 rs) [(.ref iv_), (.int (p2 + (1 : Int32))), (.int p2), (.long (own_p rs p2)), (.ref oR)])) rfl (by rw [hml]; rfl) (Steps.refl _) (argsL := [(.long (own_p rs p2)), (.int p2), (.int (p2 + (1 : Int32))), (.ref iv_)]) (rest := []) (lenOf pd_11 rfl) rfl (Nat.le_of_eq rfl) (hb hby d13_104) (fun _ _ => ⟨rfl, e23, (by decide : 0 + 0 ≤ _), (by decide : 0 + 0 ≤ _)⟩)
 dsimp only [Pt.U, Pt.locs, Pt.cells, Pt.slots] at X26 l26 y26 z26 st26 hQ26
 subst l26 y26 z26
 obtain ⟨rfl, N26q, p26_0, p26_1, p26_2, p26_3, p26_4, p26_5, p26_6, p26_7, p26_8⟩ := hQ26
 have N26 := Fr.app N21 N26q
 have f26_E_oR := E_oR.keep p26_0
 have f26_F_chunks_oR := F_chunks_oR.keep p26_0 (ninS (Exa.neArv E_oR A_saR (hU 10 _ rfl)) (ninS (Exa.neArv E_oR A_enR (hU 10 _ rfl)) (ninS (Exa.neArv E_oR A_itR (hU 10 _ rfl)) (ninS (Exa.ne E_oR E_kkR (by decide)) (ninS (Exa.neArv E_oR A_fiR (hU 10 _ rfl)) nin0)))))
 have f26_F_chunkCount_oR := F_chunkCount_oR.keep p26_0 (ninS (Exa.neArv E_oR A_saR (hU 10 _ rfl)) (ninS (Exa.neArv E_oR A_enR (hU 10 _ rfl)) (ninS (Exa.neArv E_oR A_itR (hU 10 _ rfl)) (ninS (Exa.ne E_oR E_kkR (by decide)) (ninS (Exa.neArv E_oR A_fiR (hU 10 _ rfl)) nin0)))))
 have f26_F_firsts_oR := F_firsts_oR.keep p26_0 (ninS (Exa.neArv E_oR A_saR (hU 10 _ rfl)) (ninS (Exa.neArv E_oR A_enR (hU 10 _ rfl)) (ninS (Exa.neArv E_oR A_itR (hU 10 _ rfl)) (ninS (Exa.ne E_oR E_kkR (by decide)) (ninS (Exa.neArv E_oR A_fiR (hU 10 _ rfl)) nin0)))))
 have f26_F_withItems_oR := F_withItems_oR.keep p26_0 (ninS (Exa.neArv E_oR A_saR (hU 10 _ rfl)) (ninS (Exa.neArv E_oR A_enR (hU 10 _ rfl)) (ninS (Exa.neArv E_oR A_itR (hU 10 _ rfl)) (ninS (Exa.ne E_oR E_kkR (by decide)) (ninS (Exa.neArv E_oR A_fiR (hU 10 _ rfl)) nin0)))))
 have f26_A_ckR := A_ckR.keep p26_0 (ninS ne_ckR_saR (ninS ne_ckR_enR (ninS ne_ckR_itR (ninS (Ne.symm (Exa.neArv E_kkR A_ckR (hU 25 _ rfl))) (ninS (Ne.symm ne_fiR_ckR) nin0)))))
 have f26_E_kkR := E_kkR.keep p26_0
 have f26_E_iv_ := E_iv_.keep p26_0
 have z26 : n0 ≤ T26.heap.size := Nat.le_trans Z0 p26_0.1
 have K26 : Keep h0 T26.heap [saR, enR, itR, kkR, fiR] := (Keep.refl h0 [saR, enR, itR, kkR, fiR]).trans p26_0 (allS (Or.inl (List.mem_of_getElem? (i := 0) rfl)) (allS (Or.inl (List.mem_of_getElem? (i := 1) rfl)) (allS (Or.inl (List.mem_of_getElem? (i := 2) rfl)) (allS (Or.inl (List.mem_of_getElem? (i := 3) rfl)) (allS (Or.inl (List.mem_of_getElem? (i := 4) rfl)) all0)))))
 have R27 := fun t k => R25 t (st26.trans k)
 obtain ⟨fs, hr, hrun, hended, hW, hsame⟩ := X26.leave (v := none) (fun _ => rfl)
 refine ⟨_, _, pre0 _ (R27 _ ?_), hrun, hended, _, _, rfl, ?_, ⟨_, rfl⟩, hW, hsame.mono (by decide) (by decide)⟩
 ·
  show own_S p e below T26 (mkF m 107 (fA6 a1 iv_ p2 rs) []) _
  exact X26.returnOut hx Bd.returns (hb hby d13_107) hr
 ·
  show Q_rmFi1 Z a1 p2 iv_ oR ckR kckR kkR fiR kfiR saR kstR enR kenR itR kitR oU ckU kckU kkU fiU kfiU saU kstU rs us h0 n0 _ T26.heap _
  exact ⟨rfl, N26, K26, p26_1, p26_2, p26_3, p26_4, p26_5, p26_6, p26_7, p26_8⟩
theorem ef_rmFa1 (m : MethodId) (x0 : Addr) (x1 : Int64) (x2 : Int32) (x3 : Int32) (x4 : Addr) : entryFrame m #[(.ref x0), (.long x1), (.int x2), (.int x3), (.ref x4)] 6 = mkF m 0 #[rv x0, own_l x1, .second, iv x2, iv x3, rv x4] [] := by first | (simp [entryFrame, mkF, argsToLocals, Value.category]; done) | rfl
def Q_rmFa1 (Z : State) (a1 : Addr) (p2 : Int32) (iv_ : Addr) (oR : Addr) (ckR : Addr) (kckR : ClassId) (kkR : Addr) (fiR : Addr) (kfiR : ClassId) (saR : Addr) (kstR : ClassId) (enR : Addr) (kenR : ClassId) (itR : Addr) (kitR : ClassId) (oU : Addr) (ckU : Addr) (kckU : ClassId) (kkU : Addr) (fiU : Addr) (kfiU : ClassId) (saU : Addr) (kstU : ClassId) (rs : List Int32) (us : List Int32) (h0 : Heap) (n0 : Nat) (v : Option Value) (h : Heap) (L : List Loc) : Prop := v = none ∧ Fr n0 L ∧ Keep h0 h [saR, enR, itR, kkR, fiR] ∧ (Fld Z h kkR sN0 "size" "I" (.int (own_n (own_ins p2 rs)))) ∧ (Fld Z h kkR sN0 "starts" "[I" (.ref saR)) ∧ (Arv Z h fiR kfiR .int 1 [(.int (own_h (own_ins p2 rs)))] (.int 0)) ∧ (Arv Z h saR kstR .int 256 (own_v (own_ins p2 rs)) (.int 0)) ∧ (Fld Z h kkR sN0 "ends" "[I" (.ref enR)) ∧ (Fld Z h kkR sN0 "items" "[Ljava/lang/Object;" (.ref itR)) ∧ (Arv Z h enR kenR .int 256 (own_e (own_ins p2 rs)) (.int 0)) ∧ (Arv Z h itR kitR (.object "java/lang/Object") (256 : Int32) (own_i iv_ (own_ins p2 rs)) .null)
set_option maxRecDepth 65536 in
set_option maxHeartbeats 40000000 in
theorem rmFa1 (l : Launch) (Z : State) (a0 : Array Value) (hw : ∀ d ∈ tables_1, d.before a0 Z = true) (ws : List Jvm.Cond) (a1 : Addr) (p2 : Int32) (iv_ : Addr) (oR : Addr) (ckR : Addr) (kckR : ClassId) (kkR : Addr) (fiR : Addr) (kfiR : ClassId) (saR : Addr) (kstR : ClassId) (enR : Addr) (kenR : ClassId) (itR : Addr) (kitR : ClassId) (oU : Addr) (ckU : Addr) (kckU : ClassId) (kkU : Addr) (fiU : Addr) (kfiU : ClassId) (saU : Addr) (kstU : ClassId) (rs : List Int32) (us : List Int32) (h0 : Heap) (n0 : Nat) (Z0 : n0 ≤ h0.size) (F_read_a1 : Fld Z h0 a1 sN3 "read" sN4 (.ref oR)) (F_unread_a1 : Fld Z h0 a1 sN3 "unread" sN4 (.ref oU)) (E_a1 : Exa Z h0 a1 sN3) (E_oR : Exa Z h0 oR sN1) (F_chunks_oR : Fld Z h0 oR sN1 "chunks" sN2 (.ref ckR)) (F_chunkCount_oR : Fld Z h0 oR sN1 "chunkCount" "I" (.int 1)) (F_firsts_oR : Fld Z h0 oR sN1 "firsts" "[I" (.ref fiR)) (F_withItems_oR : Fld Z h0 oR sN1 "withItems" "Z" (.int 1)) (A_ckR : Arv Z h0 ckR kckR (.object sN0) (1 : Int32) [(.ref kkR)] .null) (E_kkR : Exa Z h0 kkR sN0) (F_size_kkR : Fld Z h0 kkR sN0 "size" "I" (.int (own_n rs))) (F_starts_kkR : Fld Z h0 kkR sN0 "starts" "[I" (.ref saR)) (A_fiR : Arv Z h0 fiR kfiR .int 1 [(.int (own_h rs))] (.int 0)) (A_saR : Arv Z h0 saR kstR .int 256 (own_v rs) (.int 0)) (F_ends_kkR : Fld Z h0 kkR sN0 "ends" "[I" (.ref enR)) (F_items_kkR : Fld Z h0 kkR sN0 "items" "[Ljava/lang/Object;" (.ref itR)) (A_enR : Arv Z h0 enR kenR .int 256 (own_e rs) (.int 0)) (A_itR : Arv Z h0 itR kitR (.object "java/lang/Object") (256 : Int32) (own_i iv_ rs) .null) (E_iv_ : Exa Z h0 iv_ "java/lang/Integer") (g_saR : n0 ≤ saR) (g_enR : n0 ≤ enR) (g_itR : n0 ≤ itR) (g_kkR : n0 ≤ kkR) (g_fiR : n0 ≤ fiR) (ne_fiR_ckR : fiR ≠ ckR) (ne_fiR_saR : fiR ≠ saR) (ne_fiR_enR : fiR ≠ enR) (ne_fiR_itR : fiR ≠ itR) (ne_ckR_saR : ckR ≠ saR) (ne_ckR_enR : ckR ≠ enR) (ne_ckR_itR : ckR ≠ itR) (ne_saR_enR : saR ≠ enR) (ne_saR_itR : saR ≠ itR) (ne_enR_itR : enR ≠ itR) (ovr_itR : Ovr Z kitR "java/lang/Object") (E_oU : Exa Z h0 oU sN1) (F_chunks_oU : Fld Z h0 oU sN1 "chunks" sN2 (.ref ckU)) (F_chunkCount_oU : Fld Z h0 oU sN1 "chunkCount" "I" (.int 1)) (F_firsts_oU : Fld Z h0 oU sN1 "firsts" "[I" (.ref fiU)) (A_ckU : Arv Z h0 ckU kckU (.object sN0) (1 : Int32) [(.ref kkU)] .null) (F_size_kkU : Fld Z h0 kkU sN0 "size" "I" (.int (own_n us))) (F_starts_kkU : Fld Z h0 kkU sN0 "starts" "[I" (.ref saU)) (A_fiU : Arv Z h0 fiU kfiU .int 1 [(.int (own_h us))] (.int 0)) (A_saU : Arv Z h0 saU kstU .int 256 (own_v us) (.int 0)) (hlR : rs.length ≤ 2) (hsR : own_so rs) (hlU : us.length ≤ 2) (hsU : own_so us) (hqR : p2 ∉ rs) (hqU : p2 ∉ us) (htot : rs.length + us.length ≤ 2) :
  own_M l yN0 (Jvm.Cond.code yN0 prog_116_method_9_code 6 none :: ws) ({ frames := 4, cells := 0, slots := 0, locals := 68 } : Room) #[(.ref a1), (.long (own_p rs p2)), (.int p2), (.int (p2 + (1 : Int32))), (.ref iv_)] Z h0 (Q_rmFa1 Z a1 p2 iv_ oR ckR kckR kkR fiR kfiR saR kstR enR kenR itR kitR oU ckU kckU kkU fiU kfiU saU kstU rs us h0 n0) := by
 refine MetFree.of_bodySF (plainFor_of_name pn_7) hisR ?_
 intro p e s m args below meth c s₁ Bd hml0 hP hK
 obtain ⟨rfl, hZ, hh⟩ := hP
 have hx := Bd.exec
 have hby := Bd.bytes
 have hml : c.maxLocals = 6 := hml0
 have hown : s.vm.findClass sN3 = some m.cls := findClass_of_methodNamed Bd.named
 have hnm := (name_of_methodNamed Bd.named Bd.method).1
 have X0 : Stand p l e ({ frames := 4, cells := 0, slots := 0, locals := 68 } : Room) s m #[(.ref a1), (.long (own_p rs p2)), (.int p2), (.int (p2 + (1 : Int32))), (.ref iv_)] below meth c s₁ [] 0 0 := Stand.of_body Bd
 have hU : ∀ (i : Nat) (d : Jvm.Cond), tables_1[i]? = some d → d.before a0 Z = true := fun i d h => hw d (List.mem_of_getElem? h)
 have e0 : s₁.heap = h0 := by rw [← hh, Bd.state]; rfl
 have N0 := Fr.nil n0
 obtain ⟨f0, hf0⟩ : ∃ f : JFrame, f = mkF m 0 (fA6 a1 iv_ p2 rs) [] := ⟨_, rfl⟩
 have pre0 : ∀ t, own_S p e below s₁ f0 t → Steps p.tables e below (s₁.setTop (entryFrame m #[(.ref a1), (.long (own_p rs p2)), (.int p2), (.int (p2 + (1 : Int32))), (.ref iv_)] 6)) t := fun t k => castTop ((ef_rmFa1 m a1 (own_p rs p2) p2 (p2 + (1 : Int32)) iv_).trans hf0.symm) k
 have R0 : own_R p e below s₁ (mkF m 0 (fA6 a1 iv_ p2 rs) []) s₁ f0 := by rw [hf0]; exact fun t k => k
 have R1 : own_R p e below s₁ (mkF m 6 (fA6 a1 iv_ p2 rs) [(.ref a1)]) s₁ f0 := fun t k => R0 t (by
  refine XS.aload X0.here hx rfl (hb hby d12_0) rfl rfl ?_
  refine XS.ifnullNo X0.here hx rfl (hb hby d12_2) rfl ?_
  refine XS.aloadN X0.here hx rfl (hb hby d12_5) rfl rfl ?_
  exact k)
 obtain ⟨T2, X2, e2, R3⟩ := own_gF R1 X0 hx hZ hown (host := "") (Or.inl (hU 44 _ rfl)) Via.refl e0 F_unread_a1 rfl rfl (hb hby d12_6)
 obtain ⟨cq4, kq4, q4a, q4b, q4c⟩ := isOf hZ e2 E_oU
 obtain ⟨_, _, ⟨T4, L4, k4, n4⟩, -, X4, ⟨Lc4, hQ4, l4, y4, z4⟩, st4⟩ := X2.virtualBack hx (y := yN4) (z := yN4) hown (mvT hZ (hU 65 _ rfl)) (mvT hZ (hU 66 _ rfl)) (notFace_of_selects (args := #[]) (mvT hZ (hU 68 _ rfl))) (mvT hZ (hU 68 _ rfl)) (mvT hZ (hU 67 _ rfl)) (by decide) (backOf (W := 0) (rmEmp l Z a0 hw [] oU ckU kckU kkU us h0 n0 Z0 F_chunks_oU A_ckU F_size_kkU) hZ (hU 69 _ rfl) (hU 11 _ rfl) (by decide) (by decide)) q4a q4c (g := (mkF m 9 (fA6 a1 iv_ p2 rs) [(.ref oU)])) rfl (by rw [hml]; rfl) (Steps.refl _) (argsL := []) (rest := []) (lenOf pd_9 rfl) rfl (Nat.le_of_eq rfl) (hb hby d12_9) (fun _ _ => ⟨rfl, e2, (by decide : 0 + 0 ≤ _), (by decide : 0 + 0 ≤ _)⟩)
 dsimp only [Pt.U, Pt.locs, Pt.cells, Pt.slots] at X4 l4 y4 z4 st4 hQ4
 subst l4 y4 z4
 obtain ⟨rfl, N4q, p4_0⟩ := hQ4
 have N4 := Fr.app N0 N4q
 have R5 := fun t k => R3 t (st4.trans k)
 by_cases hE : (own_ie us) = (0 : Int32)
 ·
  have R6 : own_R p e below T4 (mkF m 38 (fA6 a1 iv_ p2 rs) [(.ref iv_), (.int (p2 + (1 : Int32))), (.int p2), (.long (own_p rs p2)), (.ref a1)]) s₁ f0 := fun t k => R5 t (by
   refine XS.ifYes X4.here hx rfl (pc0 := 12) (pc' := 31) rfl (hb hby d12_12) rfl ((if0 _ _).trans (teq hE).1) (by decide) (by decide) ?_
   refine XS.aloadN X4.here hx rfl (hb hby d12_31) rfl rfl ?_
   refine XS.lloadN X4.here hx rfl (hb hby d12_32) rfl ?_
   refine XS.iloadN X4.here hx rfl (hb hby d12_33) rfl ?_
   refine XS.iload X4.here hx rfl (hb hby d12_34) rfl ?_
   refine XS.aload X4.here hx rfl (hb hby d12_36) rfl rfl ?_
   exact k)
  obtain ⟨cq7, q7, q7'⟩ := E_a1.cell
  obtain ⟨_, _, ⟨T7, L7, k7, n7⟩, -, X7, ⟨Lc7, hQ7, l7, y7, z7⟩, st7⟩ := X4.privateBack hx (y := yN7) hown (mvT hZ (hU 92 _ rfl)) (mvT hZ (hU 93 _ rfl)) (own_selp (w := yN2) (mvT hZ (hU 56 _ rfl)) rfl (Cond.privateMethod_at (mvP hZ (hU 94 _ rfl) (args := #[]))) (mvT hZ (hU 93 _ rfl)) (by decide)) (Cond.privateMethod_at (mvP hZ (hU 94 _ rfl) (args := #[]))) (mvT hZ (hU 95 _ rfl)) (by decide) (backOf (W := 0) (rmFi1 l Z a0 hw [] a1 p2 iv_ oR ckR kckR kkR fiR kfiR saR kstR enR kenR itR kitR oU ckU kckU kkU fiU kfiU saU kstU rs us h0 n0 Z0 F_read_a1 F_unread_a1 E_a1 E_oR F_chunks_oR F_chunkCount_oR F_firsts_oR F_withItems_oR A_ckR E_kkR F_size_kkR F_starts_kkR A_fiR A_saR F_ends_kkR F_items_kkR A_enR A_itR E_iv_ g_saR g_enR g_itR g_kkR g_fiR ne_fiR_ckR ne_fiR_saR ne_fiR_enR ne_fiR_itR ne_ckR_saR ne_ckR_enR ne_ckR_itR ne_saR_enR ne_saR_itR ne_enR_itR ovr_itR E_oU F_chunks_oU F_chunkCount_oU F_firsts_oU A_ckU F_size_kkU F_starts_kkU A_fiU A_saU hlR hsR hlU hsU hqR hqU (Or.inl (own_ne1 htot hE))) hZ (hU 95 _ rfl) (hU 2 _ rfl) (by decide) (by decide)) (g := (mkF m 38 (fA6 a1 iv_ p2 rs) [(.ref iv_), (.int (p2 + (1 : Int32))), (.int p2), (.long (own_p rs p2)), (.ref a1)])) rfl (by rw [hml]; rfl) (Steps.refl _) (a := a1) (by rw [p4_0]; exact q7) q7' (argsL := [(.long (own_p rs p2)), (.int p2), (.int (p2 + (1 : Int32))), (.ref iv_)]) (rest := []) (lenOf pd_11 rfl) rfl (Nat.le_of_eq rfl) (hb hby d12_38) (fun _ _ => ⟨rfl, p4_0, (by decide : 0 + 0 ≤ _), (by decide : 0 + 0 ≤ _)⟩)
  dsimp only [Pt.U, Pt.locs, Pt.cells, Pt.slots] at X7 l7 y7 z7 st7 hQ7
  subst l7 y7 z7
  obtain ⟨rfl, N7q, p7_0, p7_1, p7_2, p7_3, p7_4, p7_5, p7_6, p7_7, p7_8⟩ := hQ7
  have N7 := Fr.app N4 N7q
  have f7_E_oR := E_oR.keep p7_0
  have f7_F_chunks_oR := F_chunks_oR.keep p7_0 (ninS (Exa.neArv E_oR A_saR (hU 10 _ rfl)) (ninS (Exa.neArv E_oR A_enR (hU 10 _ rfl)) (ninS (Exa.neArv E_oR A_itR (hU 10 _ rfl)) (ninS (Exa.ne E_oR E_kkR (by decide)) (ninS (Exa.neArv E_oR A_fiR (hU 10 _ rfl)) nin0)))))
  have f7_F_chunkCount_oR := F_chunkCount_oR.keep p7_0 (ninS (Exa.neArv E_oR A_saR (hU 10 _ rfl)) (ninS (Exa.neArv E_oR A_enR (hU 10 _ rfl)) (ninS (Exa.neArv E_oR A_itR (hU 10 _ rfl)) (ninS (Exa.ne E_oR E_kkR (by decide)) (ninS (Exa.neArv E_oR A_fiR (hU 10 _ rfl)) nin0)))))
  have f7_F_firsts_oR := F_firsts_oR.keep p7_0 (ninS (Exa.neArv E_oR A_saR (hU 10 _ rfl)) (ninS (Exa.neArv E_oR A_enR (hU 10 _ rfl)) (ninS (Exa.neArv E_oR A_itR (hU 10 _ rfl)) (ninS (Exa.ne E_oR E_kkR (by decide)) (ninS (Exa.neArv E_oR A_fiR (hU 10 _ rfl)) nin0)))))
  have f7_F_withItems_oR := F_withItems_oR.keep p7_0 (ninS (Exa.neArv E_oR A_saR (hU 10 _ rfl)) (ninS (Exa.neArv E_oR A_enR (hU 10 _ rfl)) (ninS (Exa.neArv E_oR A_itR (hU 10 _ rfl)) (ninS (Exa.ne E_oR E_kkR (by decide)) (ninS (Exa.neArv E_oR A_fiR (hU 10 _ rfl)) nin0)))))
  have f7_A_ckR := A_ckR.keep p7_0 (ninS ne_ckR_saR (ninS ne_ckR_enR (ninS ne_ckR_itR (ninS (Ne.symm (Exa.neArv E_kkR A_ckR (hU 25 _ rfl))) (ninS (Ne.symm ne_fiR_ckR) nin0)))))
  have f7_E_kkR := E_kkR.keep p7_0
  have z7 : n0 ≤ T7.heap.size := Nat.le_trans Z0 p7_0.1
  have K7 : Keep h0 T7.heap [saR, enR, itR, kkR, fiR] := (Keep.refl h0 [saR, enR, itR, kkR, fiR]).trans p7_0 (allS (Or.inl (List.mem_of_getElem? (i := 0) rfl)) (allS (Or.inl (List.mem_of_getElem? (i := 1) rfl)) (allS (Or.inl (List.mem_of_getElem? (i := 2) rfl)) (allS (Or.inl (List.mem_of_getElem? (i := 3) rfl)) (allS (Or.inl (List.mem_of_getElem? (i := 4) rfl)) all0)))))
  have R8 := fun t k => R6 t (st7.trans k)
  obtain ⟨fs, hr, hrun, hended, hW, hsame⟩ := X7.leave (v := none) (fun _ => rfl)
  refine ⟨_, _, pre0 _ (R8 _ ?_), hrun, hended, _, _, rfl, ?_, ⟨_, rfl⟩, hW, hsame.mono (by decide) (by decide)⟩
  ·
   show own_S p e below T7 (mkF m 41 (fA6 a1 iv_ p2 rs) []) _
   exact X7.returnOut hx Bd.returns (hb hby d12_41) hr
  ·
   show Q_rmFa1 Z a1 p2 iv_ oR ckR kckR kkR fiR kfiR saR kstR enR kenR itR kitR oU ckU kckU kkU fiU kfiU saU kstU rs us h0 n0 _ T7.heap _
   exact ⟨rfl, N7, K7, p7_1, p7_2, p7_3, p7_4, p7_5, p7_6, p7_7, p7_8⟩
 ·
  have R9 : own_R p e below T4 (mkF m 16 (fA6 a1 iv_ p2 rs) [(.ref a1)]) s₁ f0 := fun t k => R5 t (by
   refine XS.ifNo X4.here hx rfl (hb hby d12_12) rfl ((if0 _ _).trans (feq hE).1) ?_
   refine XS.aloadN X4.here hx rfl (hb hby d12_15) rfl rfl ?_
   exact k)
  obtain ⟨T10, X10, e10, R11⟩ := own_gF R9 X4 hx hZ hown (host := "") (Or.inl (hU 42 _ rfl)) Via.refl p4_0 F_read_a1 rfl rfl (hb hby d12_16)
  have R12 : own_R p e below T10 (mkF m 24 (fA6 a1 iv_ p2 rs) [(.ref iv_), (.int (p2 + (1 : Int32))), (.int p2), (.ref oR)]) s₁ f0 := fun t k => R11 t (by
   refine XS.iloadN X10.here hx rfl (hb hby d12_19) rfl ?_
   refine XS.iload X10.here hx rfl (hb hby d12_20) rfl ?_
   refine XS.aload X10.here hx rfl (hb hby d12_22) rfl rfl ?_
   exact k)
  by_cases hap : own_ap rs p2
  ·
   obtain ⟨cq13, kq13, q13a, q13b, q13c⟩ := isOf hZ e10 E_oR
   obtain ⟨_, _, ⟨T13, L13, k13, n13⟩, -, X13, ⟨Lc13, hQ13, l13, y13, z13⟩, st13⟩ := X10.virtualBack hx (y := yN5) (z := yN5) hown (mvT hZ (hU 126 _ rfl)) (mvT hZ (hU 127 _ rfl)) (notFace_of_selects (args := #[]) (mvT hZ (hU 129 _ rfl))) (mvT hZ (hU 129 _ rfl)) (mvT hZ (hU 128 _ rfl)) (by decide) (backOf (W := 0) (rmApY l Z a0 hw [] oR p2 iv_ ckR kckR kkR fiR kfiR saR kstR enR kenR itR kitR rs h0 n0 Z0 E_oR F_chunks_oR F_chunkCount_oR F_firsts_oR F_withItems_oR A_ckR E_kkR F_size_kkR F_starts_kkR A_fiR A_saR F_ends_kkR F_items_kkR A_enR A_itR E_iv_ g_saR g_enR g_itR g_kkR g_fiR ne_fiR_ckR ne_fiR_saR ne_fiR_enR ne_fiR_itR ne_ckR_saR ne_ckR_enR ne_ckR_itR ne_saR_enR ne_saR_itR ne_enR_itR ovr_itR hlR hsR hap) hZ (hU 130 _ rfl) (hU 11 _ rfl) (by decide) (by decide)) q13a q13c (g := (mkF m 24 (fA6 a1 iv_ p2 rs) [(.ref iv_), (.int (p2 + (1 : Int32))), (.int p2), (.ref oR)])) rfl (by rw [hml]; rfl) (Steps.refl _) (argsL := [(.int p2), (.int (p2 + (1 : Int32))), (.ref iv_)]) (rest := []) (lenOf pd_12 rfl) rfl (Nat.le_of_eq rfl) (hb hby d12_24) (fun _ _ => ⟨rfl, e10, (by decide : 0 + 0 ≤ _), (by decide : 0 + 0 ≤ _)⟩)
   dsimp only [Pt.U, Pt.locs, Pt.cells, Pt.slots] at X13 l13 y13 z13 st13 hQ13
   subst l13 y13 z13
   obtain ⟨rfl, N13q, p13_0, p13_1, p13_2, p13_3, p13_4, p13_5, p13_6, p13_7, p13_8⟩ := hQ13
   have N13 := Fr.app N4 N13q
   have f13_E_oR := E_oR.keep p13_0
   have f13_F_chunks_oR := F_chunks_oR.keep p13_0 (ninS (Exa.neArv E_oR A_saR (hU 10 _ rfl)) (ninS (Exa.neArv E_oR A_enR (hU 10 _ rfl)) (ninS (Exa.neArv E_oR A_itR (hU 10 _ rfl)) (ninS (Exa.ne E_oR E_kkR (by decide)) (ninS (Exa.neArv E_oR A_fiR (hU 10 _ rfl)) nin0)))))
   have f13_F_chunkCount_oR := F_chunkCount_oR.keep p13_0 (ninS (Exa.neArv E_oR A_saR (hU 10 _ rfl)) (ninS (Exa.neArv E_oR A_enR (hU 10 _ rfl)) (ninS (Exa.neArv E_oR A_itR (hU 10 _ rfl)) (ninS (Exa.ne E_oR E_kkR (by decide)) (ninS (Exa.neArv E_oR A_fiR (hU 10 _ rfl)) nin0)))))
   have f13_F_firsts_oR := F_firsts_oR.keep p13_0 (ninS (Exa.neArv E_oR A_saR (hU 10 _ rfl)) (ninS (Exa.neArv E_oR A_enR (hU 10 _ rfl)) (ninS (Exa.neArv E_oR A_itR (hU 10 _ rfl)) (ninS (Exa.ne E_oR E_kkR (by decide)) (ninS (Exa.neArv E_oR A_fiR (hU 10 _ rfl)) nin0)))))
   have f13_F_withItems_oR := F_withItems_oR.keep p13_0 (ninS (Exa.neArv E_oR A_saR (hU 10 _ rfl)) (ninS (Exa.neArv E_oR A_enR (hU 10 _ rfl)) (ninS (Exa.neArv E_oR A_itR (hU 10 _ rfl)) (ninS (Exa.ne E_oR E_kkR (by decide)) (ninS (Exa.neArv E_oR A_fiR (hU 10 _ rfl)) nin0)))))
   have f13_A_ckR := A_ckR.keep p13_0 (ninS ne_ckR_saR (ninS ne_ckR_enR (ninS ne_ckR_itR (ninS (Ne.symm (Exa.neArv E_kkR A_ckR (hU 25 _ rfl))) (ninS (Ne.symm ne_fiR_ckR) nin0)))))
   have f13_E_kkR := E_kkR.keep p13_0
   have f13_E_iv_ := E_iv_.keep p13_0
   have z13 : n0 ≤ T13.heap.size := Nat.le_trans Z0 p13_0.1
   have K13 : Keep h0 T13.heap [saR, enR, itR, kkR, fiR] := (Keep.refl h0 [saR, enR, itR, kkR, fiR]).trans p13_0 (allS (Or.inl (List.mem_of_getElem? (i := 0) rfl)) (allS (Or.inl (List.mem_of_getElem? (i := 1) rfl)) (allS (Or.inl (List.mem_of_getElem? (i := 2) rfl)) (allS (Or.inl (List.mem_of_getElem? (i := 3) rfl)) (allS (Or.inl (List.mem_of_getElem? (i := 4) rfl)) all0)))))
   have R14 := fun t k => R12 t (st13.trans k)
   have R15 : own_R p e below T13 (mkF m 30 (fA6 a1 iv_ p2 rs) []) s₁ f0 := fun t k => R14 t (by
    refine XS.ifNo X13.here hx rfl (hb hby d12_27) rfl ((if0 _ _).trans (feq (by decide : ¬ ((1 : Int32) = (0 : Int32)))).1) ?_
    exact k)
   obtain ⟨fs, hr, hrun, hended, hW, hsame⟩ := X13.leave (v := none) (fun _ => rfl)
   refine ⟨_, _, pre0 _ (R15 _ ?_), hrun, hended, _, _, rfl, ?_, ⟨_, rfl⟩, hW, hsame.mono (by decide) (by decide)⟩
   ·
    show own_S p e below T13 (mkF m 30 (fA6 a1 iv_ p2 rs) []) _
    exact X13.returnOut hx Bd.returns (hb hby d12_30) hr
   ·
    show Q_rmFa1 Z a1 p2 iv_ oR ckR kckR kkR fiR kfiR saR kstR enR kenR itR kitR oU ckU kckU kkU fiU kfiU saU kstU rs us h0 n0 _ T13.heap _
    exact ⟨rfl, N13, K13, p13_1, p13_2, p13_3, p13_4, p13_5, p13_6, p13_7, p13_8⟩
  ·
   obtain ⟨cq16, kq16, q16a, q16b, q16c⟩ := isOf hZ e10 E_oR
   obtain ⟨_, _, ⟨T16, L16, k16, n16⟩, -, X16, ⟨Lc16, hQ16, l16, y16, z16⟩, st16⟩ := X10.virtualBack hx (y := yN5) (z := yN5) hown (mvT hZ (hU 126 _ rfl)) (mvT hZ (hU 127 _ rfl)) (notFace_of_selects (args := #[]) (mvT hZ (hU 129 _ rfl))) (mvT hZ (hU 129 _ rfl)) (mvT hZ (hU 128 _ rfl)) (by decide) (backOf (W := 0) (rmApN l Z a0 hw [] oR p2 iv_ ckR kckR kkR saR kstR rs h0 n0 Z0 F_chunks_oR F_chunkCount_oR A_ckR F_size_kkR F_starts_kkR A_saR hlR hap) hZ (hU 130 _ rfl) (hU 11 _ rfl) (by decide) (by decide)) q16a q16c (g := (mkF m 24 (fA6 a1 iv_ p2 rs) [(.ref iv_), (.int (p2 + (1 : Int32))), (.int p2), (.ref oR)])) rfl (by rw [hml]; rfl) (Steps.refl _) (argsL := [(.int p2), (.int (p2 + (1 : Int32))), (.ref iv_)]) (rest := []) (lenOf pd_12 rfl) rfl (Nat.le_of_eq rfl) (hb hby d12_24) (fun _ _ => ⟨rfl, e10, (by decide : 0 + 0 ≤ _), (by decide : 0 + 0 ≤ _)⟩)
   dsimp only [Pt.U, Pt.locs, Pt.cells, Pt.slots] at X16 l16 y16 z16 st16 hQ16
   subst l16 y16 z16
   obtain ⟨rfl, N16q, p16_0⟩ := hQ16
   have N16 := Fr.app N4 N16q
   have R17 := fun t k => R12 t (st16.trans k)
   have R18 : own_R p e below T16 (mkF m 38 (fA6 a1 iv_ p2 rs) [(.ref iv_), (.int (p2 + (1 : Int32))), (.int p2), (.long (own_p rs p2)), (.ref a1)]) s₁ f0 := fun t k => R17 t (by
    refine XS.ifYes X16.here hx rfl (pc0 := 27) (pc' := 31) rfl (hb hby d12_27) rfl ((if0 _ _).trans (teq (by decide : (0 : Int32) = (0 : Int32))).1) (by decide) (by decide) ?_
    refine XS.aloadN X16.here hx rfl (hb hby d12_31) rfl rfl ?_
    refine XS.lloadN X16.here hx rfl (hb hby d12_32) rfl ?_
    refine XS.iloadN X16.here hx rfl (hb hby d12_33) rfl ?_
    refine XS.iload X16.here hx rfl (hb hby d12_34) rfl ?_
    refine XS.aload X16.here hx rfl (hb hby d12_36) rfl rfl ?_
    exact k)
   obtain ⟨cq19, q19, q19'⟩ := E_a1.cell
   obtain ⟨_, _, ⟨T19, L19, k19, n19⟩, -, X19, ⟨Lc19, hQ19, l19, y19, z19⟩, st19⟩ := X16.privateBack hx (y := yN7) hown (mvT hZ (hU 92 _ rfl)) (mvT hZ (hU 93 _ rfl)) (own_selp (w := yN2) (mvT hZ (hU 56 _ rfl)) rfl (Cond.privateMethod_at (mvP hZ (hU 94 _ rfl) (args := #[]))) (mvT hZ (hU 93 _ rfl)) (by decide)) (Cond.privateMethod_at (mvP hZ (hU 94 _ rfl) (args := #[]))) (mvT hZ (hU 95 _ rfl)) (by decide) (backOf (W := 0) (rmFi1 l Z a0 hw [] a1 p2 iv_ oR ckR kckR kkR fiR kfiR saR kstR enR kenR itR kitR oU ckU kckU kkU fiU kfiU saU kstU rs us h0 n0 Z0 F_read_a1 F_unread_a1 E_a1 E_oR F_chunks_oR F_chunkCount_oR F_firsts_oR F_withItems_oR A_ckR E_kkR F_size_kkR F_starts_kkR A_fiR A_saR F_ends_kkR F_items_kkR A_enR A_itR E_iv_ g_saR g_enR g_itR g_kkR g_fiR ne_fiR_ckR ne_fiR_saR ne_fiR_enR ne_fiR_itR ne_ckR_saR ne_ckR_enR ne_ckR_itR ne_saR_enR ne_saR_itR ne_enR_itR ovr_itR E_oU F_chunks_oU F_chunkCount_oU F_firsts_oU A_ckU F_size_kkU F_starts_kkU A_fiU A_saU hlR hsR hlU hsU hqR hqU (Or.inr hap)) hZ (hU 95 _ rfl) (hU 2 _ rfl) (by decide) (by decide)) (g := (mkF m 38 (fA6 a1 iv_ p2 rs) [(.ref iv_), (.int (p2 + (1 : Int32))), (.int p2), (.long (own_p rs p2)), (.ref a1)])) rfl (by rw [hml]; rfl) (Steps.refl _) (a := a1) (by rw [p16_0]; exact q19) q19' (argsL := [(.long (own_p rs p2)), (.int p2), (.int (p2 + (1 : Int32))), (.ref iv_)]) (rest := []) (lenOf pd_11 rfl) rfl (Nat.le_of_eq rfl) (hb hby d12_38) (fun _ _ => ⟨rfl, p16_0, (by decide : 0 + 0 ≤ _), (by decide : 0 + 0 ≤ _)⟩)
   dsimp only [Pt.U, Pt.locs, Pt.cells, Pt.slots] at X19 l19 y19 z19 st19 hQ19
   subst l19 y19 z19
   obtain ⟨rfl, N19q, p19_0, p19_1, p19_2, p19_3, p19_4, p19_5, p19_6, p19_7, p19_8⟩ := hQ19
   have N19 := Fr.app N16 N19q
   have f19_E_oR := E_oR.keep p19_0
   have f19_F_chunks_oR := F_chunks_oR.keep p19_0 (ninS (Exa.neArv E_oR A_saR (hU 10 _ rfl)) (ninS (Exa.neArv E_oR A_enR (hU 10 _ rfl)) (ninS (Exa.neArv E_oR A_itR (hU 10 _ rfl)) (ninS (Exa.ne E_oR E_kkR (by decide)) (ninS (Exa.neArv E_oR A_fiR (hU 10 _ rfl)) nin0)))))
   have f19_F_chunkCount_oR := F_chunkCount_oR.keep p19_0 (ninS (Exa.neArv E_oR A_saR (hU 10 _ rfl)) (ninS (Exa.neArv E_oR A_enR (hU 10 _ rfl)) (ninS (Exa.neArv E_oR A_itR (hU 10 _ rfl)) (ninS (Exa.ne E_oR E_kkR (by decide)) (ninS (Exa.neArv E_oR A_fiR (hU 10 _ rfl)) nin0)))))
   have f19_F_firsts_oR := F_firsts_oR.keep p19_0 (ninS (Exa.neArv E_oR A_saR (hU 10 _ rfl)) (ninS (Exa.neArv E_oR A_enR (hU 10 _ rfl)) (ninS (Exa.neArv E_oR A_itR (hU 10 _ rfl)) (ninS (Exa.ne E_oR E_kkR (by decide)) (ninS (Exa.neArv E_oR A_fiR (hU 10 _ rfl)) nin0)))))
   have f19_F_withItems_oR := F_withItems_oR.keep p19_0 (ninS (Exa.neArv E_oR A_saR (hU 10 _ rfl)) (ninS (Exa.neArv E_oR A_enR (hU 10 _ rfl)) (ninS (Exa.neArv E_oR A_itR (hU 10 _ rfl)) (ninS (Exa.ne E_oR E_kkR (by decide)) (ninS (Exa.neArv E_oR A_fiR (hU 10 _ rfl)) nin0)))))
   have f19_A_ckR := A_ckR.keep p19_0 (ninS ne_ckR_saR (ninS ne_ckR_enR (ninS ne_ckR_itR (ninS (Ne.symm (Exa.neArv E_kkR A_ckR (hU 25 _ rfl))) (ninS (Ne.symm ne_fiR_ckR) nin0)))))
   have f19_E_kkR := E_kkR.keep p19_0
   have z19 : n0 ≤ T19.heap.size := Nat.le_trans Z0 p19_0.1
   have K19 : Keep h0 T19.heap [saR, enR, itR, kkR, fiR] := (Keep.refl h0 [saR, enR, itR, kkR, fiR]).trans p19_0 (allS (Or.inl (List.mem_of_getElem? (i := 0) rfl)) (allS (Or.inl (List.mem_of_getElem? (i := 1) rfl)) (allS (Or.inl (List.mem_of_getElem? (i := 2) rfl)) (allS (Or.inl (List.mem_of_getElem? (i := 3) rfl)) (allS (Or.inl (List.mem_of_getElem? (i := 4) rfl)) all0)))))
   have R20 := fun t k => R18 t (st19.trans k)
   obtain ⟨fs, hr, hrun, hended, hW, hsame⟩ := X19.leave (v := none) (fun _ => rfl)
   refine ⟨_, _, pre0 _ (R20 _ ?_), hrun, hended, _, _, rfl, ?_, ⟨_, rfl⟩, hW, hsame.mono (by decide) (by decide)⟩
   ·
    show own_S p e below T19 (mkF m 41 (fA6 a1 iv_ p2 rs) []) _
    exact X19.returnOut hx Bd.returns (hb hby d12_41) hr
   ·
    show Q_rmFa1 Z a1 p2 iv_ oR ckR kckR kkR fiR kfiR saR kstR enR kenR itR kitR oU ckU kckU kkU fiU kfiU saU kstU rs us h0 n0 _ T19.heap _
    exact ⟨rfl, N19, K19, p19_1, p19_2, p19_3, p19_4, p19_5, p19_6, p19_7, p19_8⟩
theorem ef_rmFi0 (m : MethodId) (x0 : Addr) (x1 : Int64) (x2 : Int32) (x3 : Int32) : entryFrame m #[(.ref x0), (.long x1), (.int x2), (.int x3), .null] 6 = mkF m 0 #[rv x0, own_l x1, .second, iv x2, iv x3, .val .null] [] := by first | (simp [entryFrame, mkF, argsToLocals, Value.category]; done) | rfl
def Q_rmFi0 (Z : State) (a1 : Addr) (p2 : Int32) (oR : Addr) (ckR : Addr) (kckR : ClassId) (kkR : Addr) (fiR : Addr) (kfiR : ClassId) (saR : Addr) (kstR : ClassId) (oU : Addr) (ckU : Addr) (kckU : ClassId) (kkU : Addr) (fiU : Addr) (kfiU : ClassId) (saU : Addr) (kstU : ClassId) (rs : List Int32) (us : List Int32) (h0 : Heap) (n0 : Nat) (v : Option Value) (h : Heap) (L : List Loc) : Prop := v = none ∧ Fr n0 L ∧ Keep h0 h [saU, kkU, fiU] ∧ (Fld Z h kkU sN0 "size" "I" (.int (own_n (own_ins p2 us)))) ∧ (Fld Z h kkU sN0 "starts" "[I" (.ref saU)) ∧ (Arv Z h fiU kfiU .int 1 [(.int (own_h (own_ins p2 us)))] (.int 0)) ∧ (Arv Z h saU kstU .int 256 (own_v (own_ins p2 us)) (.int 0))
set_option maxRecDepth 65536 in
set_option maxHeartbeats 40000000 in
theorem rmFi0 (l : Launch) (Z : State) (a0 : Array Value) (hw : ∀ d ∈ tables_1, d.before a0 Z = true) (ws : List Jvm.Cond) (a1 : Addr) (p2 : Int32) (oR : Addr) (ckR : Addr) (kckR : ClassId) (kkR : Addr) (fiR : Addr) (kfiR : ClassId) (saR : Addr) (kstR : ClassId) (oU : Addr) (ckU : Addr) (kckU : ClassId) (kkU : Addr) (fiU : Addr) (kfiU : ClassId) (saU : Addr) (kstU : ClassId) (rs : List Int32) (us : List Int32) (h0 : Heap) (n0 : Nat) (Z0 : n0 ≤ h0.size) (F_read_a1 : Fld Z h0 a1 sN3 "read" sN4 (.ref oR)) (F_unread_a1 : Fld Z h0 a1 sN3 "unread" sN4 (.ref oU)) (E_a1 : Exa Z h0 a1 sN3) (E_oR : Exa Z h0 oR sN1) (F_chunks_oR : Fld Z h0 oR sN1 "chunks" sN2 (.ref ckR)) (F_chunkCount_oR : Fld Z h0 oR sN1 "chunkCount" "I" (.int 1)) (F_firsts_oR : Fld Z h0 oR sN1 "firsts" "[I" (.ref fiR)) (A_ckR : Arv Z h0 ckR kckR (.object sN0) (1 : Int32) [(.ref kkR)] .null) (F_size_kkR : Fld Z h0 kkR sN0 "size" "I" (.int (own_n rs))) (F_starts_kkR : Fld Z h0 kkR sN0 "starts" "[I" (.ref saR)) (A_fiR : Arv Z h0 fiR kfiR .int 1 [(.int (own_h rs))] (.int 0)) (A_saR : Arv Z h0 saR kstR .int 256 (own_v rs) (.int 0)) (E_oU : Exa Z h0 oU sN1) (F_chunks_oU : Fld Z h0 oU sN1 "chunks" sN2 (.ref ckU)) (F_chunkCount_oU : Fld Z h0 oU sN1 "chunkCount" "I" (.int 1)) (F_firsts_oU : Fld Z h0 oU sN1 "firsts" "[I" (.ref fiU)) (F_withItems_oU : Fld Z h0 oU sN1 "withItems" "Z" (.int 0)) (A_ckU : Arv Z h0 ckU kckU (.object sN0) (1 : Int32) [(.ref kkU)] .null) (E_kkU : Exa Z h0 kkU sN0) (F_size_kkU : Fld Z h0 kkU sN0 "size" "I" (.int (own_n us))) (F_starts_kkU : Fld Z h0 kkU sN0 "starts" "[I" (.ref saU)) (A_fiU : Arv Z h0 fiU kfiU .int 1 [(.int (own_h us))] (.int 0)) (A_saU : Arv Z h0 saU kstU .int 256 (own_v us) (.int 0)) (g_saU : n0 ≤ saU) (g_kkU : n0 ≤ kkU) (g_fiU : n0 ≤ fiU) (ne_fiU_ckU : fiU ≠ ckU) (ne_fiU_saU : fiU ≠ saU) (ne_ckU_saU : ckU ≠ saU) (hlR : rs.length ≤ 2) (hsR : own_so rs) (hlU : us.length ≤ 2) (hsU : own_so us) (hqR : p2 ∉ rs) (hqU : p2 ∉ us) :
  own_M l yN7 (Jvm.Cond.code yN7 prog_116_method_10_code 6 none :: ws) ({ frames := 3, cells := 0, slots := 0, locals := 52 } : Room) #[(.ref a1), (.long (own_p rs p2)), (.int p2), (.int (p2 + (1 : Int32))), .null] Z h0 (Q_rmFi0 Z a1 p2 oR ckR kckR kkR fiR kfiR saR kstR oU ckU kckU kkU fiU kfiU saU kstU rs us h0 n0) := by
 refine MetFree.of_bodySF (plainFor_of_name pn_7) hisR ?_
 intro p e s m args below meth c s₁ Bd hml0 hP hK
 obtain ⟨rfl, hZ, hh⟩ := hP
 have hx := Bd.exec
 have hby := Bd.bytes
 have hml : c.maxLocals = 6 := hml0
 have hown : s.vm.findClass sN3 = some m.cls := findClass_of_methodNamed Bd.named
 have hnm := (name_of_methodNamed Bd.named Bd.method).1
 have X0 : Stand p l e ({ frames := 3, cells := 0, slots := 0, locals := 52 } : Room) s m #[(.ref a1), (.long (own_p rs p2)), (.int p2), (.int (p2 + (1 : Int32))), .null] below meth c s₁ [] 0 0 := Stand.of_body Bd
 have hU : ∀ (i : Nat) (d : Jvm.Cond), tables_1[i]? = some d → d.before a0 Z = true := fun i d h => hw d (List.mem_of_getElem? h)
 have e0 : s₁.heap = h0 := by rw [← hh, Bd.state]; rfl
 have N0 := Fr.nil n0
 obtain ⟨f0, hf0⟩ : ∃ f : JFrame, f = mkF m 0 #[rv a1, own_l (own_p rs p2), .second, iv p2, iv (p2 + (1 : Int32)), .val .null] [] := ⟨_, rfl⟩
 have pre0 : ∀ t, own_S p e below s₁ f0 t → Steps p.tables e below (s₁.setTop (entryFrame m #[(.ref a1), (.long (own_p rs p2)), (.int p2), (.int (p2 + (1 : Int32))), .null] 6)) t := fun t k => castTop ((ef_rmFi0 m a1 (own_p rs p2) p2 (p2 + (1 : Int32))).trans hf0.symm) k
 have R0 : own_R p e below s₁ (mkF m 0 #[rv a1, own_l (own_p rs p2), .second, iv p2, iv (p2 + (1 : Int32)), .val .null] []) s₁ f0 := by rw [hf0]; exact fun t k => k
 have R1 : own_R p e below s₁ (mkF m 1 #[rv a1, own_l (own_p rs p2), .second, iv p2, iv (p2 + (1 : Int32)), .val .null] [(.ref a1)]) s₁ f0 := fun t k => R0 t (by
  refine XS.aloadN X0.here hx rfl (hb hby d13_0) rfl rfl ?_
  exact k)
 obtain ⟨T2, X2, e2, R3⟩ := own_gF R1 X0 hx hZ hown (host := "") (Or.inl (hU 42 _ rfl)) Via.refl e0 F_read_a1 rfl rfl (hb hby d13_1)
 have R4 : own_R p e below T2 (mkF m 6 #[rv a1, own_l (own_p rs p2), .second, iv p2, iv (p2 + (1 : Int32)), .val .null] [(.int p2), (.long (own_p rs p2)), (.ref oR)]) s₁ f0 := fun t k => R3 t (by
  refine XS.lloadN X2.here hx rfl (hb hby d13_4) rfl ?_
  refine XS.iloadN X2.here hx rfl (hb hby d13_5) rfl ?_
  exact k)
 obtain ⟨cq5, kq5, q5a, q5b, q5c⟩ := isOf hZ e2 E_oR
 obtain ⟨_, _, ⟨T5, L5, k5, n5⟩, -, X5, ⟨Lc5, hQ5, l5, y5, z5⟩, st5⟩ := X2.virtualBack hx (y := yN10) (z := yN10) hown (mvT hZ (hU 96 _ rfl)) (mvT hZ (hU 97 _ rfl)) (notFace_of_selects (args := #[]) (mvT hZ (hU 99 _ rfl))) (mvT hZ (hU 99 _ rfl)) (mvT hZ (hU 98 _ rfl)) (by decide) (backOf (W := 0) (rmHolds l Z a0 hw [] oR p2 ckR kckR kkR saR kstR rs h0 n0 Z0 F_chunks_oR F_chunkCount_oR A_ckR F_size_kkR F_starts_kkR A_saR hlR hsR hqR) hZ (hU 100 _ rfl) (hU 11 _ rfl) (by decide) (by decide)) q5a q5c (g := (mkF m 6 #[rv a1, own_l (own_p rs p2), .second, iv p2, iv (p2 + (1 : Int32)), .val .null] [(.int p2), (.long (own_p rs p2)), (.ref oR)])) rfl (by rw [hml]; rfl) (Steps.refl _) (argsL := [(.long (own_p rs p2)), (.int p2)]) (rest := []) (lenOf pd_10 rfl) rfl (Nat.le_of_eq rfl) (hb hby d13_6) (fun _ _ => ⟨rfl, e2, (by decide : 0 + 0 ≤ _), (by decide : 0 + 0 ≤ _)⟩)
 dsimp only [Pt.U, Pt.locs, Pt.cells, Pt.slots] at X5 l5 y5 z5 st5 hQ5
 subst l5 y5 z5
 obtain ⟨rfl, N5q, p5_0⟩ := hQ5
 have N5 := Fr.app N0 N5q
 have R6 := fun t k => R4 t (st5.trans k)
 have R7 : own_R p e below T5 (mkF m 29 #[rv a1, own_l (own_p rs p2), .second, iv p2, iv (p2 + (1 : Int32)), .val .null] []) s₁ f0 := fun t k => R6 t (by
  refine XS.ifYes X5.here hx rfl (pc0 := 9) (pc' := 21) rfl (hb hby d13_9) rfl ((if0 _ _).trans (feq (by decide : ¬ ((1 : Int32) = (0 : Int32)))).2) (by decide) (by decide) ?_
  refine XS.lloadN X5.here hx rfl (hb hby d13_21) rfl ?_
  refine XS.l2i X5.here hx rfl (hb hby d13_22) rfl ?_
  refine XS.sipush X5.here hx rfl (hb hby d13_23) ?_
  refine XS.icmpNo X5.here hx rfl (hb hby d13_26) rfl (flt (own_p256 rs p2)).1 ?_
  exact k)
 obtain ⟨T21, L21, X21, N21, e21, R21⟩ : ∃ (T' : State) (L' : List Loc), Stand p l e ({ frames := 3, cells := 0, slots := 0, locals := 52 } : Room) s m #[(.ref a1), (.long (own_p rs p2)), (.int p2), (.int (p2 + (1 : Int32))), .null] below meth c T' L' 0 0 ∧ Fr n0 L' ∧ T'.heap = h0 ∧ own_R p e below T' (mkF m 68 #[rv a1, own_l (own_p rs p2), .second, iv p2, iv (p2 + (1 : Int32)), .val .null] []) s₁ f0 := by
  have R8 : own_R p e below T5 (mkF m 30 #[rv a1, own_l (own_p rs p2), .second, iv p2, iv (p2 + (1 : Int32)), .val .null] [(.ref a1)]) s₁ f0 := fun t k => R7 t (by
   refine XS.aloadN X5.here hx rfl (hb hby d13_29) rfl rfl ?_
   exact k)
  obtain ⟨T9, X9, e9, R10⟩ := own_gF R8 X5 hx hZ hown (host := "") (Or.inl (hU 44 _ rfl)) Via.refl p5_0 F_unread_a1 rfl rfl (hb hby d13_30)
  obtain ⟨cq11, kq11, q11a, q11b, q11c⟩ := isOf hZ e9 E_oU
  obtain ⟨_, _, ⟨T11, L11, k11, n11⟩, -, X11, ⟨Lc11, hQ11, l11, y11, z11⟩, st11⟩ := X9.virtualBack hx (y := yN4) (z := yN4) hown (mvT hZ (hU 65 _ rfl)) (mvT hZ (hU 66 _ rfl)) (notFace_of_selects (args := #[]) (mvT hZ (hU 68 _ rfl))) (mvT hZ (hU 68 _ rfl)) (mvT hZ (hU 67 _ rfl)) (by decide) (backOf (W := 0) (rmEmp l Z a0 hw [] oU ckU kckU kkU us h0 n0 Z0 F_chunks_oU A_ckU F_size_kkU) hZ (hU 69 _ rfl) (hU 11 _ rfl) (by decide) (by decide)) q11a q11c (g := (mkF m 33 #[rv a1, own_l (own_p rs p2), .second, iv p2, iv (p2 + (1 : Int32)), .val .null] [(.ref oU)])) rfl (by rw [hml]; rfl) (Steps.refl _) (argsL := []) (rest := []) (lenOf pd_9 rfl) rfl (Nat.le_of_eq rfl) (hb hby d13_33) (fun _ _ => ⟨rfl, e9, (by decide : 0 + 0 ≤ _), (by decide : 0 + 0 ≤ _)⟩)
  dsimp only [Pt.U, Pt.locs, Pt.cells, Pt.slots] at X11 l11 y11 z11 st11 hQ11
  subst l11 y11 z11
  obtain ⟨rfl, N11q, p11_0⟩ := hQ11
  have N11 := Fr.app N5 N11q
  have R12 := fun t k => R10 t (st11.trans k)
  by_cases hg1 : (own_ie us) = (0 : Int32)
  ·
   have R13 : own_R p e below T11 (mkF m 40 #[rv a1, own_l (own_p rs p2), .second, iv p2, iv (p2 + (1 : Int32)), .val .null] [(.ref a1)]) s₁ f0 := fun t k => R12 t (by
    refine XS.ifNo X11.here hx rfl (hb hby d13_36) rfl ((if0 _ _).trans (teq hg1).2) ?_
    refine XS.aloadN X11.here hx rfl (hb hby d13_39) rfl rfl ?_
    exact k)
   obtain ⟨T14, X14, e14, R15⟩ := own_gF R13 X11 hx hZ hown (host := "") (Or.inl (hU 44 _ rfl)) Via.refl p11_0 F_unread_a1 rfl rfl (hb hby d13_40)
   have R16 : own_R p e below T14 (mkF m 44 #[rv a1, own_l (own_p rs p2), .second, iv p2, iv (p2 + (1 : Int32)), .val .null] [(.int p2), (.ref oU)]) s₁ f0 := fun t k => R15 t (by
    refine XS.iloadN X14.here hx rfl (hb hby d13_43) rfl ?_
    exact k)
   obtain ⟨cq17, kq17, q17a, q17b, q17c⟩ := isOf hZ e14 E_oU
   obtain ⟨_, _, ⟨T17, L17, k17, n17⟩, -, X17, ⟨Lc17, hQ17, l17, y17, z17⟩, st17⟩ := X14.virtualBack hx (y := yN3) (z := yN3) hown (mvT hZ (hU 58 _ rfl)) (mvT hZ (hU 59 _ rfl)) (notFace_of_selects (args := #[]) (mvT hZ (hU 61 _ rfl))) (mvT hZ (hU 61 _ rfl)) (mvT hZ (hU 60 _ rfl)) (by decide) (backOf (W := 0) (rmFind l Z a0 hw [] oU p2 ckU kckU kkU fiU kfiU saU kstU us h0 n0 Z0 E_oU F_chunks_oU F_chunkCount_oU F_firsts_oU A_ckU F_size_kkU F_starts_kkU A_fiU A_saU (Nat.le_succ_of_le hlU) hsU) hZ (hU 62 _ rfl) (hU 11 _ rfl) (by decide) (by decide)) q17a q17c (g := (mkF m 44 #[rv a1, own_l (own_p rs p2), .second, iv p2, iv (p2 + (1 : Int32)), .val .null] [(.int p2), (.ref oU)])) rfl (by rw [hml]; rfl) (Steps.refl _) (argsL := [(.int p2)]) (rest := []) (lenOf pd_8 rfl) rfl (Nat.le_of_eq rfl) (hb hby d13_44) (fun _ _ => ⟨rfl, e14, (by decide : 0 + 0 ≤ _), (by decide : 0 + 0 ≤ _)⟩)
   dsimp only [Pt.U, Pt.locs, Pt.cells, Pt.slots] at X17 l17 y17 z17 st17 hQ17
   subst l17 y17 z17
   obtain ⟨pr_17, rfl, N17q, p17_0, p17_1⟩ := hQ17
   have N17 := Fr.app N11 N17q
   have R18 := fun t k => R16 t (st17.trans k)
   have R19 : own_R p e below T17 (mkF m 68 #[rv a1, own_l (own_p rs p2), .second, iv p2, iv (p2 + (1 : Int32)), .val .null] []) s₁ f0 := fun t k => R18 t (by
    refine XS.l2i X17.here hx rfl (hb hby d13_47) rfl ?_
    refine XS.sipush X17.here hx rfl (hb hby d13_48) ?_
    refine XS.icmpYes X17.here hx rfl (pc0 := 51) (pc' := 68) rfl (hb hby d13_51) rfl (flt (own_plN p17_1 hqU)).2.1 (by decide) (by decide) ?_
    exact k)
   exact ⟨T17, _, X17, N17, p17_0, R19⟩
  ·
   have R20 : own_R p e below T11 (mkF m 68 #[rv a1, own_l (own_p rs p2), .second, iv p2, iv (p2 + (1 : Int32)), .val .null] []) s₁ f0 := fun t k => R12 t (by
    refine XS.ifYes X11.here hx rfl (pc0 := 36) (pc' := 68) rfl (hb hby d13_36) rfl ((if0 _ _).trans (feq hg1).2) (by decide) (by decide) ?_
    exact k)
   exact ⟨T11, _, X11, N11, p11_0, R20⟩
 have R22 : own_R p e below T21 (mkF m 74 #[rv a1, own_l (own_p rs p2), .second, iv p2, iv (p2 + (1 : Int32)), .val .null] [(.ref a1)]) s₁ f0 := fun t k => R21 t (by
  refine XS.aload X21.here hx rfl (hb hby d13_68) rfl rfl ?_
  refine XS.ifnonnullNo X21.here hx rfl (hb hby d13_70) rfl ?_
  refine XS.aloadN X21.here hx rfl (hb hby d13_73) rfl rfl ?_
  exact k)
 obtain ⟨T23, X23, e23, R24⟩ := own_gF R22 X21 hx hZ hown (host := "") (Or.inl (hU 44 _ rfl)) Via.refl e21 F_unread_a1 rfl rfl (hb hby d13_74)
 have R25 : own_R p e below T23 (mkF m 78 #[rv a1, own_l (own_p rs p2), .second, iv p2, iv (p2 + (1 : Int32)), .val .null] [(.ref a1), (.ref oU)]) s₁ f0 := fun t k => R24 t (by
  refine XS.aloadN X23.here hx rfl (hb hby d13_77) rfl rfl ?_
  exact k)
 obtain ⟨T26, X26, e26, R27⟩ := own_gF R25 X23 hx hZ hown (host := "") (Or.inl (hU 44 _ rfl)) Via.refl e23 F_unread_a1 rfl rfl (hb hby d13_78)
 have R28 : own_R p e below T26 (mkF m 82 #[rv a1, own_l (own_p rs p2), .second, iv p2, iv (p2 + (1 : Int32)), .val .null] [(.int p2), (.ref oU), (.ref oU)]) s₁ f0 := fun t k => R27 t (by
  refine XS.iloadN X26.here hx rfl (hb hby d13_81) rfl ?_
  exact k)
 obtain ⟨cq29, kq29, q29a, q29b, q29c⟩ := isOf hZ e26 E_oU
 obtain ⟨_, _, ⟨T29, L29, k29, n29⟩, -, X29, ⟨Lc29, hQ29, l29, y29, z29⟩, st29⟩ := X26.virtualBack hx (y := yN3) (z := yN3) hown (mvT hZ (hU 58 _ rfl)) (mvT hZ (hU 59 _ rfl)) (notFace_of_selects (args := #[]) (mvT hZ (hU 61 _ rfl))) (mvT hZ (hU 61 _ rfl)) (mvT hZ (hU 60 _ rfl)) (by decide) (backOf (W := 1) (rmFind l Z a0 hw [] oU p2 ckU kckU kkU fiU kfiU saU kstU us h0 n0 Z0 E_oU F_chunks_oU F_chunkCount_oU F_firsts_oU A_ckU F_size_kkU F_starts_kkU A_fiU A_saU (Nat.le_succ_of_le hlU) hsU) hZ (hU 62 _ rfl) (hU 11 _ rfl) (by decide) (by decide)) q29a q29c (g := (mkF m 82 #[rv a1, own_l (own_p rs p2), .second, iv p2, iv (p2 + (1 : Int32)), .val .null] [(.int p2), (.ref oU), (.ref oU)])) rfl (by rw [hml]; rfl) (Steps.refl _) (argsL := [(.int p2)]) (rest := [(.ref oU)]) (lenOf pd_8 rfl) rfl (Nat.le_of_eq rfl) (hb hby d13_82) (fun _ _ => ⟨rfl, e26, (by decide : 0 + 0 ≤ _), (by decide : 0 + 0 ≤ _)⟩)
 dsimp only [Pt.U, Pt.locs, Pt.cells, Pt.slots] at X29 l29 y29 z29 st29 hQ29
 subst l29 y29 z29
 obtain ⟨pr_29, rfl, N29q, p29_0, p29_1⟩ := hQ29
 have N29 := Fr.app N21 N29q
 have R30 := fun t k => R28 t (st29.trans k)
 have R31 : own_R p e below T29 (mkF m 85 #[rv a1, own_l (own_p rs p2), .second, iv p2, iv (p2 + (1 : Int32)), .val .null] [(.long (own_p us p2)), (.ref oU)]) s₁ f0 := by have q := R30; rw [((own_plV p29_1 hqU) : pr_29 = (own_p us p2))] at q; exact q
 have R32 : own_R p e below T29 (mkF m 88 #[rv a1, own_l (own_p rs p2), .second, iv p2, iv (p2 + (1 : Int32)), .val .null] [.null, (.int p2), (.int p2), (.long (own_p us p2)), (.ref oU)]) s₁ f0 := fun t k => R31 t (by
  refine XS.iloadN X29.here hx rfl (hb hby d13_85) rfl ?_
  refine XS.iloadN X29.here hx rfl (hb hby d13_86) rfl ?_
  refine XS.aconstNull X29.here hx rfl (hb hby d13_87) ?_
  exact k)
 obtain ⟨cq33, kq33, q33a, q33b, q33c⟩ := isOf hZ p29_0 E_oU
 obtain ⟨_, _, ⟨T33, L33, k33, n33⟩, -, X33, ⟨Lc33, hQ33, l33, y33, z33⟩, st33⟩ := X29.virtualBack hx (y := yN6) (z := yN6) hown (mvT hZ (hU 101 _ rfl)) (mvT hZ (hU 102 _ rfl)) (notFace_of_selects (args := #[]) (mvT hZ (hU 104 _ rfl))) (mvT hZ (hU 104 _ rfl)) (mvT hZ (hU 103 _ rfl)) (by decide) (backOf (W := 0) (rmOi0 l Z a0 hw [] oU p2 ckU kckU kkU fiU kfiU saU kstU us h0 n0 Z0 E_oU F_chunks_oU F_chunkCount_oU F_firsts_oU F_withItems_oU A_ckU E_kkU F_size_kkU F_starts_kkU A_fiU A_saU g_saU g_kkU g_fiU ne_fiU_ckU ne_fiU_saU ne_ckU_saU hlU hsU hqU) hZ (hU 105 _ rfl) (hU 11 _ rfl) (by decide) (by decide)) q33a q33c (g := (mkF m 88 #[rv a1, own_l (own_p rs p2), .second, iv p2, iv (p2 + (1 : Int32)), .val .null] [.null, (.int p2), (.int p2), (.long (own_p us p2)), (.ref oU)])) rfl (by rw [hml]; rfl) (Steps.refl _) (argsL := [(.long (own_p us p2)), (.int p2), (.int p2), .null]) (rest := []) (lenOf pd_11 rfl) rfl (Nat.le_of_eq rfl) (hb hby d13_88) (fun _ _ => ⟨rfl, p29_0, (by decide : 0 + 0 ≤ _), (by decide : 0 + 0 ≤ _)⟩)
 dsimp only [Pt.U, Pt.locs, Pt.cells, Pt.slots] at X33 l33 y33 z33 st33 hQ33
 subst l33 y33 z33
 obtain ⟨rfl, N33q, p33_0, p33_1, p33_2, p33_3, p33_4⟩ := hQ33
 have N33 := Fr.app N29 N33q
 have f33_E_oU := E_oU.keep p33_0
 have f33_F_chunks_oU := F_chunks_oU.keep p33_0 (ninS (Exa.neArv E_oU A_saU (hU 10 _ rfl)) (ninS (Exa.ne E_oU E_kkU (by decide)) (ninS (Exa.neArv E_oU A_fiU (hU 10 _ rfl)) nin0)))
 have f33_F_chunkCount_oU := F_chunkCount_oU.keep p33_0 (ninS (Exa.neArv E_oU A_saU (hU 10 _ rfl)) (ninS (Exa.ne E_oU E_kkU (by decide)) (ninS (Exa.neArv E_oU A_fiU (hU 10 _ rfl)) nin0)))
 have f33_F_firsts_oU := F_firsts_oU.keep p33_0 (ninS (Exa.neArv E_oU A_saU (hU 10 _ rfl)) (ninS (Exa.ne E_oU E_kkU (by decide)) (ninS (Exa.neArv E_oU A_fiU (hU 10 _ rfl)) nin0)))
 have f33_F_withItems_oU := F_withItems_oU.keep p33_0 (ninS (Exa.neArv E_oU A_saU (hU 10 _ rfl)) (ninS (Exa.ne E_oU E_kkU (by decide)) (ninS (Exa.neArv E_oU A_fiU (hU 10 _ rfl)) nin0)))
 have f33_A_ckU := A_ckU.keep p33_0 (ninS ne_ckU_saU (ninS (Ne.symm (Exa.neArv E_kkU A_ckU (hU 25 _ rfl))) (ninS (Ne.symm ne_fiU_ckU) nin0)))
 have f33_E_kkU := E_kkU.keep p33_0
 have z33 : n0 ≤ T33.heap.size := Nat.le_trans Z0 p33_0.1
 have K33 : Keep h0 T33.heap [saU, kkU, fiU] := (Keep.refl h0 [saU, kkU, fiU]).trans p33_0 (allS (Or.inl (List.mem_of_getElem? (i := 0) rfl)) (allS (Or.inl (List.mem_of_getElem? (i := 1) rfl)) (allS (Or.inl (List.mem_of_getElem? (i := 2) rfl)) all0)))
 have R34 := fun t k => R32 t (st33.trans k)
 have R35 : own_R p e below T33 (mkF m 107 #[rv a1, own_l (own_p rs p2), .second, iv p2, iv (p2 + (1 : Int32)), .val .null] []) s₁ f0 := fun t k => R34 t (by
  refine XS.goto X33.here hx rfl (pc0 := 91) (pc' := 107) rfl (hb hby d13_91) (by decide) (by decide) ?_
  exact k)
 obtain ⟨fs, hr, hrun, hended, hW, hsame⟩ := X33.leave (v := none) (fun _ => rfl)
 refine ⟨_, _, pre0 _ (R35 _ ?_), hrun, hended, _, _, rfl, ?_, ⟨_, rfl⟩, hW, hsame.mono (by decide) (by decide)⟩
 ·
  show own_S p e below T33 (mkF m 107 #[rv a1, own_l (own_p rs p2), .second, iv p2, iv (p2 + (1 : Int32)), .val .null] []) _
  exact X33.returnOut hx Bd.returns (hb hby d13_107) hr
 ·
  show Q_rmFi0 Z a1 p2 oR ckR kckR kkR fiR kfiR saR kstR oU ckU kckU kkU fiU kfiU saU kstU rs us h0 n0 _ T33.heap _
  exact ⟨rfl, N33, K33, p33_1, p33_2, p33_3, p33_4⟩
theorem ef_rmFa0 (m : MethodId) (x0 : Addr) (x1 : Int64) (x2 : Int32) (x3 : Int32) : entryFrame m #[(.ref x0), (.long x1), (.int x2), (.int x3), .null] 6 = mkF m 0 #[rv x0, own_l x1, .second, iv x2, iv x3, .val .null] [] := by first | (simp [entryFrame, mkF, argsToLocals, Value.category]; done) | rfl
def Q_rmFa0 (Z : State) (a1 : Addr) (p2 : Int32) (oR : Addr) (ckR : Addr) (kckR : ClassId) (kkR : Addr) (fiR : Addr) (kfiR : ClassId) (saR : Addr) (kstR : ClassId) (oU : Addr) (ckU : Addr) (kckU : ClassId) (kkU : Addr) (fiU : Addr) (kfiU : ClassId) (saU : Addr) (kstU : ClassId) (rs : List Int32) (us : List Int32) (h0 : Heap) (n0 : Nat) (v : Option Value) (h : Heap) (L : List Loc) : Prop := v = none ∧ Fr n0 L ∧ Keep h0 h [saU, kkU, fiU] ∧ (Fld Z h kkU sN0 "size" "I" (.int (own_n (own_ins p2 us)))) ∧ (Fld Z h kkU sN0 "starts" "[I" (.ref saU)) ∧ (Arv Z h fiU kfiU .int 1 [(.int (own_h (own_ins p2 us)))] (.int 0)) ∧ (Arv Z h saU kstU .int 256 (own_v (own_ins p2 us)) (.int 0))
set_option maxRecDepth 65536 in
set_option maxHeartbeats 40000000 in
theorem rmFa0 (l : Launch) (Z : State) (a0 : Array Value) (hw : ∀ d ∈ tables_1, d.before a0 Z = true) (ws : List Jvm.Cond) (a1 : Addr) (p2 : Int32) (oR : Addr) (ckR : Addr) (kckR : ClassId) (kkR : Addr) (fiR : Addr) (kfiR : ClassId) (saR : Addr) (kstR : ClassId) (oU : Addr) (ckU : Addr) (kckU : ClassId) (kkU : Addr) (fiU : Addr) (kfiU : ClassId) (saU : Addr) (kstU : ClassId) (rs : List Int32) (us : List Int32) (h0 : Heap) (n0 : Nat) (Z0 : n0 ≤ h0.size) (F_read_a1 : Fld Z h0 a1 sN3 "read" sN4 (.ref oR)) (F_unread_a1 : Fld Z h0 a1 sN3 "unread" sN4 (.ref oU)) (E_a1 : Exa Z h0 a1 sN3) (E_oR : Exa Z h0 oR sN1) (F_chunks_oR : Fld Z h0 oR sN1 "chunks" sN2 (.ref ckR)) (F_chunkCount_oR : Fld Z h0 oR sN1 "chunkCount" "I" (.int 1)) (F_firsts_oR : Fld Z h0 oR sN1 "firsts" "[I" (.ref fiR)) (A_ckR : Arv Z h0 ckR kckR (.object sN0) (1 : Int32) [(.ref kkR)] .null) (F_size_kkR : Fld Z h0 kkR sN0 "size" "I" (.int (own_n rs))) (F_starts_kkR : Fld Z h0 kkR sN0 "starts" "[I" (.ref saR)) (A_fiR : Arv Z h0 fiR kfiR .int 1 [(.int (own_h rs))] (.int 0)) (A_saR : Arv Z h0 saR kstR .int 256 (own_v rs) (.int 0)) (E_oU : Exa Z h0 oU sN1) (F_chunks_oU : Fld Z h0 oU sN1 "chunks" sN2 (.ref ckU)) (F_chunkCount_oU : Fld Z h0 oU sN1 "chunkCount" "I" (.int 1)) (F_firsts_oU : Fld Z h0 oU sN1 "firsts" "[I" (.ref fiU)) (F_withItems_oU : Fld Z h0 oU sN1 "withItems" "Z" (.int 0)) (A_ckU : Arv Z h0 ckU kckU (.object sN0) (1 : Int32) [(.ref kkU)] .null) (E_kkU : Exa Z h0 kkU sN0) (F_size_kkU : Fld Z h0 kkU sN0 "size" "I" (.int (own_n us))) (F_starts_kkU : Fld Z h0 kkU sN0 "starts" "[I" (.ref saU)) (A_fiU : Arv Z h0 fiU kfiU .int 1 [(.int (own_h us))] (.int 0)) (A_saU : Arv Z h0 saU kstU .int 256 (own_v us) (.int 0)) (g_saU : n0 ≤ saU) (g_kkU : n0 ≤ kkU) (g_fiU : n0 ≤ fiU) (ne_fiU_ckU : fiU ≠ ckU) (ne_fiU_saU : fiU ≠ saU) (ne_ckU_saU : ckU ≠ saU) (hlR : rs.length ≤ 2) (hsR : own_so rs) (hlU : us.length ≤ 2) (hsU : own_so us) (hqR : p2 ∉ rs) (hqU : p2 ∉ us) :
  own_M l yN0 (Jvm.Cond.code yN0 prog_116_method_9_code 6 none :: ws) ({ frames := 4, cells := 0, slots := 0, locals := 69 } : Room) #[(.ref a1), (.long (own_p rs p2)), (.int p2), (.int (p2 + (1 : Int32))), .null] Z h0 (Q_rmFa0 Z a1 p2 oR ckR kckR kkR fiR kfiR saR kstR oU ckU kckU kkU fiU kfiU saU kstU rs us h0 n0) := by
 refine MetFree.of_bodySF (plainFor_of_name pn_7) hisR ?_
 intro p e s m args below meth c s₁ Bd hml0 hP hK
 obtain ⟨rfl, hZ, hh⟩ := hP
 have hx := Bd.exec
 have hby := Bd.bytes
 have hml : c.maxLocals = 6 := hml0
 have hown : s.vm.findClass sN3 = some m.cls := findClass_of_methodNamed Bd.named
 have hnm := (name_of_methodNamed Bd.named Bd.method).1
 have X0 : Stand p l e ({ frames := 4, cells := 0, slots := 0, locals := 69 } : Room) s m #[(.ref a1), (.long (own_p rs p2)), (.int p2), (.int (p2 + (1 : Int32))), .null] below meth c s₁ [] 0 0 := Stand.of_body Bd
 have hU : ∀ (i : Nat) (d : Jvm.Cond), tables_1[i]? = some d → d.before a0 Z = true := fun i d h => hw d (List.mem_of_getElem? h)
 have e0 : s₁.heap = h0 := by rw [← hh, Bd.state]; rfl
 have N0 := Fr.nil n0
 obtain ⟨f0, hf0⟩ : ∃ f : JFrame, f = mkF m 0 #[rv a1, own_l (own_p rs p2), .second, iv p2, iv (p2 + (1 : Int32)), .val .null] [] := ⟨_, rfl⟩
 have pre0 : ∀ t, own_S p e below s₁ f0 t → Steps p.tables e below (s₁.setTop (entryFrame m #[(.ref a1), (.long (own_p rs p2)), (.int p2), (.int (p2 + (1 : Int32))), .null] 6)) t := fun t k => castTop ((ef_rmFa0 m a1 (own_p rs p2) p2 (p2 + (1 : Int32))).trans hf0.symm) k
 have R0 : own_R p e below s₁ (mkF m 0 #[rv a1, own_l (own_p rs p2), .second, iv p2, iv (p2 + (1 : Int32)), .val .null] []) s₁ f0 := by rw [hf0]; exact fun t k => k
 have R1 : own_R p e below s₁ (mkF m 38 #[rv a1, own_l (own_p rs p2), .second, iv p2, iv (p2 + (1 : Int32)), .val .null] [.null, (.int (p2 + (1 : Int32))), (.int p2), (.long (own_p rs p2)), (.ref a1)]) s₁ f0 := fun t k => R0 t (by
  refine XS.aload X0.here hx rfl (hb hby d12_0) rfl rfl ?_
  refine XS.ifnullYes X0.here hx rfl (pc0 := 2) (pc' := 31) rfl (hb hby d12_2) rfl (by decide) (by decide) ?_
  refine XS.aloadN X0.here hx rfl (hb hby d12_31) rfl rfl ?_
  refine XS.lloadN X0.here hx rfl (hb hby d12_32) rfl ?_
  refine XS.iloadN X0.here hx rfl (hb hby d12_33) rfl ?_
  refine XS.iload X0.here hx rfl (hb hby d12_34) rfl ?_
  refine XS.aload X0.here hx rfl (hb hby d12_36) rfl rfl ?_
  exact k)
 obtain ⟨cq2, q2, q2'⟩ := E_a1.cell
 obtain ⟨_, _, ⟨T2, L2, k2, n2⟩, -, X2, ⟨Lc2, hQ2, l2, y2, z2⟩, st2⟩ := X0.privateBack hx (y := yN7) hown (mvT hZ (hU 92 _ rfl)) (mvT hZ (hU 93 _ rfl)) (own_selp (w := yN2) (mvT hZ (hU 56 _ rfl)) rfl (Cond.privateMethod_at (mvP hZ (hU 94 _ rfl) (args := #[]))) (mvT hZ (hU 93 _ rfl)) (by decide)) (Cond.privateMethod_at (mvP hZ (hU 94 _ rfl) (args := #[]))) (mvT hZ (hU 95 _ rfl)) (by decide) (backOf (W := 0) (rmFi0 l Z a0 hw [] a1 p2 oR ckR kckR kkR fiR kfiR saR kstR oU ckU kckU kkU fiU kfiU saU kstU rs us h0 n0 Z0 F_read_a1 F_unread_a1 E_a1 E_oR F_chunks_oR F_chunkCount_oR F_firsts_oR A_ckR F_size_kkR F_starts_kkR A_fiR A_saR E_oU F_chunks_oU F_chunkCount_oU F_firsts_oU F_withItems_oU A_ckU E_kkU F_size_kkU F_starts_kkU A_fiU A_saU g_saU g_kkU g_fiU ne_fiU_ckU ne_fiU_saU ne_ckU_saU hlR hsR hlU hsU hqR hqU) hZ (hU 95 _ rfl) (hU 2 _ rfl) (by decide) (by decide)) (g := (mkF m 38 #[rv a1, own_l (own_p rs p2), .second, iv p2, iv (p2 + (1 : Int32)), .val .null] [.null, (.int (p2 + (1 : Int32))), (.int p2), (.long (own_p rs p2)), (.ref a1)])) rfl (by rw [hml]; rfl) (Steps.refl _) (a := a1) (by rw [e0]; exact q2) q2' (argsL := [(.long (own_p rs p2)), (.int p2), (.int (p2 + (1 : Int32))), .null]) (rest := []) (lenOf pd_11 rfl) rfl (Nat.le_of_eq rfl) (hb hby d12_38) (fun _ _ => ⟨rfl, e0, (by decide : 0 + 0 ≤ _), (by decide : 0 + 0 ≤ _)⟩)
 dsimp only [Pt.U, Pt.locs, Pt.cells, Pt.slots] at X2 l2 y2 z2 st2 hQ2
 subst l2 y2 z2
 obtain ⟨rfl, N2q, p2_0, p2_1, p2_2, p2_3, p2_4⟩ := hQ2
 have N2 := Fr.app N0 N2q
 have f2_E_oU := E_oU.keep p2_0
 have f2_F_chunks_oU := F_chunks_oU.keep p2_0 (ninS (Exa.neArv E_oU A_saU (hU 10 _ rfl)) (ninS (Exa.ne E_oU E_kkU (by decide)) (ninS (Exa.neArv E_oU A_fiU (hU 10 _ rfl)) nin0)))
 have f2_F_chunkCount_oU := F_chunkCount_oU.keep p2_0 (ninS (Exa.neArv E_oU A_saU (hU 10 _ rfl)) (ninS (Exa.ne E_oU E_kkU (by decide)) (ninS (Exa.neArv E_oU A_fiU (hU 10 _ rfl)) nin0)))
 have f2_F_firsts_oU := F_firsts_oU.keep p2_0 (ninS (Exa.neArv E_oU A_saU (hU 10 _ rfl)) (ninS (Exa.ne E_oU E_kkU (by decide)) (ninS (Exa.neArv E_oU A_fiU (hU 10 _ rfl)) nin0)))
 have f2_F_withItems_oU := F_withItems_oU.keep p2_0 (ninS (Exa.neArv E_oU A_saU (hU 10 _ rfl)) (ninS (Exa.ne E_oU E_kkU (by decide)) (ninS (Exa.neArv E_oU A_fiU (hU 10 _ rfl)) nin0)))
 have f2_A_ckU := A_ckU.keep p2_0 (ninS ne_ckU_saU (ninS (Ne.symm (Exa.neArv E_kkU A_ckU (hU 25 _ rfl))) (ninS (Ne.symm ne_fiU_ckU) nin0)))
 have f2_E_kkU := E_kkU.keep p2_0
 have z2 : n0 ≤ T2.heap.size := Nat.le_trans Z0 p2_0.1
 have K2 : Keep h0 T2.heap [saU, kkU, fiU] := (Keep.refl h0 [saU, kkU, fiU]).trans p2_0 (allS (Or.inl (List.mem_of_getElem? (i := 0) rfl)) (allS (Or.inl (List.mem_of_getElem? (i := 1) rfl)) (allS (Or.inl (List.mem_of_getElem? (i := 2) rfl)) all0)))
 have R3 := fun t k => R1 t (st2.trans k)
 obtain ⟨fs, hr, hrun, hended, hW, hsame⟩ := X2.leave (v := none) (fun _ => rfl)
 refine ⟨_, _, pre0 _ (R3 _ ?_), hrun, hended, _, _, rfl, ?_, ⟨_, rfl⟩, hW, hsame.mono (by decide) (by decide)⟩
 ·
  show own_S p e below T2 (mkF m 41 #[rv a1, own_l (own_p rs p2), .second, iv p2, iv (p2 + (1 : Int32)), .val .null] []) _
  exact X2.returnOut hx Bd.returns (hb hby d12_41) hr
 ·
  show Q_rmFa0 Z a1 p2 oR ckR kckR kkR fiR kfiR saR kstR oU ckU kckU kkU fiU kfiU saU kstU rs us h0 n0 _ T2.heap _
  exact ⟨rfl, N2, K2, p2_1, p2_2, p2_3, p2_4⟩
theorem ef_rmFrw (m : MethodId) (x0 : Addr) (x1 : Int64) (x2 : Int32) : entryFrame m #[(.ref x0), (.long x1), (.int x2)] 7 = mkF m 0 #[rv x0, own_l x1, .second, iv x2, .unset, .unset, .unset] [] := by first | (simp [entryFrame, mkF, argsToLocals, Value.category]; done) | rfl
def Q_rmFrw (Z : State) (a1 : Addr) (p2 : Int32) (p3 : Int32) (oR : Addr) (ckR : Addr) (kckR : ClassId) (kkR : Addr) (saR : Addr) (kstR : ClassId) (xs : List Int32) (h0 : Heap) (n0 : Nat) (v : Option Value) (h : Heap) (L : List Loc) : Prop := v = some (.int (own_fr xs p2 p3)) ∧ Fr n0 L ∧ h = h0
set_option maxRecDepth 65536 in
set_option maxHeartbeats 40000000 in
theorem rmFrw (l : Launch) (Z : State) (a0 : Array Value) (hw : ∀ d ∈ tables_1, d.before a0 Z = true) (ws : List Jvm.Cond) (a1 : Addr) (p2 : Int32) (p3 : Int32) (oR : Addr) (ckR : Addr) (kckR : ClassId) (kkR : Addr) (saR : Addr) (kstR : ClassId) (xs : List Int32) (h0 : Heap) (n0 : Nat) (Z0 : n0 ≤ h0.size) (F_read_a1 : Fld Z h0 a1 sN3 "read" sN4 (.ref oR)) (F_chunks_oR : Fld Z h0 oR sN1 "chunks" sN2 (.ref ckR)) (F_chunkCount_oR : Fld Z h0 oR sN1 "chunkCount" "I" (.int 1)) (A_ckR : Arv Z h0 ckR kckR (.object sN0) (1 : Int32) [(.ref kkR)] .null) (F_size_kkR : Fld Z h0 kkR sN0 "size" "I" (.int (own_n xs))) (F_starts_kkR : Fld Z h0 kkR sN0 "starts" "[I" (.ref saR)) (A_saR : Arv Z h0 saR kstR .int 256 (own_v xs) (.int 0)) (hlen : xs.length ≤ 3) (hso : own_so xs) (hq : p2 ∉ xs) :
  own_M l yN13 (Jvm.Cond.code yN13 prog_116_method_8_code 7 (some .int) :: ws) ({ frames := 0, cells := 0, slots := 0, locals := 0 } : Room) #[(.ref a1), (.long (own_p xs p2)), (.int p3)] Z h0 (Q_rmFrw Z a1 p2 p3 oR ckR kckR kkR saR kstR xs h0 n0) := by
 refine MetFree.of_bodySF (plainFor_of_name pn_7) hisR ?_
 intro p e s m args below meth c s₁ Bd hml0 hP hK
 obtain ⟨rfl, hZ, hh⟩ := hP
 have hx := Bd.exec
 have hby := Bd.bytes
 have hml : c.maxLocals = 7 := hml0
 have hown : s.vm.findClass sN3 = some m.cls := findClass_of_methodNamed Bd.named
 have hnm := (name_of_methodNamed Bd.named Bd.method).1
 have X0 : Stand p l e ({ frames := 0, cells := 0, slots := 0, locals := 0 } : Room) s m #[(.ref a1), (.long (own_p xs p2)), (.int p3)] below meth c s₁ [] 0 0 := Stand.of_body Bd
 have hU : ∀ (i : Nat) (d : Jvm.Cond), tables_1[i]? = some d → d.before a0 Z = true := fun i d h => hw d (List.mem_of_getElem? h)
 have e0 : s₁.heap = h0 := by rw [← hh, Bd.state]; rfl
 have N0 := Fr.nil n0
 obtain ⟨f0, hf0⟩ : ∃ f : JFrame, f = mkF m 0 #[rv a1, own_l (own_p xs p2), .second, iv p3, .unset, .unset, .unset] [] := ⟨_, rfl⟩
 have pre0 : ∀ t, own_S p e below s₁ f0 t → Steps p.tables e below (s₁.setTop (entryFrame m #[(.ref a1), (.long (own_p xs p2)), (.int p3)] 7)) t := fun t k => castTop ((ef_rmFrw m a1 (own_p xs p2) p3).trans hf0.symm) k
 have R0 : own_R p e below s₁ (mkF m 0 #[rv a1, own_l (own_p xs p2), .second, iv p3, .unset, .unset, .unset] []) s₁ f0 := by rw [hf0]; exact fun t k => k
 have R1 : own_R p e below s₁ (mkF m 5 #[rv a1, own_l (own_p xs p2), .second, iv p3, .unset, .unset, .unset] [(.int ((((own_p xs p2).toUInt64 >>> ((32 : Int32) &&& 0x3f).toInt64.toUInt64).toInt64).toInt32))]) s₁ f0 := fun t k => R0 t (by
  refine XS.lloadN X0.here hx rfl (hb hby d11_0) rfl ?_
  refine XS.bipush X0.here hx rfl (hb hby d11_1) ?_
  refine XS.lushr X0.here hx rfl (hb hby d11_3) rfl ?_
  refine XS.l2i X0.here hx rfl (hb hby d11_4) rfl ?_
  exact k)
 have R2 : own_R p e below s₁ (mkF m 5 #[rv a1, own_l (own_p xs p2), .second, iv p3, .unset, .unset, .unset] [(.int 0)]) s₁ f0 := by have q := R1; rw [((own_sh32 xs p2) : ((((own_p xs p2).toUInt64 >>> ((32 : Int32) &&& 0x3f).toInt64.toUInt64).toInt64).toInt32) = (0 : Int32))] at q; exact q
 have R3 : own_R p e below s₁ (mkF m 13 #[rv a1, own_l (own_p xs p2), .second, iv p3, iv 0, .unset, .unset] [(.int (((own_p xs p2).toInt32) - (256 : Int32)))]) s₁ f0 := fun t k => R2 t (by
  refine XS.istore X0.here hx rfl (hb hby d11_5) rfl (l' := #[rv a1, own_l (own_p xs p2), .second, iv p3, iv 0, .unset, .unset]) rfl ?_
  refine XS.lloadN X0.here hx rfl (hb hby d11_7) rfl ?_
  refine XS.l2i X0.here hx rfl (hb hby d11_8) rfl ?_
  refine XS.sipush X0.here hx rfl (hb hby d11_9) ?_
  refine XS.isub X0.here hx rfl (hb hby d11_12) rfl ?_
  exact k)
 have R4 : own_R p e below s₁ (mkF m 13 #[rv a1, own_l (own_p xs p2), .second, iv p3, iv 0, .unset, .unset] [(.int (own_c xs p2))]) s₁ f0 := by have q := R3; rw [((own_pc xs p2) : (((own_p xs p2).toInt32) - (256 : Int32)) = (own_c xs p2))] at q; exact q
 have R5 : own_R p e below s₁ (mkF m 16 #[rv a1, own_l (own_p xs p2), .second, iv p3, iv 0, iv (own_c xs p2), .unset] [(.ref a1)]) s₁ f0 := fun t k => R4 t (by
  refine XS.istore X0.here hx rfl (hb hby d11_13) rfl (l' := #[rv a1, own_l (own_p xs p2), .second, iv p3, iv 0, iv (own_c xs p2), .unset]) rfl ?_
  refine XS.aloadN X0.here hx rfl (hb hby d11_15) rfl rfl ?_
  exact k)
 obtain ⟨T6, X6, e6, R7⟩ := own_gF R5 X0 hx hZ hown (host := "") (Or.inl (hU 42 _ rfl)) Via.refl e0 F_read_a1 rfl rfl (hb hby d11_16)
 have R8 : own_R p e below T6 (mkF m 24 #[rv a1, own_l (own_p xs p2), .second, iv p3, iv 0, iv (own_c xs p2), .unset] [(.int 0), (.ref ckR)]) s₁ f0 := fun t k => R7 t (by
  refine own_getFR X6 hx hZ hown (hU 84 _ rfl) e6 F_chunks_oR (g := (mkF m 19 #[rv a1, own_l (own_p xs p2), .second, iv p3, iv 0, iv (own_c xs p2), .unset] [(.ref oR)])) rfl rfl (hb hby d11_19) _ ?_
  refine XS.iload X6.here hx rfl (hb hby d11_22) rfl ?_
  exact k)
 obtain ⟨cl9, Ar9, q9, S9, n9_, H9, G9⟩ := id A_ckR
 have hin9 : ¬ ((0 : Int32) < 0 ∨ cl9.slots.size ≤ ((0 : Int32)).toNatClampNeg) := inb_of S9 ⟨by decide, by decide⟩
 have hat9 : cl9.slots[((0 : Int32)).toNatClampNeg]? = some (.ref kkR) := Has.at H9 hin9 rfl
 have R10 : own_R p e below T6 (mkF m 25 #[rv a1, own_l (own_p xs p2), .second, iv p3, iv 0, iv (own_c xs p2), .unset] [(.ref kkR)]) s₁ f0 := fun t k => R8 t (X6.aaload hx (j := (0 : Int32)) (v := (.ref kkR)) (by rw [e6]; exact Ar9.1) (State.isArrayOf_alike hZ.alike Ar9.2.1) rfl Ar9.2.2 hin9 hat9 (g := (mkF m 24 #[rv a1, own_l (own_p xs p2), .second, iv p3, iv 0, iv (own_c xs p2), .unset] [(.int 0), (.ref ckR)])) rfl rfl (hb hby d11_24) _ k)
 have R11 : own_R p e below T6 (mkF m 34 #[rv a1, own_l (own_p xs p2), .second, iv p3, iv 0, iv (own_c xs p2), rv kkR] [(.int (own_n xs)), (.int (own_c xs p2))]) s₁ f0 := fun t k => R10 t (by
  refine XS.astore X6.here hx rfl (hb hby d11_25) rfl rfl (l' := #[rv a1, own_l (own_p xs p2), .second, iv p3, iv 0, iv (own_c xs p2), rv kkR]) rfl ?_
  refine XS.iload X6.here hx rfl (hb hby d11_27) rfl ?_
  refine XS.aload X6.here hx rfl (hb hby d11_29) rfl rfl ?_
  refine own_getFR X6 hx hZ hown (hU 85 _ rfl) e6 F_size_kkR (g := (mkF m 31 #[rv a1, own_l (own_p xs p2), .second, iv p3, iv 0, iv (own_c xs p2), rv kkR] [(.ref kkR), (.int (own_c xs p2))])) rfl rfl (hb hby d11_31) _ ?_
  exact k)
 by_cases hs1 : (own_c xs p2) = (own_n xs)
 ·
  have R12 : own_R p e below T6 (mkF m 40 #[rv a1, own_l (own_p xs p2), .second, iv p3, iv 0, iv (own_c xs p2), rv kkR] [(.ref a1), (.int 0)]) s₁ f0 := fun t k => R11 t (by
   refine XS.icmpNo X6.here hx rfl (hb hby d11_34) rfl (teq hs1).2 ?_
   refine XS.iload X6.here hx rfl (hb hby d11_37) rfl ?_
   refine XS.aloadN X6.here hx rfl (hb hby d11_39) rfl rfl ?_
   exact k)
  obtain ⟨T13, X13, e13, R14⟩ := own_gF R12 X6 hx hZ hown (host := "") (Or.inl (hU 42 _ rfl)) Via.refl e6 F_read_a1 rfl rfl (hb hby d11_40)
  have R15 : own_R p e below T13 (mkF m 52 #[rv a1, own_l (own_p xs p2), .second, iv p3, iv 0, iv (own_c xs p2), rv kkR] [(.int (-1))]) s₁ f0 := fun t k => R14 t (by
   refine own_getFR X13 hx hZ hown (hU 86 _ rfl) e13 F_chunkCount_oR (g := (mkF m 43 #[rv a1, own_l (own_p xs p2), .second, iv p3, iv 0, iv (own_c xs p2), rv kkR] [(.ref oR), (.int 0)])) rfl rfl (hb hby d11_43) _ ?_
   refine XS.iconst X13.here hx rfl (hb hby d11_46) ?_
   refine XS.isub X13.here hx rfl (hb hby d11_47) rfl ?_
   refine XS.icmpNo X13.here hx rfl (hb hby d11_48) rfl (teq (by decide : (0 : Int32) = (0 : Int32))).2 ?_
   refine XS.iconst X13.here hx rfl (hb hby d11_51) ?_
   exact k)
  obtain ⟨fs, hr, hrun, hended, hW, hsame⟩ := X13.leave (v := some (.int (-1))) (fun h => by rw [Bd.returns] at h; cases h)
  refine ⟨_, _, pre0 _ (R15 _ ?_), hrun, hended, _, _, rfl, ?_, ⟨_, rfl⟩, hW, hsame.mono (by decide) (by decide)⟩
  ·
   show own_S p e below T13 (mkF m 52 #[rv a1, own_l (own_p xs p2), .second, iv p3, iv 0, iv (own_c xs p2), rv kkR] [(.int (-1))]) _
   exact retI X13 hx Bd.returns (hb hby d11_52) hr
  ·
   show Q_rmFrw Z a1 p2 p3 oR ckR kckR kkR saR kstR xs h0 n0 _ T13.heap _
   rw [e13]
   exact ⟨(by simp [own_fr, own_g, hs1]), N0, rfl⟩
 ·
  have R16 : own_R p e below T6 (mkF m 77 #[rv a1, own_l (own_p xs p2), .second, iv p3, iv 0, iv (own_c xs p2), rv kkR] [(.int (own_c xs p2)), (.ref saR)]) s₁ f0 := fun t k => R11 t (by
   refine XS.icmpYes X6.here hx rfl (pc0 := 34) (pc' := 70) rfl (hb hby d11_34) rfl (feq hs1).2 (by decide) (by decide) ?_
   refine XS.aload X6.here hx rfl (hb hby d11_70) rfl rfl ?_
   refine own_getFR X6 hx hZ hown (hU 137 _ rfl) e6 F_starts_kkR (g := (mkF m 72 #[rv a1, own_l (own_p xs p2), .second, iv p3, iv 0, iv (own_c xs p2), rv kkR] [(.ref kkR)])) rfl rfl (hb hby d11_72) _ ?_
   refine XS.iload X6.here hx rfl (hb hby d11_75) rfl ?_
   exact k)
  obtain ⟨cl17, Ar17, q17, S17, n17_, H17, G17⟩ := id A_saR
  have hin17 : ¬ ((own_c xs p2) < 0 ∨ cl17.slots.size ≤ ((own_c xs p2)).toNatClampNeg) := inb_of S17 (own_cb xs p2)
  have hat17 : cl17.slots[((own_c xs p2)).toNatClampNeg]? = some (.int (own_x xs p2)) := Has.at H17 hin17 (own_va xs p2)
  have R18 : own_R p e below T6 (mkF m 78 #[rv a1, own_l (own_p xs p2), .second, iv p3, iv 0, iv (own_c xs p2), rv kkR] [(.int (own_x xs p2))]) s₁ f0 := fun t k => R16 t (X6.iaload hx (j := (own_c xs p2)) (v := (.int (own_x xs p2))) (by rw [e6]; exact Ar17.1) (State.isArrayOf_alike hZ.alike Ar17.2.1) Ar17.2.2 hin17 hat17 (g := (mkF m 77 #[rv a1, own_l (own_p xs p2), .second, iv p3, iv 0, iv (own_c xs p2), rv kkR] [(.int (own_c xs p2)), (.ref saR)])) rfl rfl (hb hby d11_77) _ k)
  have R19 : own_R p e below T6 (mkF m 79 #[rv a1, own_l (own_p xs p2), .second, iv p3, iv 0, iv (own_c xs p2), rv kkR] [(.int p3), (.int (own_x xs p2))]) s₁ f0 := fun t k => R18 t (by
   refine XS.iloadN X6.here hx rfl (hb hby d11_78) rfl ?_
   exact k)
  by_cases hs2 : (own_x xs p2) < p3
  ·
   have R20 : own_R p e below T6 (mkF m 89 #[rv a1, own_l (own_p xs p2), .second, iv p3, iv 0, iv (own_c xs p2), rv kkR] [(.int (own_c xs p2)), (.ref saR)]) s₁ f0 := fun t k => R19 t (by
    refine XS.icmpNo X6.here hx rfl (hb hby d11_79) rfl (tlt hs2).2.1 ?_
    refine XS.aload X6.here hx rfl (hb hby d11_82) rfl rfl ?_
    refine own_getFR X6 hx hZ hown (hU 137 _ rfl) e6 F_starts_kkR (g := (mkF m 84 #[rv a1, own_l (own_p xs p2), .second, iv p3, iv 0, iv (own_c xs p2), rv kkR] [(.ref kkR)])) rfl rfl (hb hby d11_84) _ ?_
    refine XS.iload X6.here hx rfl (hb hby d11_87) rfl ?_
    exact k)
   obtain ⟨cl21, Ar21, q21, S21, n21_, H21, G21⟩ := id A_saR
   have hin21 : ¬ ((own_c xs p2) < 0 ∨ cl21.slots.size ≤ ((own_c xs p2)).toNatClampNeg) := inb_of S21 (own_cb xs p2)
   have hat21 : cl21.slots[((own_c xs p2)).toNatClampNeg]? = some (.int (own_x xs p2)) := Has.at H21 hin21 (own_va xs p2)
   have R22 : own_R p e below T6 (mkF m 90 #[rv a1, own_l (own_p xs p2), .second, iv p3, iv 0, iv (own_c xs p2), rv kkR] [(.int (own_x xs p2))]) s₁ f0 := fun t k => R20 t (X6.iaload hx (j := (own_c xs p2)) (v := (.int (own_x xs p2))) (by rw [e6]; exact Ar21.1) (State.isArrayOf_alike hZ.alike Ar21.2.1) Ar21.2.2 hin21 hat21 (g := (mkF m 89 #[rv a1, own_l (own_p xs p2), .second, iv p3, iv 0, iv (own_c xs p2), rv kkR] [(.int (own_c xs p2)), (.ref saR)])) rfl rfl (hb hby d11_89) _ k)
   have R23 : own_R p e below T6 (mkF m 94 #[rv a1, own_l (own_p xs p2), .second, iv p3, iv 0, iv (own_c xs p2), rv kkR] [(.int (own_x xs p2))]) s₁ f0 := fun t k => R22 t (by
    refine XS.goto X6.here hx rfl (pc0 := 90) (pc' := 94) rfl (hb hby d11_90) (by decide) (by decide) ?_
    exact k)
   obtain ⟨fs, hr, hrun, hended, hW, hsame⟩ := X6.leave (v := some (.int (own_x xs p2))) (fun h => by rw [Bd.returns] at h; cases h)
   refine ⟨_, _, pre0 _ (R23 _ ?_), hrun, hended, _, _, rfl, ?_, ⟨_, rfl⟩, hW, hsame.mono (by decide) (by decide)⟩
   ·
    show own_S p e below T6 (mkF m 94 #[rv a1, own_l (own_p xs p2), .second, iv p3, iv 0, iv (own_c xs p2), rv kkR] [(.int (own_x xs p2))]) _
    exact retI X6 hx Bd.returns (hb hby d11_94) hr
   ·
    show Q_rmFrw Z a1 p2 p3 oR ckR kckR kkR saR kstR xs h0 n0 _ T6.heap _
    rw [e6]
    exact ⟨(by simp [own_fr, own_g, hs1, hs2]), N0, rfl⟩
  ·
   have R24 : own_R p e below T6 (mkF m 94 #[rv a1, own_l (own_p xs p2), .second, iv p3, iv 0, iv (own_c xs p2), rv kkR] [(.int (-1))]) s₁ f0 := fun t k => R19 t (by
    refine XS.icmpYes X6.here hx rfl (pc0 := 79) (pc' := 93) rfl (hb hby d11_79) rfl (flt hs2).2.1 (by decide) (by decide) ?_
    refine XS.iconst X6.here hx rfl (hb hby d11_93) ?_
    exact k)
   obtain ⟨fs, hr, hrun, hended, hW, hsame⟩ := X6.leave (v := some (.int (-1))) (fun h => by rw [Bd.returns] at h; cases h)
   refine ⟨_, _, pre0 _ (R24 _ ?_), hrun, hended, _, _, rfl, ?_, ⟨_, rfl⟩, hW, hsame.mono (by decide) (by decide)⟩
   ·
    show own_S p e below T6 (mkF m 94 #[rv a1, own_l (own_p xs p2), .second, iv p3, iv 0, iv (own_c xs p2), rv kkR] [(.int (-1))]) _
    exact retI X6 hx Bd.returns (hb hby d11_94) hr
   ·
    show Q_rmFrw Z a1 p2 p3 oR ckR kckR kkR saR kstR xs h0 n0 _ T6.heap _
    rw [e6]
    exact ⟨(by simp [own_fr, own_g, hs1, hs2]), N0, rfl⟩
theorem ef_rmIsf (m : MethodId) (x0 : Int64) : entryFrame m #[(.long x0)] 3 = mkF m 0 #[own_l x0, .second, .unset] [] := by first | (simp [entryFrame, mkF, argsToLocals, Value.category]; done) | rfl
def Q_rmIsf (Z : State) (p1 : Int64) (h0 : Heap) (n0 : Nat) (v : Option Value) (h : Heap) (L : List Loc) : Prop := v = some (.int (own_if p1)) ∧ Fr n0 L ∧ h = h0
set_option maxRecDepth 65536 in
set_option maxHeartbeats 40000000 in
theorem rmIsf (l : Launch) (Z : State) (a0 : Array Value) (hw : ∀ d ∈ tables_1, d.before a0 Z = true) (ws : List Jvm.Cond) (p1 : Int64) (h0 : Heap) (n0 : Nat) (Z0 : n0 ≤ h0.size) :
  own_M l yN16 (Jvm.Cond.code yN16 prog_116_method_3_code 3 (some .boolean) :: ws) ({ frames := 0, cells := 0, slots := 0, locals := 0 } : Room) #[(.long p1)] Z h0 (Q_rmIsf Z p1 h0 n0) := by
 refine MetFree.of_bodySF (plainFor_of_name pn_7) hisR ?_
 intro p e s m args below meth c s₁ Bd hml0 hP hK
 obtain ⟨rfl, hZ, hh⟩ := hP
 have hx := Bd.exec
 have hby := Bd.bytes
 have hml : c.maxLocals = 3 := hml0
 have hown : s.vm.findClass sN3 = some m.cls := findClass_of_methodNamed Bd.named
 have hnm := (name_of_methodNamed Bd.named Bd.method).1
 have X0 : Stand p l e ({ frames := 0, cells := 0, slots := 0, locals := 0 } : Room) s m #[(.long p1)] below meth c s₁ [] 0 0 := Stand.of_body Bd
 have hU : ∀ (i : Nat) (d : Jvm.Cond), tables_1[i]? = some d → d.before a0 Z = true := fun i d h => hw d (List.mem_of_getElem? h)
 have e0 : s₁.heap = h0 := by rw [← hh, Bd.state]; rfl
 have N0 := Fr.nil n0
 obtain ⟨f0, hf0⟩ : ∃ f : JFrame, f = mkF m 0 #[own_l p1, .second, .unset] [] := ⟨_, rfl⟩
 have pre0 : ∀ t, own_S p e below s₁ f0 t → Steps p.tables e below (s₁.setTop (entryFrame m #[(.long p1)] 3)) t := fun t k => castTop ((ef_rmIsf m p1).trans hf0.symm) k
 have R0 : own_R p e below s₁ (mkF m 0 #[own_l p1, .second, .unset] []) s₁ f0 := by rw [hf0]; exact fun t k => k
 have R1 : own_R p e below s₁ (mkF m 7 (fA45 p1) [(.int 256), (.int (p1.toInt32))]) s₁ f0 := fun t k => R0 t (by
  refine XS.lloadN X0.here hx rfl (hb hby d9_0) rfl ?_
  refine XS.l2i X0.here hx rfl (hb hby d9_1) rfl ?_
  refine XS.istoreN X0.here hx rfl (hb hby d9_2) rfl (l' := (fA45 p1)) rfl ?_
  refine XS.iloadN X0.here hx rfl (hb hby d9_3) rfl ?_
  refine XS.sipush X0.here hx rfl (hb hby d9_4) ?_
  exact k)
 by_cases hs1 : (p1.toInt32) < (256 : Int32)
 ·
  have R2 : own_R p e below s₁ (mkF m 22 (fA45 p1) [(.int 1)]) s₁ f0 := fun t k => R1 t (by
   refine XS.icmpYes X0.here hx rfl (pc0 := 7) (pc' := 17) rfl (hb hby d9_7) rfl (tlt hs1).1 (by decide) (by decide) ?_
   refine XS.iconst X0.here hx rfl (hb hby d9_17) ?_
   refine XS.goto X0.here hx rfl (pc0 := 18) (pc' := 22) rfl (hb hby d9_18) (by decide) (by decide) ?_
   exact k)
  obtain ⟨fs, hr, hrun, hended, hW, hsame⟩ := X0.leave (v := some (.int 1)) (fun h => by rw [Bd.returns] at h; cases h)
  refine ⟨_, _, pre0 _ (R2 _ ?_), hrun, hended, _, _, rfl, ?_, ⟨_, rfl⟩, hW, hsame.mono (by decide) (by decide)⟩
  ·
   show own_S p e below s₁ (mkF m 22 (fA45 p1) [(.int 1)]) _
   exact retN X0 hx (t := .boolean) Bd.returns (by simp) (hb hby d9_22) hr
  ·
   show Q_rmIsf Z p1 h0 n0 _ s₁.heap _
   rw [e0]
   exact ⟨(by simp [own_if, hs1]), N0, rfl⟩
 ·
  have R3 : own_R p e below s₁ (mkF m 14 (fA45 p1) [(.int ((p1.toInt32) &&& (1073741824 : Int32)))]) s₁ f0 := fun t k => R1 t (by
   refine XS.icmpNo X0.here hx rfl (hb hby d9_7) rfl (flt hs1).1 ?_
   refine XS.iloadN X0.here hx rfl (hb hby d9_10) rfl ?_
   refine X0.ldcInt hx hown (mvT hZ (hU 73 _ rfl)) (g := (mkF m 11 (fA45 p1) [(.int (p1.toInt32))])) rfl (hb hby d9_11) _ ?_
   refine XS.iand X0.here hx rfl (hb hby d9_13) rfl ?_
   exact k)
  by_cases hs2 : ((p1.toInt32) &&& (1073741824 : Int32)) = (0 : Int32)
  ·
   have R4 : own_R p e below s₁ (mkF m 22 (fA45 p1) [(.int 0)]) s₁ f0 := fun t k => R3 t (by
    refine XS.ifYes X0.here hx rfl (pc0 := 14) (pc' := 21) rfl (hb hby d9_14) rfl ((if0 _ _).trans (teq hs2).1) (by decide) (by decide) ?_
    refine XS.iconst X0.here hx rfl (hb hby d9_21) ?_
    exact k)
   obtain ⟨fs, hr, hrun, hended, hW, hsame⟩ := X0.leave (v := some (.int 0)) (fun h => by rw [Bd.returns] at h; cases h)
   refine ⟨_, _, pre0 _ (R4 _ ?_), hrun, hended, _, _, rfl, ?_, ⟨_, rfl⟩, hW, hsame.mono (by decide) (by decide)⟩
   ·
    show own_S p e below s₁ (mkF m 22 (fA45 p1) [(.int 0)]) _
    exact retN X0 hx (t := .boolean) Bd.returns (by simp) (hb hby d9_22) hr
   ·
    show Q_rmIsf Z p1 h0 n0 _ s₁.heap _
    rw [e0]
    exact ⟨(by simp [own_if, hs1, hs2]), N0, rfl⟩
  ·
   have R5 : own_R p e below s₁ (mkF m 22 (fA45 p1) [(.int 1)]) s₁ f0 := fun t k => R3 t (by
    refine XS.ifNo X0.here hx rfl (hb hby d9_14) rfl ((if0 _ _).trans (feq hs2).1) ?_
    refine XS.iconst X0.here hx rfl (hb hby d9_17) ?_
    refine XS.goto X0.here hx rfl (pc0 := 18) (pc' := 22) rfl (hb hby d9_18) (by decide) (by decide) ?_
    exact k)
   obtain ⟨fs, hr, hrun, hended, hW, hsame⟩ := X0.leave (v := some (.int 1)) (fun h => by rw [Bd.returns] at h; cases h)
   refine ⟨_, _, pre0 _ (R5 _ ?_), hrun, hended, _, _, rfl, ?_, ⟨_, rfl⟩, hW, hsame.mono (by decide) (by decide)⟩
   ·
    show own_S p e below s₁ (mkF m 22 (fA45 p1) [(.int 1)]) _
    exact retN X0 hx (t := .boolean) Bd.returns (by simp) (hb hby d9_22) hr
   ·
    show Q_rmIsf Z p1 h0 n0 _ s₁.heap _
    rw [e0]
    exact ⟨(by simp [own_if, hs1, hs2]), N0, rfl⟩
theorem ef_rmMnj (m : MethodId) (x0 : Int64) (x1 : Int64) : entryFrame m #[(.long x0), (.long x1)] 4 = mkF m 0 #[own_l x0, .second, own_l x1, .second] [] := by first | (simp [entryFrame, mkF, argsToLocals, Value.category]; done) | rfl
def Q_rmMnj (Z : State) (p1 : Int64) (p2 : Int64) (h0 : Heap) (n0 : Nat) (v : Option Value) (h : Heap) (L : List Loc) : Prop := v = some (.long (own_mn p1 p2)) ∧ Fr n0 L ∧ h = h0
set_option maxRecDepth 65536 in
set_option maxHeartbeats 40000000 in
theorem rmMnj (l : Launch) (Z : State) (a0 : Array Value) (hw : ∀ d ∈ tables_1, d.before a0 Z = true) (ws : List Jvm.Cond) (p1 : Int64) (p2 : Int64) (h0 : Heap) (n0 : Nat) (Z0 : n0 ≤ h0.size) :
  own_M l yN17 (Jvm.Cond.code yN17 jdk_29_method_70_code 4 (some .long) :: ws) ({ frames := 0, cells := 0, slots := 0, locals := 0 } : Room) #[(.long p1), (.long p2)] Z h0 (Q_rmMnj Z p1 p2 h0 n0) := by
 refine MetFree.of_bodySF (Jvm.Free.JP.mathPlain rfl (by decide +kernel)) hisR ?_
 intro p e s m args below meth c s₁ Bd hml0 hP hK
 obtain ⟨rfl, hZ, hh⟩ := hP
 have hx := Bd.exec
 have hby := Bd.bytes
 have hml : c.maxLocals = 4 := hml0
 have hown : s.vm.findClass "java/lang/Math" = some m.cls := findClass_of_methodNamed Bd.named
 have hnm := (name_of_methodNamed Bd.named Bd.method).1
 have X0 : Stand p l e ({ frames := 0, cells := 0, slots := 0, locals := 0 } : Room) s m #[(.long p1), (.long p2)] below meth c s₁ [] 0 0 := Stand.of_body Bd
 have hU : ∀ (i : Nat) (d : Jvm.Cond), tables_1[i]? = some d → d.before a0 Z = true := fun i d h => hw d (List.mem_of_getElem? h)
 have e0 : s₁.heap = h0 := by rw [← hh, Bd.state]; rfl
 have N0 := Fr.nil n0
 obtain ⟨f0, hf0⟩ : ∃ f : JFrame, f = mkF m 0 (fA52 p1 p2) [] := ⟨_, rfl⟩
 have pre0 : ∀ t, own_S p e below s₁ f0 t → Steps p.tables e below (s₁.setTop (entryFrame m #[(.long p1), (.long p2)] 4)) t := fun t k => castTop ((ef_rmMnj m p1 p2).trans hf0.symm) k
 have R0 : own_R p e below s₁ (mkF m 0 (fA52 p1 p2) []) s₁ f0 := by rw [hf0]; exact fun t k => k
 have R1 : own_R p e below s₁ (mkF m 3 (fA52 p1 p2) [(.int (lcmpW p1 p2))]) s₁ f0 := fun t k => R0 t (by
  refine XS.lloadN X0.here hx rfl (hb hby d21_0) rfl ?_
  refine XS.lloadN X0.here hx rfl (hb hby d21_1) rfl ?_
  refine XS.lcmp X0.here hx rfl (hb hby d21_2) rfl ?_
  exact k)
 by_cases hs1 : (0 : Int32) < (lcmpW p1 p2)
 ·
  have R2 : own_R p e below s₁ (mkF m 11 (fA52 p1 p2) [(.long p2)]) s₁ f0 := fun t k => R1 t (by
   refine XS.ifYes X0.here hx rfl (pc0 := 3) (pc' := 10) rfl (hb hby d21_3) rfl ((if0 _ _).trans (tlt hs1).2.2.1) (by decide) (by decide) ?_
   refine XS.lloadN X0.here hx rfl (hb hby d21_10) rfl ?_
   exact k)
  obtain ⟨fs, hr, hrun, hended, hW, hsame⟩ := X0.leave (v := some (.long p2)) (fun h => by rw [Bd.returns] at h; cases h)
  refine ⟨_, _, pre0 _ (R2 _ ?_), hrun, hended, _, _, rfl, ?_, ⟨_, rfl⟩, hW, hsame.mono (by decide) (by decide)⟩
  ·
   show own_S p e below s₁ (mkF m 11 (fA52 p1 p2) [(.long p2)]) _
   exact retOut X0 hx (t := .long) Bd.returns rfl (Or.inr (Or.inl ⟨rfl, rfl, _, rfl⟩)) (hb hby d21_11) hr
  ·
   show Q_rmMnj Z p1 p2 h0 n0 _ s₁.heap _
   rw [e0]
   exact ⟨(by (try simp only [lw_gt, lw_lt, lw_eq] at hs1); simp [own_mn, hs1]), N0, rfl⟩
 ·
  have R3 : own_R p e below s₁ (mkF m 11 (fA52 p1 p2) [(.long p1)]) s₁ f0 := fun t k => R1 t (by
   refine XS.ifNo X0.here hx rfl (hb hby d21_3) rfl ((if0 _ _).trans (flt hs1).2.2.1) ?_
   refine XS.lloadN X0.here hx rfl (hb hby d21_6) rfl ?_
   refine XS.goto X0.here hx rfl (pc0 := 7) (pc' := 11) rfl (hb hby d21_7) (by decide) (by decide) ?_
   exact k)
  obtain ⟨fs, hr, hrun, hended, hW, hsame⟩ := X0.leave (v := some (.long p1)) (fun h => by rw [Bd.returns] at h; cases h)
  refine ⟨_, _, pre0 _ (R3 _ ?_), hrun, hended, _, _, rfl, ?_, ⟨_, rfl⟩, hW, hsame.mono (by decide) (by decide)⟩
  ·
   show own_S p e below s₁ (mkF m 11 (fA52 p1 p2) [(.long p1)]) _
   exact retOut X0 hx (t := .long) Bd.returns rfl (Or.inr (Or.inl ⟨rfl, rfl, _, rfl⟩)) (hb hby d21_11) hr
  ·
   show Q_rmMnj Z p1 p2 h0 n0 _ s₁.heap _
   rw [e0]
   exact ⟨(by (try simp only [lw_gt, lw_lt, lw_eq] at hs1); simp [own_mn, hs1]), N0, rfl⟩
theorem ef_rmAft (m : MethodId) (x0 : Int32) (x1 : Int32) (x2 : Int32) (x3 : Int64) : entryFrame m #[(.int x0), (.int x1), (.int x2), (.long x3)] 5 = mkF m 0 #[iv x0, iv x1, iv x2, own_l x3, .second] [] := by first | (simp [entryFrame, mkF, argsToLocals, Value.category]; done) | rfl
def Q_rmAft (Z : State) (p1 : Int32) (p2 : Int32) (p3 : Int32) (p4 : Int64) (h0 : Heap) (n0 : Nat) (v : Option Value) (h : Heap) (L : List Loc) : Prop := v = some (.long (own_af p1 p2 p3 p4)) ∧ Fr n0 L ∧ h = h0
set_option maxRecDepth 65536 in
set_option maxHeartbeats 40000000 in
theorem rmAft (l : Launch) (Z : State) (a0 : Array Value) (hw : ∀ d ∈ tables_1, d.before a0 Z = true) (ws : List Jvm.Cond) (p1 : Int32) (p2 : Int32) (p3 : Int32) (p4 : Int64) (h0 : Heap) (n0 : Nat) (Z0 : n0 ≤ h0.size) :
  own_M l yN11 (Jvm.Cond.code yN11 method_2_code 5 (some .long) :: ws) ({ frames := 1, cells := 0, slots := 0, locals := 15 } : Room) #[(.int p1), (.int p2), (.int p3), (.long p4)] Z h0 (Q_rmAft Z p1 p2 p3 p4 h0 n0) := by
 refine MetFree.of_bodySF (plainFor_of_name pn_13) hisR ?_
 intro p e s m args below meth c s₁ Bd hml0 hP hK
 obtain ⟨rfl, hZ, hh⟩ := hP
 have hx := Bd.exec
 have hby := Bd.bytes
 have hml : c.maxLocals = 5 := hml0
 have hown : s.vm.findClass "com/example/theuth/theuth/io/FollowedFirstReadWithinPinLaw" = some m.cls := findClass_of_methodNamed Bd.named
 have hnm := (name_of_methodNamed Bd.named Bd.method).1
 have X0 : Stand p l e ({ frames := 1, cells := 0, slots := 0, locals := 15 } : Room) s m #[(.int p1), (.int p2), (.int p3), (.long p4)] below meth c s₁ [] 0 0 := Stand.of_body Bd
 have hU : ∀ (i : Nat) (d : Jvm.Cond), tables_1[i]? = some d → d.before a0 Z = true := fun i d h => hw d (List.mem_of_getElem? h)
 have e0 : s₁.heap = h0 := by rw [← hh, Bd.state]; rfl
 have N0 := Fr.nil n0
 obtain ⟨f0, hf0⟩ : ∃ f : JFrame, f = mkF m 0 (fA42 p1 p2 p3 p4) [] := ⟨_, rfl⟩
 have pre0 : ∀ t, own_S p e below s₁ f0 t → Steps p.tables e below (s₁.setTop (entryFrame m #[(.int p1), (.int p2), (.int p3), (.long p4)] 5)) t := fun t k => castTop ((ef_rmAft m p1 p2 p3 p4).trans hf0.symm) k
 have R0 : own_R p e below s₁ (mkF m 0 (fA42 p1 p2 p3 p4) []) s₁ f0 := by rw [hf0]; exact fun t k => k
 have R1 : own_R p e below s₁ (mkF m 1 (fA42 p1 p2 p3 p4) [(.int p1)]) s₁ f0 := fun t k => R0 t (by
  refine XS.iloadN X0.here hx rfl (hb hby d10_0) rfl ?_
  exact k)
 by_cases hs1 : p1 = (0 : Int32)
 ·
  have R2 : own_R p e below s₁ (mkF m 17 (fA42 p1 p2 p3 p4) [(.long p4)]) s₁ f0 := fun t k => R1 t (by
   refine XS.ifYes X0.here hx rfl (pc0 := 1) (pc' := 16) rfl (hb hby d10_1) rfl ((if0 _ _).trans (teq hs1).1) (by decide) (by decide) ?_
   refine XS.lloadN X0.here hx rfl (hb hby d10_16) rfl ?_
   exact k)
  obtain ⟨fs, hr, hrun, hended, hW, hsame⟩ := X0.leave (v := some (.long p4)) (fun h => by rw [Bd.returns] at h; cases h)
  refine ⟨_, _, pre0 _ (R2 _ ?_), hrun, hended, _, _, rfl, ?_, ⟨_, rfl⟩, hW, hsame.mono (by decide) (by decide)⟩
  ·
   show own_S p e below s₁ (mkF m 17 (fA42 p1 p2 p3 p4) [(.long p4)]) _
   exact retOut X0 hx (t := .long) Bd.returns rfl (Or.inr (Or.inl ⟨rfl, rfl, _, rfl⟩)) (hb hby d10_17) hr
  ·
   show Q_rmAft Z p1 p2 p3 p4 h0 n0 _ s₁.heap _
   rw [e0]
   exact ⟨(by simp [own_af, hs1]), N0, rfl⟩
 ·
  have R3 : own_R p e below s₁ (mkF m 6 (fA42 p1 p2 p3 p4) [(.int p3), (.int p2)]) s₁ f0 := fun t k => R1 t (by
   refine XS.ifNo X0.here hx rfl (hb hby d10_1) rfl ((if0 _ _).trans (feq hs1).1) ?_
   refine XS.iloadN X0.here hx rfl (hb hby d10_4) rfl ?_
   refine XS.iloadN X0.here hx rfl (hb hby d10_5) rfl ?_
   exact k)
  by_cases hs2 : p3 < p2
  ·
   have R4 : own_R p e below s₁ (mkF m 12 (fA42 p1 p2 p3 p4) [(.long (p2.toInt64)), (.long p4)]) s₁ f0 := fun t k => R3 t (by
    refine XS.icmpNo X0.here hx rfl (hb hby d10_6) rfl (tlt hs2).2.2.2 ?_
    refine XS.lloadN X0.here hx rfl (hb hby d10_9) rfl ?_
    refine XS.iloadN X0.here hx rfl (hb hby d10_10) rfl ?_
    refine XS.i2l X0.here hx rfl (hb hby d10_11) rfl ?_
    exact k)
   obtain ⟨_, _, ⟨T5, L5, k5, n5⟩, -, X5, ⟨Lc5, hQ5, l5, y5, z5⟩, st5⟩ := Jvm.LawKit.callS X0 hx (y := yN17) hown (mvT hZ (hU 134 _ rfl)) (mvT hZ (hU 135 _ rfl)) (mvT hZ (hU 123 _ rfl)) (mvT hZ (hU 136 _ rfl)) (by decide) (backOf (W := 0) (rmMnj l Z a0 hw [] p4 (p2.toInt64) h0 n0 Z0) hZ (hU 136 _ rfl) (hU 123 _ rfl) (by decide) (by decide)) (g := (mkF m 12 (fA42 p1 p2 p3 p4) [(.long (p2.toInt64)), (.long p4)])) rfl (by rw [hml]; rfl) (argsL := [(.long p4), (.long (p2.toInt64))]) (rest := []) (lenOf pd_14 rfl) rfl (Nat.le_of_eq rfl) (hb hby d10_12) (fun _ _ => ⟨rfl, e0, (by decide : 0 + 0 ≤ _), (by decide : 0 + 0 ≤ _)⟩)
   dsimp only [Pt.U, Pt.locs, Pt.cells, Pt.slots] at X5 l5 y5 z5 st5 hQ5
   subst l5 y5 z5
   obtain ⟨rfl, N5q, p5_0⟩ := hQ5
   have N5 := Fr.app N0 N5q
   have R6 := fun t k => R4 t (st5 t k)
   obtain ⟨fs, hr, hrun, hended, hW, hsame⟩ := X5.leave (v := some (.long (own_mn p4 (p2.toInt64)))) (fun h => by rw [Bd.returns] at h; cases h)
   refine ⟨_, _, pre0 _ (R6 _ ?_), hrun, hended, _, _, rfl, ?_, ⟨_, rfl⟩, hW, hsame.mono (by decide) (by decide)⟩
   ·
    show own_S p e below T5 (mkF m 15 (fA42 p1 p2 p3 p4) [(.long (own_mn p4 (p2.toInt64)))]) _
    exact retOut X5 hx (t := .long) Bd.returns rfl (Or.inr (Or.inl ⟨rfl, rfl, _, rfl⟩)) (hb hby d10_15) hr
   ·
    show Q_rmAft Z p1 p2 p3 p4 h0 n0 _ T5.heap _
    rw [p5_0]
    exact ⟨(by simp [own_af, hs1, hs2]), N5, rfl⟩
  ·
   have R7 : own_R p e below s₁ (mkF m 17 (fA42 p1 p2 p3 p4) [(.long p4)]) s₁ f0 := fun t k => R3 t (by
    refine XS.icmpYes X0.here hx rfl (pc0 := 6) (pc' := 16) rfl (hb hby d10_6) rfl (flt hs2).2.2.2 (by decide) (by decide) ?_
    refine XS.lloadN X0.here hx rfl (hb hby d10_16) rfl ?_
    exact k)
   obtain ⟨fs, hr, hrun, hended, hW, hsame⟩ := X0.leave (v := some (.long p4)) (fun h => by rw [Bd.returns] at h; cases h)
   refine ⟨_, _, pre0 _ (R7 _ ?_), hrun, hended, _, _, rfl, ?_, ⟨_, rfl⟩, hW, hsame.mono (by decide) (by decide)⟩
   ·
    show own_S p e below s₁ (mkF m 17 (fA42 p1 p2 p3 p4) [(.long p4)]) _
    exact retOut X0 hx (t := .long) Bd.returns rfl (Or.inr (Or.inl ⟨rfl, rfl, _, rfl⟩)) (hb hby d10_17) hr
   ·
    show Q_rmAft Z p1 p2 p3 p4 h0 n0 _ s₁.heap _
    rw [e0]
    exact ⟨(by simp [own_af, hs1, hs2]), N0, rfl⟩
theorem ef_rmFol (m : MethodId) (x0 : Addr) : entryFrame m #[(.ref x0)] 1 = mkF m 0 #[rv x0] [] := by first | (simp [entryFrame, mkF, argsToLocals, Value.category]; done) | rfl
def Q_rmFol (Z : State) (a1 : Addr) (u1 : Value) (u2 : Value) (h0 : Heap) (n0 : Nat) (v : Option Value) (h : Heap) (L : List Loc) : Prop := ∃ oR : Addr, ∃ fiR : Addr, ∃ kfiR : ClassId, ∃ ckR : Addr, ∃ kckR : ClassId, ∃ kkR : Addr, ∃ saR : Addr, ∃ kstR : ClassId, ∃ enR : Addr, ∃ kenR : ClassId, ∃ itR : Addr, ∃ kitR : ClassId, ∃ oU : Addr, ∃ fiU : Addr, ∃ kfiU : ClassId, ∃ ckU : Addr, ∃ kckU : ClassId, ∃ kkU : Addr, ∃ saU : Addr, ∃ kstU : ClassId, v = none ∧ Fr n0 L ∧ Keep h0 h [a1] ∧ (Fld Z h a1 sN3 "read" sN4 (.ref oR)) ∧ (Fld Z h a1 sN3 "unread" sN4 (.ref oU)) ∧ (Exa Z h oR sN1) ∧ (Fld Z h oR sN1 "chunks" sN2 (.ref ckR)) ∧ (Fld Z h oR sN1 "chunkCount" "I" (.int 1)) ∧ (Fld Z h oR sN1 "firsts" "[I" (.ref fiR)) ∧ (Fld Z h oR sN1 "withItems" "Z" (.int 1)) ∧ (Arv Z h ckR kckR (.object sN0) (1 : Int32) [(.ref kkR)] .null) ∧ (Exa Z h kkR sN0) ∧ (Fld Z h kkR sN0 "size" "I" (.int (own_n []))) ∧ (Fld Z h kkR sN0 "starts" "[I" (.ref saR)) ∧ (Arv Z h fiR kfiR .int 1 [(.int (own_h []))] (.int 0)) ∧ (Arv Z h saR kstR .int 256 (own_v []) (.int 0)) ∧ (Fld Z h kkR sN0 "ends" "[I" (.ref enR)) ∧ (Fld Z h kkR sN0 "items" "[Ljava/lang/Object;" (.ref itR)) ∧ (Arv Z h enR kenR .int 256 (own_e []) (.int 0)) ∧ (Arv Z h itR kitR (.object "java/lang/Object") (256 : Int32) [.null, .null, .null] .null) ∧ (Exa Z h oU sN1) ∧ (Fld Z h oU sN1 "chunks" sN2 (.ref ckU)) ∧ (Fld Z h oU sN1 "chunkCount" "I" (.int 1)) ∧ (Fld Z h oU sN1 "firsts" "[I" (.ref fiU)) ∧ (Fld Z h oU sN1 "withItems" "Z" (.int 0)) ∧ (Arv Z h ckU kckU (.object sN0) (1 : Int32) [(.ref kkU)] .null) ∧ (Exa Z h kkU sN0) ∧ (Fld Z h kkU sN0 "size" "I" (.int (own_n []))) ∧ (Fld Z h kkU sN0 "starts" "[I" (.ref saU)) ∧ (Arv Z h fiU kfiU .int 1 [(.int (own_h []))] (.int 0)) ∧ (Arv Z h saU kstU .int 256 (own_v []) (.int 0)) ∧ (Ovr Z kitR "java/lang/Object") ∧ (h0.size ≤ fiR) ∧ (h0.size ≤ ckR) ∧ (h0.size ≤ saR) ∧ (h0.size ≤ enR) ∧ (h0.size ≤ itR) ∧ (h0.size ≤ fiU) ∧ (h0.size ≤ ckU) ∧ (h0.size ≤ saU) ∧ (h0.size ≤ kkR) ∧ (h0.size ≤ oR) ∧ (h0.size ≤ oU) ∧ (h0.size ≤ kkU) ∧ (fiR ≠ ckR) ∧ (fiR ≠ saR) ∧ (fiR ≠ enR) ∧ (fiR ≠ itR) ∧ (fiR ≠ fiU) ∧ (fiR ≠ ckU) ∧ (fiR ≠ saU) ∧ (ckR ≠ saR) ∧ (ckR ≠ enR) ∧ (ckR ≠ itR) ∧ (ckR ≠ fiU) ∧ (ckR ≠ ckU) ∧ (ckR ≠ saU) ∧ (saR ≠ enR) ∧ (saR ≠ itR) ∧ (saR ≠ fiU) ∧ (saR ≠ ckU) ∧ (saR ≠ saU) ∧ (enR ≠ itR) ∧ (enR ≠ fiU) ∧ (enR ≠ ckU) ∧ (enR ≠ saU) ∧ (itR ≠ fiU) ∧ (itR ≠ ckU) ∧ (itR ≠ saU) ∧ (fiU ≠ ckU) ∧ (fiU ≠ saU) ∧ (ckU ≠ saU) ∧ (oR ≠ oU) ∧ (kkR ≠ kkU)
set_option maxRecDepth 65536 in
set_option maxHeartbeats 40000000 in
theorem rmFol (l : Launch) (Z : State) (a0 : Array Value) (hw : ∀ d ∈ tables_1, d.before a0 Z = true) (ws : List Jvm.Cond) (a1 : Addr) (u1 : Value) (u2 : Value) (h0 : Heap) (n0 : Nat) (Z0 : n0 ≤ h0.size) (E_a1 : Exa Z h0 a1 sN3) (F_read_a1 : Fld Z h0 a1 sN3 "read" sN4 u1) (F_unread_a1 : Fld Z h0 a1 sN3 "unread" sN4 u2) (g_a1 : n0 ≤ a1) :
  own_M l yN18 (Jvm.Cond.code yN18 prog_116_method_1_code 1 none :: ws) ({ frames := 3, cells := 12, slots := 1044, locals := 45 } : Room) #[(.ref a1)] Z h0 (Q_rmFol Z a1 u1 u2 h0 n0) := by
 refine MetFree.of_bodySF (plainFor_of_name pn_7) hisR ?_
 intro p e s m args below meth c s₁ Bd hml0 hP hK
 obtain ⟨rfl, hZ, hh⟩ := hP
 have hx := Bd.exec
 have hby := Bd.bytes
 have hml : c.maxLocals = 1 := hml0
 have hown : s.vm.findClass sN3 = some m.cls := findClass_of_methodNamed Bd.named
 have hnm := (name_of_methodNamed Bd.named Bd.method).1
 have X0 : Stand p l e ({ frames := 3, cells := 12, slots := 1044, locals := 45 } : Room) s m #[(.ref a1)] below meth c s₁ [] 0 0 := Stand.of_body Bd
 have hU : ∀ (i : Nat) (d : Jvm.Cond), tables_1[i]? = some d → d.before a0 Z = true := fun i d h => hw d (List.mem_of_getElem? h)
 have e0 : s₁.heap = h0 := by rw [← hh, Bd.state]; rfl
 have N0 := Fr.nil n0
 obtain ⟨f0, hf0⟩ : ∃ f : JFrame, f = mkF m 0 #[rv a1] [] := ⟨_, rfl⟩
 have pre0 : ∀ t, own_S p e below s₁ f0 t → Steps p.tables e below (s₁.setTop (entryFrame m #[(.ref a1)] 1)) t := fun t k => castTop ((ef_rmFol m a1).trans hf0.symm) k
 have R0 : own_R p e below s₁ (mkF m 0 #[rv a1] []) s₁ f0 := by rw [hf0]; exact fun t k => k
 have R1 : own_R p e below s₁ (mkF m 1 #[rv a1] [(.ref a1)]) s₁ f0 := fun t k => R0 t (by
  refine XS.aloadN X0.here hx rfl (hb hby d1_0) rfl rfl ?_
  exact k)
 obtain ⟨T2, X2, e2, st2⟩ := initO X0 hx hZ hown (hU 6 _ rfl) (hU 7 _ rfl) (hU 8 _ rfl) e0 (g := (mkF m 1 #[rv a1] [(.ref a1)])) rfl (by rw [hml]; rfl) rfl (hb hby d1_1) (by decide) (W := 0) (Nat.le_of_eq rfl) (by decide)
 have R3 := fun t k => R1 t (st2 t k)
 have R4 : own_R p e below T2 (mkF m 5 #[rv a1] [(.ref a1)]) s₁ f0 := fun t k => R3 t (by
  refine XS.aloadN X2.here hx rfl (hb hby d1_4) rfl rfl ?_
  exact k)
 obtain ⟨T5, h5, X5, e5, E5, A5, D5, -, st5⟩ := newO X2 hx hZ hown (hU 9 _ rfl) (hU 10 _ rfl) (hU 11 _ rfl) e2 (g := (mkF m 5 #[rv a1] [(.ref a1)])) rfl (hb hby d1_5) (by decide) (by decide)
 obtain ⟨b5, g5⟩ : ∃ z, z = h0.size := ⟨_, rfl⟩
 rw [← g5] at A5 D5 st5
 have g_b5 : n0 ≤ b5 := Nat.le_trans Z0 (Nat.le_of_eq g5.symm)
 have sz_b5 : h0.size ≤ b5 := Nat.le_trans (Keep.refl h0 [a1]).1 (Nat.le_of_eq g5.symm)
 have ne_a1_b5 : a1 ≠ b5 := Nat.ne_of_lt (Nat.lt_of_lt_of_le E_a1.lt (Nat.le_of_eq g5.symm))
 have f5_E_a1 := E_a1.ext E5
 have f5_F_read_a1 := F_read_a1.ext E5
 have f5_F_unread_a1 := F_unread_a1.ext E5
 have z5 : n0 ≤ h5.size := Nat.le_trans Z0 E5.1
 have K5 : Keep h0 h5 [a1] := (Keep.refl h0 [a1]).ext E5
 have d5_firsts : Fld Z h5 b5 sN1 "firsts" "[I" .null := D5 (Or.inl (hU 18 _ rfl)) (ty := (.array .int)) (by decide)
 have d5_chunkCount : Fld Z h5 b5 sN1 "chunkCount" "I" (.int 0) := D5 (Or.inl (hU 20 _ rfl)) (ty := .int) (by decide)
 have d5_withItems : Fld Z h5 b5 sN1 "withItems" "Z" (.int 0) := D5 (Or.inr (hU 22 _ rfl)) (ty := .boolean) (by decide)
 have d5_chunks : Fld Z h5 b5 sN1 "chunks" sN2 .null := D5 (Or.inl (hU 41 _ rfl)) (ty := (.array (.object sN0))) (by decide)
 have R6 := fun t k => R4 t (st5 t k)
 have R7 : own_R p e below T5 (mkF m 10 #[rv a1] [(.int 1), (.ref b5), (.ref b5), (.ref a1)]) s₁ f0 := fun t k => R6 t (by
  refine XS.dup X5.here hx rfl (hb hby d1_8) rfl rfl ?_
  refine XS.iconst X5.here hx rfl (hb hby d1_9) ?_
  exact k)
 obtain ⟨_, _, ⟨T8, L8, k8, n8⟩, -, X8, ⟨Lc8, hQ8, l8, y8, z8⟩, st8⟩ := X5.specialBack hx (y := yN9) rfl hown (mvT hZ (hU 12 _ rfl)) (mvT hZ (hU 13 _ rfl)) (mvT hZ (hU 14 _ rfl)) (by decide) (backOf (W := 2) (rmOffs1 l Z a0 hw [] b5 (.int 0) .null .null (.int 0) h5 n0 z5 A5 d5_withItems d5_chunks d5_firsts d5_chunkCount g_b5) hZ (hU 14 _ rfl) (hU 11 _ rfl) (by decide) (by decide)) (g := (mkF m 10 #[rv a1] [(.int 1), (.ref b5), (.ref b5), (.ref a1)])) rfl (by rw [hml]; rfl) (Steps.refl _) (a := b5) (argsL := [(.int 1)]) (rest := [(.ref b5), (.ref a1)]) (lenOf pd_2 rfl) rfl (Nat.le_of_eq rfl) (hb hby d1_10) (fun _ _ => ⟨rfl, e5, (by decide : 1 + 6 ≤ _), (by decide : 4 + 774 ≤ _)⟩)
 dsimp only [Pt.U, Pt.locs, Pt.cells, Pt.slots] at X8 l8 y8 z8 st8 hQ8
 subst l8 y8 z8
 obtain ⟨fi_8, kfi_8, ck_8, kck_8, kk_8, sa_8, kst_8, en_8, ken_8, it_8, kit_8, rfl, N8q, p8_0, p8_1, p8_2, p8_3, p8_4, p8_5, p8_6, p8_7, p8_8, p8_9, p8_10, p8_11, p8_12, p8_13, p8_14, p8_15, p8_16, p8_17, p8_18, p8_19, p8_20, p8_21, p8_22, p8_23, p8_24, p8_25, p8_26, p8_27, p8_28, p8_29, p8_30, p8_31⟩ := hQ8
 have N8 := Fr.app N0 N8q
 have f8_E_a1 := f5_E_a1.keep p8_0
 have f8_F_read_a1 := f5_F_read_a1.keep p8_0 (ninS ne_a1_b5 nin0)
 have f8_F_unread_a1 := f5_F_unread_a1.keep p8_0 (ninS ne_a1_b5 nin0)
 have f8_E_b5 := A5.keep p8_0
 have z8 : n0 ≤ T8.heap.size := Nat.le_trans z5 p8_0.1
 have K8 : Keep h0 T8.heap [a1] := K5.trans p8_0 (allS (Or.inr sz_b5) all0)
 have g_fi_8 : n0 ≤ fi_8 := Nat.le_trans z5 p8_16
 have sz_fi_8 : h0.size ≤ fi_8 := Nat.le_trans K5.1 p8_16
 have ne_a1_fi_8 : a1 ≠ fi_8 := Nat.ne_of_lt (Nat.lt_of_lt_of_le f5_F_read_a1.lt p8_16)
 have ne_b5_fi_8 : b5 ≠ fi_8 := Nat.ne_of_lt (Nat.lt_of_lt_of_le d5_firsts.lt p8_16)
 have g_ck_8 : n0 ≤ ck_8 := Nat.le_trans z5 p8_17
 have sz_ck_8 : h0.size ≤ ck_8 := Nat.le_trans K5.1 p8_17
 have ne_a1_ck_8 : a1 ≠ ck_8 := Nat.ne_of_lt (Nat.lt_of_lt_of_le f5_F_read_a1.lt p8_17)
 have ne_b5_ck_8 : b5 ≠ ck_8 := Nat.ne_of_lt (Nat.lt_of_lt_of_le d5_firsts.lt p8_17)
 have g_sa_8 : n0 ≤ sa_8 := Nat.le_trans z5 p8_18
 have sz_sa_8 : h0.size ≤ sa_8 := Nat.le_trans K5.1 p8_18
 have ne_a1_sa_8 : a1 ≠ sa_8 := Nat.ne_of_lt (Nat.lt_of_lt_of_le f5_F_read_a1.lt p8_18)
 have ne_b5_sa_8 : b5 ≠ sa_8 := Nat.ne_of_lt (Nat.lt_of_lt_of_le d5_firsts.lt p8_18)
 have g_en_8 : n0 ≤ en_8 := Nat.le_trans z5 p8_19
 have sz_en_8 : h0.size ≤ en_8 := Nat.le_trans K5.1 p8_19
 have ne_a1_en_8 : a1 ≠ en_8 := Nat.ne_of_lt (Nat.lt_of_lt_of_le f5_F_read_a1.lt p8_19)
 have ne_b5_en_8 : b5 ≠ en_8 := Nat.ne_of_lt (Nat.lt_of_lt_of_le d5_firsts.lt p8_19)
 have g_it_8 : n0 ≤ it_8 := Nat.le_trans z5 p8_20
 have sz_it_8 : h0.size ≤ it_8 := Nat.le_trans K5.1 p8_20
 have ne_a1_it_8 : a1 ≠ it_8 := Nat.ne_of_lt (Nat.lt_of_lt_of_le f5_F_read_a1.lt p8_20)
 have ne_b5_it_8 : b5 ≠ it_8 := Nat.ne_of_lt (Nat.lt_of_lt_of_le d5_firsts.lt p8_20)
 have g_kk_8 : n0 ≤ kk_8 := Nat.le_trans z5 p8_21
 have sz_kk_8 : h0.size ≤ kk_8 := Nat.le_trans K5.1 p8_21
 have ne_a1_kk_8 : a1 ≠ kk_8 := Nat.ne_of_lt (Nat.lt_of_lt_of_le f5_F_read_a1.lt p8_21)
 have ne_b5_kk_8 : b5 ≠ kk_8 := Nat.ne_of_lt (Nat.lt_of_lt_of_le d5_firsts.lt p8_21)
 have R9 := fun t k => R7 t (st8.trans k)
 obtain ⟨T10, h10, X10, e10, W10, st10⟩ := putF X8 hx hZ hown (host := "") (Or.inl (hU 42 _ rfl)) Via.refl rfl f8_F_read_a1 f8_E_a1 (Or.inr ⟨(hU 43 _ rfl), rfl, hnm⟩) (hU 1 _ rfl) (ty := (.object sN1)) (by decide) rfl rfl (g := (mkF m 13 #[rv a1] [(.ref b5), (.ref a1)])) rfl rfl (hb hby d1_13)
 have fw10 : Fld Z h10 a1 sN3 "read" sN4 (.ref b5) := f8_F_read_a1.same W10
 have f10_E_a1 := f8_E_a1.wr W10
 have f10_F_unread_a1 := f8_F_unread_a1.other W10 (Or.inr (slot_ne (Or.inr (hU 45 _ rfl)) (Or.inr (hU 43 _ rfl)) (by decide) (t := (.object sN1)) (t' := (.object sN1)) (by decide) (by decide)))
 have f10_E_b5 := f8_E_b5.wr W10
 have f10_F_withItems_b5 := p8_1.other W10 (Or.inl (Ne.symm ne_a1_b5))
 have f10_F_chunks_b5 := p8_2.other W10 (Or.inl (Ne.symm ne_a1_b5))
 have f10_F_firsts_b5 := p8_3.other W10 (Or.inl (Ne.symm ne_a1_b5))
 have f10_F_chunkCount_b5 := p8_4.other W10 (Or.inl (Ne.symm ne_a1_b5))
 have f10_A_fi_8 := p8_5.other W10 (Ne.symm ne_a1_fi_8)
 have f10_A_ck_8 := p8_6.other W10 (Ne.symm ne_a1_ck_8)
 have f10_E_kk_8 := p8_7.wr W10
 have f10_F_starts_kk_8 := p8_8.other W10 (Or.inl (Ne.symm ne_a1_kk_8))
 have f10_F_ends_kk_8 := p8_9.other W10 (Or.inl (Ne.symm ne_a1_kk_8))
 have f10_F_items_kk_8 := p8_10.other W10 (Or.inl (Ne.symm ne_a1_kk_8))
 have f10_F_size_kk_8 := p8_11.other W10 (Or.inl (Ne.symm ne_a1_kk_8))
 have f10_A_sa_8 := p8_12.other W10 (Ne.symm ne_a1_sa_8)
 have f10_A_en_8 := p8_13.other W10 (Ne.symm ne_a1_en_8)
 have f10_A_it_8 := p8_14.other W10 (Ne.symm ne_a1_it_8)
 have z10 : n0 ≤ h10.size := by rw [W10.size]; exact z8
 have K10 : Keep h0 h10 [a1] := K8.wr W10 (Or.inl (List.mem_of_getElem? (i := 0) rfl))
 have N10 := Fr.snoc X10 N8 g_a1
 have R11 := fun t k => R9 t (st10 t k)
 have R12 : own_R p e below T10 (mkF m 17 #[rv a1] [(.ref a1)]) s₁ f0 := fun t k => R11 t (by
  refine XS.aloadN X10.here hx rfl (hb hby d1_16) rfl rfl ?_
  exact k)
 obtain ⟨T13, h13, X13, e13, E13, A13, D13, -, st13⟩ := newO X10 hx hZ hown (hU 9 _ rfl) (hU 10 _ rfl) (hU 11 _ rfl) e10 (g := (mkF m 17 #[rv a1] [(.ref a1)])) rfl (hb hby d1_17) (by decide) (by decide)
 obtain ⟨b13, g13⟩ : ∃ z, z = h10.size := ⟨_, rfl⟩
 rw [← g13] at A13 D13 st13
 have g_b13 : n0 ≤ b13 := Nat.le_trans z10 (Nat.le_of_eq g13.symm)
 have sz_b13 : h0.size ≤ b13 := Nat.le_trans K10.1 (Nat.le_of_eq g13.symm)
 have ne_a1_b13 : a1 ≠ b13 := Nat.ne_of_lt (Nat.lt_of_lt_of_le f10_E_a1.lt (Nat.le_of_eq g13.symm))
 have ne_b5_b13 : b5 ≠ b13 := Nat.ne_of_lt (Nat.lt_of_lt_of_le f10_E_b5.lt (Nat.le_of_eq g13.symm))
 have ne_fi_8_b13 : fi_8 ≠ b13 := Nat.ne_of_lt (Nat.lt_of_lt_of_le f10_A_fi_8.lt (Nat.le_of_eq g13.symm))
 have ne_ck_8_b13 : ck_8 ≠ b13 := Nat.ne_of_lt (Nat.lt_of_lt_of_le f10_A_ck_8.lt (Nat.le_of_eq g13.symm))
 have ne_kk_8_b13 : kk_8 ≠ b13 := Nat.ne_of_lt (Nat.lt_of_lt_of_le f10_E_kk_8.lt (Nat.le_of_eq g13.symm))
 have ne_sa_8_b13 : sa_8 ≠ b13 := Nat.ne_of_lt (Nat.lt_of_lt_of_le f10_A_sa_8.lt (Nat.le_of_eq g13.symm))
 have ne_en_8_b13 : en_8 ≠ b13 := Nat.ne_of_lt (Nat.lt_of_lt_of_le f10_A_en_8.lt (Nat.le_of_eq g13.symm))
 have ne_it_8_b13 : it_8 ≠ b13 := Nat.ne_of_lt (Nat.lt_of_lt_of_le f10_A_it_8.lt (Nat.le_of_eq g13.symm))
 have f13_E_a1 := f10_E_a1.ext E13
 have f13_F_read_a1 := fw10.ext E13
 have f13_F_unread_a1 := f10_F_unread_a1.ext E13
 have f13_E_b5 := f10_E_b5.ext E13
 have f13_F_withItems_b5 := f10_F_withItems_b5.ext E13
 have f13_F_chunks_b5 := f10_F_chunks_b5.ext E13
 have f13_F_firsts_b5 := f10_F_firsts_b5.ext E13
 have f13_F_chunkCount_b5 := f10_F_chunkCount_b5.ext E13
 have f13_A_fi_8 := f10_A_fi_8.ext E13
 have f13_A_ck_8 := f10_A_ck_8.ext E13
 have f13_E_kk_8 := f10_E_kk_8.ext E13
 have f13_F_starts_kk_8 := f10_F_starts_kk_8.ext E13
 have f13_F_ends_kk_8 := f10_F_ends_kk_8.ext E13
 have f13_F_items_kk_8 := f10_F_items_kk_8.ext E13
 have f13_F_size_kk_8 := f10_F_size_kk_8.ext E13
 have f13_A_sa_8 := f10_A_sa_8.ext E13
 have f13_A_en_8 := f10_A_en_8.ext E13
 have f13_A_it_8 := f10_A_it_8.ext E13
 have z13 : n0 ≤ h13.size := Nat.le_trans z10 E13.1
 have K13 : Keep h0 h13 [a1] := K10.ext E13
 have d13_firsts : Fld Z h13 b13 sN1 "firsts" "[I" .null := D13 (Or.inl (hU 18 _ rfl)) (ty := (.array .int)) (by decide)
 have d13_chunkCount : Fld Z h13 b13 sN1 "chunkCount" "I" (.int 0) := D13 (Or.inl (hU 20 _ rfl)) (ty := .int) (by decide)
 have d13_withItems : Fld Z h13 b13 sN1 "withItems" "Z" (.int 0) := D13 (Or.inr (hU 22 _ rfl)) (ty := .boolean) (by decide)
 have d13_chunks : Fld Z h13 b13 sN1 "chunks" sN2 .null := D13 (Or.inl (hU 41 _ rfl)) (ty := (.array (.object sN0))) (by decide)
 have R14 := fun t k => R12 t (st13 t k)
 have R15 : own_R p e below T13 (mkF m 22 #[rv a1] [(.int 0), (.ref b13), (.ref b13), (.ref a1)]) s₁ f0 := fun t k => R14 t (by
  refine XS.dup X13.here hx rfl (hb hby d1_20) rfl rfl ?_
  refine XS.iconst X13.here hx rfl (hb hby d1_21) ?_
  exact k)
 obtain ⟨_, _, ⟨T16, L16, k16, n16⟩, -, X16, ⟨Lc16, hQ16, l16, y16, z16⟩, st16⟩ := X13.specialBack hx (y := yN9) rfl hown (mvT hZ (hU 12 _ rfl)) (mvT hZ (hU 13 _ rfl)) (mvT hZ (hU 14 _ rfl)) (by decide) (backOf (W := 2) (rmOffs0 l Z a0 hw [] b13 (.int 0) .null .null (.int 0) h13 n0 z13 A13 d13_withItems d13_chunks d13_firsts d13_chunkCount g_b13) hZ (hU 14 _ rfl) (hU 11 _ rfl) (by decide) (by decide)) (g := (mkF m 22 #[rv a1] [(.int 0), (.ref b13), (.ref b13), (.ref a1)])) rfl (by rw [hml]; rfl) (Steps.refl _) (a := b13) (argsL := [(.int 0)]) (rest := [(.ref b13), (.ref a1)]) (lenOf pd_2 rfl) rfl (Nat.le_of_eq rfl) (hb hby d1_22) (fun _ _ => ⟨rfl, e13, (by decide : 8 + 4 ≤ _), (by decide : 782 + 262 ≤ _)⟩)
 dsimp only [Pt.U, Pt.locs, Pt.cells, Pt.slots] at X16 l16 y16 z16 st16 hQ16
 subst l16 y16 z16
 obtain ⟨fi_16, kfi_16, ck_16, kck_16, kk_16, sa_16, kst_16, rfl, N16q, p16_0, p16_1, p16_2, p16_3, p16_4, p16_5, p16_6, p16_7, p16_8, p16_9, p16_10, p16_11, p16_12, p16_13, p16_14, p16_15, p16_16, p16_17, p16_18, p16_19⟩ := hQ16
 have N16 := Fr.app N10 N16q
 have f16_E_a1 := f13_E_a1.keep p16_0
 have f16_F_read_a1 := f13_F_read_a1.keep p16_0 (ninS ne_a1_b13 nin0)
 have f16_F_unread_a1 := f13_F_unread_a1.keep p16_0 (ninS ne_a1_b13 nin0)
 have f16_E_b5 := f13_E_b5.keep p16_0
 have f16_F_withItems_b5 := f13_F_withItems_b5.keep p16_0 (ninS ne_b5_b13 nin0)
 have f16_F_chunks_b5 := f13_F_chunks_b5.keep p16_0 (ninS ne_b5_b13 nin0)
 have f16_F_firsts_b5 := f13_F_firsts_b5.keep p16_0 (ninS ne_b5_b13 nin0)
 have f16_F_chunkCount_b5 := f13_F_chunkCount_b5.keep p16_0 (ninS ne_b5_b13 nin0)
 have f16_A_fi_8 := f13_A_fi_8.keep p16_0 (ninS ne_fi_8_b13 nin0)
 have f16_A_ck_8 := f13_A_ck_8.keep p16_0 (ninS ne_ck_8_b13 nin0)
 have f16_E_kk_8 := f13_E_kk_8.keep p16_0
 have f16_F_starts_kk_8 := f13_F_starts_kk_8.keep p16_0 (ninS ne_kk_8_b13 nin0)
 have f16_F_ends_kk_8 := f13_F_ends_kk_8.keep p16_0 (ninS ne_kk_8_b13 nin0)
 have f16_F_items_kk_8 := f13_F_items_kk_8.keep p16_0 (ninS ne_kk_8_b13 nin0)
 have f16_F_size_kk_8 := f13_F_size_kk_8.keep p16_0 (ninS ne_kk_8_b13 nin0)
 have f16_A_sa_8 := f13_A_sa_8.keep p16_0 (ninS ne_sa_8_b13 nin0)
 have f16_A_en_8 := f13_A_en_8.keep p16_0 (ninS ne_en_8_b13 nin0)
 have f16_A_it_8 := f13_A_it_8.keep p16_0 (ninS ne_it_8_b13 nin0)
 have f16_E_b13 := A13.keep p16_0
 have z16 : n0 ≤ T16.heap.size := Nat.le_trans z13 p16_0.1
 have K16 : Keep h0 T16.heap [a1] := K13.trans p16_0 (allS (Or.inr sz_b13) all0)
 have g_fi_16 : n0 ≤ fi_16 := Nat.le_trans z13 p16_13
 have sz_fi_16 : h0.size ≤ fi_16 := Nat.le_trans K13.1 p16_13
 have ne_a1_fi_16 : a1 ≠ fi_16 := Nat.ne_of_lt (Nat.lt_of_lt_of_le f13_F_read_a1.lt p16_13)
 have ne_b5_fi_16 : b5 ≠ fi_16 := Nat.ne_of_lt (Nat.lt_of_lt_of_le f13_F_withItems_b5.lt p16_13)
 have ne_fi_8_fi_16 : fi_8 ≠ fi_16 := Nat.ne_of_lt (Nat.lt_of_lt_of_le f13_A_fi_8.lt p16_13)
 have ne_ck_8_fi_16 : ck_8 ≠ fi_16 := Nat.ne_of_lt (Nat.lt_of_lt_of_le f13_A_ck_8.lt p16_13)
 have ne_kk_8_fi_16 : kk_8 ≠ fi_16 := Nat.ne_of_lt (Nat.lt_of_lt_of_le f13_F_starts_kk_8.lt p16_13)
 have ne_sa_8_fi_16 : sa_8 ≠ fi_16 := Nat.ne_of_lt (Nat.lt_of_lt_of_le f13_A_sa_8.lt p16_13)
 have ne_en_8_fi_16 : en_8 ≠ fi_16 := Nat.ne_of_lt (Nat.lt_of_lt_of_le f13_A_en_8.lt p16_13)
 have ne_it_8_fi_16 : it_8 ≠ fi_16 := Nat.ne_of_lt (Nat.lt_of_lt_of_le f13_A_it_8.lt p16_13)
 have ne_b13_fi_16 : b13 ≠ fi_16 := Nat.ne_of_lt (Nat.lt_of_lt_of_le d13_firsts.lt p16_13)
 have g_ck_16 : n0 ≤ ck_16 := Nat.le_trans z13 p16_14
 have sz_ck_16 : h0.size ≤ ck_16 := Nat.le_trans K13.1 p16_14
 have ne_a1_ck_16 : a1 ≠ ck_16 := Nat.ne_of_lt (Nat.lt_of_lt_of_le f13_F_read_a1.lt p16_14)
 have ne_b5_ck_16 : b5 ≠ ck_16 := Nat.ne_of_lt (Nat.lt_of_lt_of_le f13_F_withItems_b5.lt p16_14)
 have ne_fi_8_ck_16 : fi_8 ≠ ck_16 := Nat.ne_of_lt (Nat.lt_of_lt_of_le f13_A_fi_8.lt p16_14)
 have ne_ck_8_ck_16 : ck_8 ≠ ck_16 := Nat.ne_of_lt (Nat.lt_of_lt_of_le f13_A_ck_8.lt p16_14)
 have ne_kk_8_ck_16 : kk_8 ≠ ck_16 := Nat.ne_of_lt (Nat.lt_of_lt_of_le f13_F_starts_kk_8.lt p16_14)
 have ne_sa_8_ck_16 : sa_8 ≠ ck_16 := Nat.ne_of_lt (Nat.lt_of_lt_of_le f13_A_sa_8.lt p16_14)
 have ne_en_8_ck_16 : en_8 ≠ ck_16 := Nat.ne_of_lt (Nat.lt_of_lt_of_le f13_A_en_8.lt p16_14)
 have ne_it_8_ck_16 : it_8 ≠ ck_16 := Nat.ne_of_lt (Nat.lt_of_lt_of_le f13_A_it_8.lt p16_14)
 have ne_b13_ck_16 : b13 ≠ ck_16 := Nat.ne_of_lt (Nat.lt_of_lt_of_le d13_firsts.lt p16_14)
 have g_sa_16 : n0 ≤ sa_16 := Nat.le_trans z13 p16_15
 have sz_sa_16 : h0.size ≤ sa_16 := Nat.le_trans K13.1 p16_15
 have ne_a1_sa_16 : a1 ≠ sa_16 := Nat.ne_of_lt (Nat.lt_of_lt_of_le f13_F_read_a1.lt p16_15)
 have ne_b5_sa_16 : b5 ≠ sa_16 := Nat.ne_of_lt (Nat.lt_of_lt_of_le f13_F_withItems_b5.lt p16_15)
 have ne_fi_8_sa_16 : fi_8 ≠ sa_16 := Nat.ne_of_lt (Nat.lt_of_lt_of_le f13_A_fi_8.lt p16_15)
 have ne_ck_8_sa_16 : ck_8 ≠ sa_16 := Nat.ne_of_lt (Nat.lt_of_lt_of_le f13_A_ck_8.lt p16_15)
 have ne_kk_8_sa_16 : kk_8 ≠ sa_16 := Nat.ne_of_lt (Nat.lt_of_lt_of_le f13_F_starts_kk_8.lt p16_15)
 have ne_sa_8_sa_16 : sa_8 ≠ sa_16 := Nat.ne_of_lt (Nat.lt_of_lt_of_le f13_A_sa_8.lt p16_15)
 have ne_en_8_sa_16 : en_8 ≠ sa_16 := Nat.ne_of_lt (Nat.lt_of_lt_of_le f13_A_en_8.lt p16_15)
 have ne_it_8_sa_16 : it_8 ≠ sa_16 := Nat.ne_of_lt (Nat.lt_of_lt_of_le f13_A_it_8.lt p16_15)
 have ne_b13_sa_16 : b13 ≠ sa_16 := Nat.ne_of_lt (Nat.lt_of_lt_of_le d13_firsts.lt p16_15)
 have g_kk_16 : n0 ≤ kk_16 := Nat.le_trans z13 p16_16
 have sz_kk_16 : h0.size ≤ kk_16 := Nat.le_trans K13.1 p16_16
 have ne_a1_kk_16 : a1 ≠ kk_16 := Nat.ne_of_lt (Nat.lt_of_lt_of_le f13_F_read_a1.lt p16_16)
 have ne_b5_kk_16 : b5 ≠ kk_16 := Nat.ne_of_lt (Nat.lt_of_lt_of_le f13_F_withItems_b5.lt p16_16)
 have ne_fi_8_kk_16 : fi_8 ≠ kk_16 := Nat.ne_of_lt (Nat.lt_of_lt_of_le f13_A_fi_8.lt p16_16)
 have ne_ck_8_kk_16 : ck_8 ≠ kk_16 := Nat.ne_of_lt (Nat.lt_of_lt_of_le f13_A_ck_8.lt p16_16)
 have ne_kk_8_kk_16 : kk_8 ≠ kk_16 := Nat.ne_of_lt (Nat.lt_of_lt_of_le f13_F_starts_kk_8.lt p16_16)
 have ne_sa_8_kk_16 : sa_8 ≠ kk_16 := Nat.ne_of_lt (Nat.lt_of_lt_of_le f13_A_sa_8.lt p16_16)
 have ne_en_8_kk_16 : en_8 ≠ kk_16 := Nat.ne_of_lt (Nat.lt_of_lt_of_le f13_A_en_8.lt p16_16)
 have ne_it_8_kk_16 : it_8 ≠ kk_16 := Nat.ne_of_lt (Nat.lt_of_lt_of_le f13_A_it_8.lt p16_16)
 have ne_b13_kk_16 : b13 ≠ kk_16 := Nat.ne_of_lt (Nat.lt_of_lt_of_le d13_firsts.lt p16_16)
 have R17 := fun t k => R15 t (st16.trans k)
 obtain ⟨T18, h18, X18, e18, W18, st18⟩ := putF X16 hx hZ hown (host := "") (Or.inl (hU 44 _ rfl)) Via.refl rfl f16_F_unread_a1 f16_E_a1 (Or.inr ⟨(hU 45 _ rfl), rfl, hnm⟩) (hU 1 _ rfl) (ty := (.object sN1)) (by decide) rfl rfl (g := (mkF m 25 #[rv a1] [(.ref b13), (.ref a1)])) rfl rfl (hb hby d1_25)
 have fw18 : Fld Z h18 a1 sN3 "unread" sN4 (.ref b13) := f16_F_unread_a1.same W18
 have f18_E_a1 := f16_E_a1.wr W18
 have f18_F_read_a1 := f16_F_read_a1.other W18 (Or.inr (slot_ne (Or.inr (hU 43 _ rfl)) (Or.inr (hU 45 _ rfl)) (by decide) (t := (.object sN1)) (t' := (.object sN1)) (by decide) (by decide)))
 have f18_E_b5 := f16_E_b5.wr W18
 have f18_F_withItems_b5 := f16_F_withItems_b5.other W18 (Or.inl (Ne.symm ne_a1_b5))
 have f18_F_chunks_b5 := f16_F_chunks_b5.other W18 (Or.inl (Ne.symm ne_a1_b5))
 have f18_F_firsts_b5 := f16_F_firsts_b5.other W18 (Or.inl (Ne.symm ne_a1_b5))
 have f18_F_chunkCount_b5 := f16_F_chunkCount_b5.other W18 (Or.inl (Ne.symm ne_a1_b5))
 have f18_A_fi_8 := f16_A_fi_8.other W18 (Ne.symm ne_a1_fi_8)
 have f18_A_ck_8 := f16_A_ck_8.other W18 (Ne.symm ne_a1_ck_8)
 have f18_E_kk_8 := f16_E_kk_8.wr W18
 have f18_F_starts_kk_8 := f16_F_starts_kk_8.other W18 (Or.inl (Ne.symm ne_a1_kk_8))
 have f18_F_ends_kk_8 := f16_F_ends_kk_8.other W18 (Or.inl (Ne.symm ne_a1_kk_8))
 have f18_F_items_kk_8 := f16_F_items_kk_8.other W18 (Or.inl (Ne.symm ne_a1_kk_8))
 have f18_F_size_kk_8 := f16_F_size_kk_8.other W18 (Or.inl (Ne.symm ne_a1_kk_8))
 have f18_A_sa_8 := f16_A_sa_8.other W18 (Ne.symm ne_a1_sa_8)
 have f18_A_en_8 := f16_A_en_8.other W18 (Ne.symm ne_a1_en_8)
 have f18_A_it_8 := f16_A_it_8.other W18 (Ne.symm ne_a1_it_8)
 have f18_E_b13 := f16_E_b13.wr W18
 have f18_F_withItems_b13 := p16_1.other W18 (Or.inl (Ne.symm ne_a1_b13))
 have f18_F_chunks_b13 := p16_2.other W18 (Or.inl (Ne.symm ne_a1_b13))
 have f18_F_firsts_b13 := p16_3.other W18 (Or.inl (Ne.symm ne_a1_b13))
 have f18_F_chunkCount_b13 := p16_4.other W18 (Or.inl (Ne.symm ne_a1_b13))
 have f18_A_fi_16 := p16_5.other W18 (Ne.symm ne_a1_fi_16)
 have f18_A_ck_16 := p16_6.other W18 (Ne.symm ne_a1_ck_16)
 have f18_E_kk_16 := p16_7.wr W18
 have f18_F_starts_kk_16 := p16_8.other W18 (Or.inl (Ne.symm ne_a1_kk_16))
 have f18_F_ends_kk_16 := p16_9.other W18 (Or.inl (Ne.symm ne_a1_kk_16))
 have f18_F_items_kk_16 := p16_10.other W18 (Or.inl (Ne.symm ne_a1_kk_16))
 have f18_F_size_kk_16 := p16_11.other W18 (Or.inl (Ne.symm ne_a1_kk_16))
 have f18_A_sa_16 := p16_12.other W18 (Ne.symm ne_a1_sa_16)
 have z18 : n0 ≤ h18.size := by rw [W18.size]; exact z16
 have K18 : Keep h0 h18 [a1] := K16.wr W18 (Or.inl (List.mem_of_getElem? (i := 0) rfl))
 have N18 := Fr.snoc X18 N16 g_a1
 have R19 := fun t k => R17 t (st18 t k)
 obtain ⟨fs, hr, hrun, hended, hW, hsame⟩ := X18.leave (v := none) (fun _ => rfl)
 refine ⟨_, _, pre0 _ (R19 _ ?_), hrun, hended, _, _, rfl, ?_, ⟨_, rfl⟩, hW, hsame.mono (by decide) (by decide)⟩
 ·
  show own_S p e below T18 (mkF m 28 #[rv a1] []) _
  exact X18.returnOut hx Bd.returns (hb hby d1_28) hr
 ·
  show Q_rmFol Z a1 u1 u2 h0 n0 _ T18.heap _
  rw [e18]
  exact ⟨b5, fi_8, kfi_8, ck_8, kck_8, kk_8, sa_8, kst_8, en_8, ken_8, it_8, kit_8, b13, fi_16, kfi_16, ck_16, kck_16, kk_16, sa_16, kst_16, rfl, N18, K18, f18_F_read_a1, fw18, f18_E_b5, f18_F_chunks_b5, f18_F_chunkCount_b5, f18_F_firsts_b5, f18_F_withItems_b5, f18_A_ck_8, f18_E_kk_8, f18_F_size_kk_8, f18_F_starts_kk_8, f18_A_fi_8, f18_A_sa_8, f18_F_ends_kk_8, f18_F_items_kk_8, f18_A_en_8, f18_A_it_8, f18_E_b13, f18_F_chunks_b13, f18_F_chunkCount_b13, f18_F_firsts_b13, f18_F_withItems_b13, f18_A_ck_16, f18_E_kk_16, f18_F_size_kk_16, f18_F_starts_kk_16, f18_A_fi_16, f18_A_sa_16, p8_15, sz_fi_8, sz_ck_8, sz_sa_8, sz_en_8, sz_it_8, sz_fi_16, sz_ck_16, sz_sa_16, sz_kk_8, sz_b5, sz_b13, sz_kk_16, p8_22, p8_23, p8_24, p8_25, ne_fi_8_fi_16, ne_fi_8_ck_16, ne_fi_8_sa_16, p8_26, p8_27, p8_28, ne_ck_8_fi_16, ne_ck_8_ck_16, ne_ck_8_sa_16, p8_29, p8_30, ne_sa_8_fi_16, ne_sa_8_ck_16, ne_sa_8_sa_16, p8_31, ne_en_8_fi_16, ne_en_8_ck_16, ne_en_8_sa_16, ne_it_8_fi_16, ne_it_8_ck_16, ne_it_8_sa_16, p16_17, p16_18, p16_19, ne_b5_b13, ne_kk_8_kk_16⟩
theorem ef_rmVal (m : MethodId) (x0 : Int32) : entryFrame m #[(.int x0)] 1 = mkF m 0 #[iv x0] [] := by first | (simp [entryFrame, mkF, argsToLocals, Value.category]; done) | rfl
def Q_rmVal (Z : State) (ca : Addr) (kca : ClassId) (vsc : List Value) (iv_ : Addr) (h0 : Heap) (n0 : Nat) (v : Option Value) (h : Heap) (L : List Loc) : Prop := v = some (.ref iv_) ∧ Fr n0 L ∧ h = h0
set_option maxRecDepth 65536 in
set_option maxHeartbeats 40000000 in
theorem rmVal (l : Launch) (Z : State) (a0 : Array Value) (hw : ∀ d ∈ tables_1, d.before a0 Z = true) (ws : List Jvm.Cond) (ca : Addr) (kca : ClassId) (vsc : List Value) (iv_ : Addr) (h0 : Heap) (n0 : Nat) (Z0 : n0 ≤ h0.size) (S_Integer_IntegerCache_high : Sta Z h0 "java/lang/Integer$IntegerCache" "high" "I" (.int 127)) (S_Integer_IntegerCache_cache : Sta Z h0 "java/lang/Integer$IntegerCache" "cache" "[Ljava/lang/Integer;" (.ref ca)) (A_ca : Arv Z h0 ca kca (.object "java/lang/Integer") (256 : Int32) vsc .null) (hat : vsc.getD (128 : Int32).toNatClampNeg .null = .ref iv_) :
  own_M l yN19 (Jvm.Cond.code yN19 jdk_33_method_22_code 1 (some (.object "java/lang/Integer")) :: ws) ({ frames := 0, cells := 0, slots := 0, locals := 0 } : Room) #[(.int 0)] Z h0 (Q_rmVal Z ca kca vsc iv_ h0 n0) := by
 refine MetFree.of_bodySF (plainFor_of_name pn_15) hisR ?_
 intro p e s m args below meth c s₁ Bd hml0 hP hK
 obtain ⟨rfl, hZ, hh⟩ := hP
 have hx := Bd.exec
 have hby := Bd.bytes
 have hml : c.maxLocals = 1 := hml0
 have hown : s.vm.findClass "java/lang/Integer" = some m.cls := findClass_of_methodNamed Bd.named
 have hnm := (name_of_methodNamed Bd.named Bd.method).1
 have X0 : Stand p l e ({ frames := 0, cells := 0, slots := 0, locals := 0 } : Room) s m #[(.int 0)] below meth c s₁ [] 0 0 := Stand.of_body Bd
 have hU : ∀ (i : Nat) (d : Jvm.Cond), tables_1[i]? = some d → d.before a0 Z = true := fun i d h => hw d (List.mem_of_getElem? h)
 have e0 : s₁.heap = h0 := by rw [← hh, Bd.state]; rfl
 have N0 := Fr.nil n0
 obtain ⟨f0, hf0⟩ : ∃ f : JFrame, f = mkF m 0 #[iv 0] [] := ⟨_, rfl⟩
 have pre0 : ∀ t, own_S p e below s₁ f0 t → Steps p.tables e below (s₁.setTop (entryFrame m #[(.int 0)] 1)) t := fun t k => castTop ((ef_rmVal m (0 : Int32)).trans hf0.symm) k
 have R0 : own_R p e below s₁ (mkF m 0 #[iv 0] []) s₁ f0 := by rw [hf0]; exact fun t k => k
 have R1 : own_R p e below s₁ (mkF m 7 #[iv 0] [(.int 0)]) s₁ f0 := fun t k => R0 t (by
  refine XS.iloadN X0.here hx rfl (hb hby d5_0) rfl ?_
  refine XS.bipush X0.here hx rfl (hb hby d5_1) ?_
  refine XS.icmpNo X0.here hx rfl (hb hby d5_3) rfl (flt (by decide : ¬ ((0 : Int32) < (-128 : Int32)))).1 ?_
  refine XS.iloadN X0.here hx rfl (hb hby d5_6) rfl ?_
  exact k)
 obtain ⟨T2, X2, e2, st2⟩ := getS2 X0 hx hZ hown (host := "") (Or.inl (hU 50 _ rfl)) Via.refl e0 S_Integer_IntegerCache_high (g := (mkF m 7 #[iv 0] [(.int 0)])) rfl (hb hby d5_7)
 have R3 := fun t k => R1 t (st2 t k)
 have R4 : own_R p e below T2 (mkF m 13 #[iv 0] []) s₁ f0 := fun t k => R3 t (by
  refine XS.icmpNo X2.here hx rfl (hb hby d5_10) rfl (flt (by decide : ¬ ((127 : Int32) < (0 : Int32)))).2.2.1 ?_
  exact k)
 obtain ⟨T5, X5, e5, st5⟩ := getS2 X2 hx hZ hown (host := "") (Or.inl (hU 52 _ rfl)) Via.refl e2 S_Integer_IntegerCache_cache (g := (mkF m 13 #[iv 0] [])) rfl (hb hby d5_13)
 have R6 := fun t k => R4 t (st5 t k)
 have R7 : own_R p e below T5 (mkF m 21 #[iv 0] [(.int 128), (.ref ca)]) s₁ f0 := fun t k => R6 t (by
  refine XS.iloadN X5.here hx rfl (hb hby d5_16) rfl ?_
  refine XS.sipush X5.here hx rfl (hb hby d5_17) ?_
  refine XS.iadd X5.here hx rfl (hb hby d5_20) rfl ?_
  exact k)
 obtain ⟨cl8, Ar8, q8, S8, n8_, H8, G8⟩ := id A_ca
 have hin8 : ¬ ((128 : Int32) < 0 ∨ cl8.slots.size ≤ ((128 : Int32)).toNatClampNeg) := inb_of S8 ⟨by decide, by decide⟩
 have hat8 : cl8.slots[((128 : Int32)).toNatClampNeg]? = some (.ref iv_) := Has.at H8 hin8 hat
 have R9 : own_R p e below T5 (mkF m 22 #[iv 0] [(.ref iv_)]) s₁ f0 := fun t k => R7 t (X5.aaload hx (j := (128 : Int32)) (v := (.ref iv_)) (by rw [e5]; exact Ar8.1) (State.isArrayOf_alike hZ.alike Ar8.2.1) rfl Ar8.2.2 hin8 hat8 (g := (mkF m 21 #[iv 0] [(.int 128), (.ref ca)])) rfl rfl (hb hby d5_21) _ k)
 obtain ⟨fs, hr, hrun, hended, hW, hsame⟩ := X5.leave (v := some (.ref iv_)) (fun h => by rw [Bd.returns] at h; cases h)
 refine ⟨_, _, pre0 _ (R9 _ ?_), hrun, hended, _, _, rfl, ?_, ⟨_, rfl⟩, hW, hsame.mono (by decide) (by decide)⟩
 ·
  show own_S p e below T5 (mkF m 22 #[iv 0] [(.ref iv_)]) _
  exact retOut X5 hx (t := (.object "java/lang/Integer")) Bd.returns rfl (Or.inr (Or.inr (Or.inr (Or.inr ⟨rfl, rfl, rfl⟩)))) (hb hby d5_22) hr
 ·
  show Q_rmVal Z ca kca vsc iv_ h0 n0 _ T5.heap _
  rw [e5]
  exact ⟨rfl, N0, rfl⟩
theorem ef_rmLaw (m : MethodId) (x0 : Int32) (x1 : Int32) (x2 : Int32) (x3 : Int32) (x4 : Int32) (x5 : Int32) : entryFrame m #[(.int x0), (.int x1), (.int x2), (.int x3), (.int x4), (.int x5)] maxLocals = mkF m 0 #[iv x0, iv x1, iv x2, iv x3, iv x4, iv x5, .unset, .unset, .unset, .unset, .unset, .unset, .unset, .unset, .unset, .unset, .unset, .unset, .unset, .unset] [] := by first | (simp [entryFrame, mkF, argsToLocals, Value.category, maxLocals]; done) | rfl
def Q_rmLaw (Z : State) (p0 : Int32) (p1 : Int32) (p2 : Int32) (p3 : Int32) (p4 : Int32) (p5 : Int32) (ca : Addr) (kca : ClassId) (vsc : List Value) (iv_ : Addr) (h0 : Heap) (n0 : Nat) (v : Option Value) (h : Heap) (L : List Loc) : Prop := v = some (.int 1) ∧ Fr n0 L
set_option maxRecDepth 65536 in
set_option maxHeartbeats 40000000 in
theorem rmLaw (l : Launch) (Z : State) (a0 : Array Value) (hw : ∀ d ∈ tables_1, d.before a0 Z = true) (ws : List Jvm.Cond) (p0 : Int32) (p1 : Int32) (p2 : Int32) (p3 : Int32) (p4 : Int32) (p5 : Int32) (ca : Addr) (kca : ClassId) (vsc : List Value) (iv_ : Addr) (h0 : Heap) (n0 : Nat) (Z0 : n0 ≤ h0.size) (S_Integer_IntegerCache_high : Sta Z h0 "java/lang/Integer$IntegerCache" "high" "I" (.int 127)) (S_Integer_IntegerCache_cache : Sta Z h0 "java/lang/Integer$IntegerCache" "cache" "[Ljava/lang/Integer;" (.ref ca)) (A_ca : Arv Z h0 ca kca (.object "java/lang/Integer") (256 : Int32) vsc .null) (E_iv_ : Exa Z h0 iv_ "java/lang/Integer") (hat : vsc.getD (128 : Int32).toNatClampNeg .null = .ref iv_) :
  own_M l x (Jvm.Cond.code x code maxLocals ret :: ws) room_1 #[(.int p0), (.int p1), (.int p2), (.int p3), (.int p4), (.int p5)] Z h0 (Q_rmLaw Z p0 p1 p2 p3 p4 p5 ca kca vsc iv_ h0 n0) := by
 refine MetFree.of_bodySF (plainFor_of_name pn_13) hisR ?_
 intro p e s m args below meth c s₁ Bd hml0 hP hK
 obtain ⟨rfl, hZ, hh⟩ := hP
 have hx := Bd.exec
 have hby := Bd.bytes
 have hml : c.maxLocals = 20 := hml0
 have hown : s.vm.findClass "com/example/theuth/theuth/io/FollowedFirstReadWithinPinLaw" = some m.cls := findClass_of_methodNamed Bd.named
 have hnm := (name_of_methodNamed Bd.named Bd.method).1
 have X0 : Stand p l e room_1 s m #[(.int p0), (.int p1), (.int p2), (.int p3), (.int p4), (.int p5)] below meth c s₁ [] 0 0 := Stand.of_body Bd
 have hU : ∀ (i : Nat) (d : Jvm.Cond), tables_1[i]? = some d → d.before a0 Z = true := fun i d h => hw d (List.mem_of_getElem? h)
 have e0 : s₁.heap = h0 := by rw [← hh, Bd.state]; rfl
 have N0 := Fr.nil n0
 obtain ⟨f0, hf0⟩ : ∃ f : JFrame, f = mkF m 0 (fA33 p0 p1 p2 p3 p4 p5) [] := ⟨_, rfl⟩
 have pre0 : ∀ t, own_S p e below s₁ f0 t → Steps p.tables e below (s₁.setTop (entryFrame m #[(.int p0), (.int p1), (.int p2), (.int p3), (.int p4), (.int p5)] maxLocals)) t := fun t k => castTop ((ef_rmLaw m p0 p1 p2 p3 p4 p5).trans hf0.symm) k
 have R0 : own_R p e below s₁ (mkF m 0 (fA33 p0 p1 p2 p3 p4 p5) []) s₁ f0 := by rw [hf0]; exact fun t k => k
 have R1 : own_R p e below s₁ (mkF m 3 (fA33 p0 p1 p2 p3 p4 p5) [(.int (p0 &&& (3 : Int32)))]) s₁ f0 := fun t k => R0 t (by
  refine XS.iloadN X0.here hx rfl (hb hby at_0) rfl ?_
  refine XS.iconst X0.here hx rfl (hb hby at_1) ?_
  refine XS.iand X0.here hx rfl (hb hby at_2) rfl ?_
  exact k)
 obtain ⟨fl, e_fl⟩ : ∃ z : Int32, z = (p0 &&& (3 : Int32)) := ⟨_, rfl⟩
 have R2 : own_R p e below s₁ (mkF m 3 (fA33 p0 p1 p2 p3 p4 p5) [(.int fl)]) s₁ f0 := by have q := R1; rw [← e_fl] at q; exact q
 have R3 : own_R p e below s₁ (mkF m 10 (fA34 fl p0 p1 p2 p3 p4 p5) [(.int ((p0 >>> ((2 : Int32) &&& 31)) &&& (1 : Int32)))]) s₁ f0 := fun t k => R2 t (by
  refine XS.istore X0.here hx rfl (hb hby at_3) rfl (l' := (fA34 fl p0 p1 p2 p3 p4 p5)) rfl ?_
  refine XS.iloadN X0.here hx rfl (hb hby at_5) rfl ?_
  refine XS.iconst X0.here hx rfl (hb hby at_6) ?_
  refine XS.ishr X0.here hx rfl (hb hby at_7) rfl ?_
  refine XS.iconst X0.here hx rfl (hb hby at_8) ?_
  refine XS.iand X0.here hx rfl (hb hby at_9) rfl ?_
  exact k)
 have R4 : own_R p e below s₁ (mkF m 18 (fA34 fl p0 p1 p2 p3 p4 p5) [(.int (own_b (((p0 >>> ((2 : Int32) &&& 31)) &&& (1 : Int32)) = (0 : Int32))))]) s₁ f0 := by
  intro t k
  refine R3 t ?_
  by_cases hm1 : ((p0 >>> ((2 : Int32) &&& 31)) &&& (1 : Int32)) = (0 : Int32)
  ·
   refine XS.ifNo X0.here hx rfl (hb hby at_10) rfl ((if0 _ _).trans (teq hm1).2) ?_
   refine XS.iconst X0.here hx rfl (hb hby at_13) ?_
   refine XS.goto X0.here hx rfl (pc0 := 14) (pc' := 18) rfl (hb hby at_14) (by decide) (by decide) ?_
   have hv : (own_b (((p0 >>> ((2 : Int32) &&& 31)) &&& (1 : Int32)) = (0 : Int32))) = (1 : Int32) := by simp [own_b, hm1]
   rw [hv] at k
   exact k
  ·
   refine XS.ifYes X0.here hx rfl (pc0 := 10) (pc' := 17) rfl (hb hby at_10) rfl ((if0 _ _).trans (feq hm1).2) (by decide) (by decide) ?_
   refine XS.iconst X0.here hx rfl (hb hby at_17) ?_
   have hv : (own_b (((p0 >>> ((2 : Int32) &&& 31)) &&& (1 : Int32)) = (0 : Int32))) = (0 : Int32) := by simp [own_b, hm1]
   rw [hv] at k
   exact k
 obtain ⟨rx, e_rx⟩ : ∃ z : Int32, z = (own_b (((p0 >>> ((2 : Int32) &&& 31)) &&& (1 : Int32)) = (0 : Int32))) := ⟨_, rfl⟩
 have R5 : own_R p e below s₁ (mkF m 18 (fA34 fl p0 p1 p2 p3 p4 p5) [(.int rx)]) s₁ f0 := by have q := R4; rw [← e_rx] at q; exact q
 have R6 : own_R p e below s₁ (mkF m 25 (fA36 fl p0 p1 p2 p3 p4 p5 rx) [(.int ((p0 >>> ((3 : Int32) &&& 31)) &&& (1 : Int32)))]) s₁ f0 := fun t k => R5 t (by
  refine XS.istore X0.here hx rfl (hb hby at_18) rfl (l' := (fA36 fl p0 p1 p2 p3 p4 p5 rx)) rfl ?_
  refine XS.iloadN X0.here hx rfl (hb hby at_20) rfl ?_
  refine XS.iconst X0.here hx rfl (hb hby at_21) ?_
  refine XS.ishr X0.here hx rfl (hb hby at_22) rfl ?_
  refine XS.iconst X0.here hx rfl (hb hby at_23) ?_
  refine XS.iand X0.here hx rfl (hb hby at_24) rfl ?_
  exact k)
 have R7 : own_R p e below s₁ (mkF m 33 (fA36 fl p0 p1 p2 p3 p4 p5 rx) [(.int (own_b (((p0 >>> ((3 : Int32) &&& 31)) &&& (1 : Int32)) = (0 : Int32))))]) s₁ f0 := by
  intro t k
  refine R6 t ?_
  by_cases hm1 : ((p0 >>> ((3 : Int32) &&& 31)) &&& (1 : Int32)) = (0 : Int32)
  ·
   refine XS.ifNo X0.here hx rfl (hb hby at_25) rfl ((if0 _ _).trans (teq hm1).2) ?_
   refine XS.iconst X0.here hx rfl (hb hby at_28) ?_
   refine XS.goto X0.here hx rfl (pc0 := 29) (pc' := 33) rfl (hb hby at_29) (by decide) (by decide) ?_
   have hv : (own_b (((p0 >>> ((3 : Int32) &&& 31)) &&& (1 : Int32)) = (0 : Int32))) = (1 : Int32) := by simp [own_b, hm1]
   rw [hv] at k
   exact k
  ·
   refine XS.ifYes X0.here hx rfl (pc0 := 25) (pc' := 32) rfl (hb hby at_25) rfl ((if0 _ _).trans (feq hm1).2) (by decide) (by decide) ?_
   refine XS.iconst X0.here hx rfl (hb hby at_32) ?_
   have hv : (own_b (((p0 >>> ((3 : Int32) &&& 31)) &&& (1 : Int32)) = (0 : Int32))) = (0 : Int32) := by simp [own_b, hm1]
   rw [hv] at k
   exact k
 obtain ⟨ry, e_ry⟩ : ∃ z : Int32, z = (own_b (((p0 >>> ((3 : Int32) &&& 31)) &&& (1 : Int32)) = (0 : Int32))) := ⟨_, rfl⟩
 have R8 : own_R p e below s₁ (mkF m 33 (fA36 fl p0 p1 p2 p3 p4 p5 rx) [(.int ry)]) s₁ f0 := by have q := R7; rw [← e_ry] at q; exact q
 have R9 : own_R p e below s₁ (mkF m 40 (fA37 fl p0 p1 p2 p3 p4 p5 rx ry) [(.int ((p0 >>> ((4 : Int32) &&& 31)) &&& (1 : Int32)))]) s₁ f0 := fun t k => R8 t (by
  refine XS.istore X0.here hx rfl (hb hby at_33) rfl (l' := (fA37 fl p0 p1 p2 p3 p4 p5 rx ry)) rfl ?_
  refine XS.iloadN X0.here hx rfl (hb hby at_35) rfl ?_
  refine XS.iconst X0.here hx rfl (hb hby at_36) ?_
  refine XS.ishr X0.here hx rfl (hb hby at_37) rfl ?_
  refine XS.iconst X0.here hx rfl (hb hby at_38) ?_
  refine XS.iand X0.here hx rfl (hb hby at_39) rfl ?_
  exact k)
 have R10 : own_R p e below s₁ (mkF m 48 (fA37 fl p0 p1 p2 p3 p4 p5 rx ry) [(.int (own_b (((p0 >>> ((4 : Int32) &&& 31)) &&& (1 : Int32)) = (0 : Int32))))]) s₁ f0 := by
  intro t k
  refine R9 t ?_
  by_cases hm1 : ((p0 >>> ((4 : Int32) &&& 31)) &&& (1 : Int32)) = (0 : Int32)
  ·
   refine XS.ifNo X0.here hx rfl (hb hby at_40) rfl ((if0 _ _).trans (teq hm1).2) ?_
   refine XS.iconst X0.here hx rfl (hb hby at_43) ?_
   refine XS.goto X0.here hx rfl (pc0 := 44) (pc' := 48) rfl (hb hby at_44) (by decide) (by decide) ?_
   have hv : (own_b (((p0 >>> ((4 : Int32) &&& 31)) &&& (1 : Int32)) = (0 : Int32))) = (1 : Int32) := by simp [own_b, hm1]
   rw [hv] at k
   exact k
  ·
   refine XS.ifYes X0.here hx rfl (pc0 := 40) (pc' := 47) rfl (hb hby at_40) rfl ((if0 _ _).trans (feq hm1).2) (by decide) (by decide) ?_
   refine XS.iconst X0.here hx rfl (hb hby at_47) ?_
   have hv : (own_b (((p0 >>> ((4 : Int32) &&& 31)) &&& (1 : Int32)) = (0 : Int32))) = (0 : Int32) := by simp [own_b, hm1]
   rw [hv] at k
   exact k
 obtain ⟨rz, e_rz⟩ : ∃ z : Int32, z = (own_b (((p0 >>> ((4 : Int32) &&& 31)) &&& (1 : Int32)) = (0 : Int32))) := ⟨_, rfl⟩
 have R11 : own_R p e below s₁ (mkF m 48 (fA37 fl p0 p1 p2 p3 p4 p5 rx ry) [(.int rz)]) s₁ f0 := by have q := R10; rw [← e_rz] at q; exact q
 have R12 : own_R p e below s₁ (mkF m 53 (fA26 fl p0 p1 p2 p3 p4 p5 rx ry rz) [(.int 1), (.int fl)]) s₁ f0 := fun t k => R11 t (by
  refine XS.istore X0.here hx rfl (hb hby at_48) rfl (l' := (fA26 fl p0 p1 p2 p3 p4 p5 rx ry rz)) rfl ?_
  refine XS.iload X0.here hx rfl (hb hby at_50) rfl ?_
  refine XS.iconst X0.here hx rfl (hb hby at_52) ?_
  exact k)
 have R13 : own_R p e below s₁ (mkF m 72 (fA26 fl p0 p1 p2 p3 p4 p5 rx ry rz) [(.int (own_ax fl rx p1))]) s₁ f0 := by
  intro t k
  refine R12 t ?_
  by_cases hm1 : fl < (1 : Int32)
  ·
   refine XS.icmpYes X0.here hx rfl (pc0 := 53) (pc' := 71) rfl (hb hby at_53) rfl (tlt hm1).1 (by decide) (by decide) ?_
   refine XS.iconst X0.here hx rfl (hb hby at_71) ?_
   have hv : (own_ax fl rx p1) = (0 : Int32) := by unfold own_ax; try (first | rw [if_pos hm1] | rw [if_neg hm1])
   rw [hv] at k
   exact k
  ·
   refine XS.icmpNo X0.here hx rfl (hb hby at_53) rfl (flt hm1).1 ?_
   refine XS.iload X0.here hx rfl (hb hby at_56) rfl ?_
   by_cases hm2 : rx = (0 : Int32)
   ·
    refine XS.ifYes X0.here hx rfl (pc0 := 58) (pc' := 67) rfl (hb hby at_58) rfl ((if0 _ _).trans (teq hm2).1) (by decide) (by decide) ?_
    refine XS.iconst X0.here hx rfl (hb hby at_67) ?_
    refine XS.goto X0.here hx rfl (pc0 := 68) (pc' := 72) rfl (hb hby at_68) (by decide) (by decide) ?_
    have hv : (own_ax fl rx p1) = (1 : Int32) := by unfold own_ax; try (first | rw [if_pos hm1] | rw [if_neg hm1]); try (first | rw [if_pos hm2] | rw [if_neg hm2])
    rw [hv] at k
    exact k
   ·
    refine XS.ifNo X0.here hx rfl (hb hby at_58) rfl ((if0 _ _).trans (feq hm2).1) ?_
    refine XS.iloadN X0.here hx rfl (hb hby at_61) rfl ?_
    refine X0.ldcInt hx hown (mvT hZ (hU 125 _ rfl)) (g := (mkF m 62 (fA26 fl p0 p1 p2 p3 p4 p5 rx ry rz) [(.int p1)])) rfl (hb hby at_62) _ ?_
    by_cases hm3 : p1 = (2147483647 : Int32)
    ·
     refine XS.icmpYes X0.here hx rfl (pc0 := 64) (pc' := 71) rfl (hb hby at_64) rfl (teq hm3).1 (by decide) (by decide) ?_
     refine XS.iconst X0.here hx rfl (hb hby at_71) ?_
     have hv : (own_ax fl rx p1) = (0 : Int32) := by unfold own_ax; try (first | rw [if_pos hm1] | rw [if_neg hm1]); try (first | rw [if_pos hm2] | rw [if_neg hm2]); try (first | rw [if_pos hm3] | rw [if_neg hm3])
     rw [hv] at k
     exact k
    ·
     refine XS.icmpNo X0.here hx rfl (hb hby at_64) rfl (feq hm3).1 ?_
     refine XS.iconst X0.here hx rfl (hb hby at_67) ?_
     refine XS.goto X0.here hx rfl (pc0 := 68) (pc' := 72) rfl (hb hby at_68) (by decide) (by decide) ?_
     have hv : (own_ax fl rx p1) = (1 : Int32) := by unfold own_ax; try (first | rw [if_pos hm1] | rw [if_neg hm1]); try (first | rw [if_pos hm2] | rw [if_neg hm2]); try (first | rw [if_pos hm3] | rw [if_neg hm3])
     rw [hv] at k
     exact k
 obtain ⟨ax, e_ax⟩ : ∃ z : Int32, z = (own_ax fl rx p1) := ⟨_, rfl⟩
 have R14 : own_R p e below s₁ (mkF m 72 (fA26 fl p0 p1 p2 p3 p4 p5 rx ry rz) [(.int ax)]) s₁ f0 := by have q := R13; rw [← e_ax] at q; exact q
 have R15 : own_R p e below s₁ (mkF m 77 (fA27 ax fl p0 p1 p2 p3 p4 p5 rx ry rz) [(.int 2), (.int fl)]) s₁ f0 := fun t k => R14 t (by
  refine XS.istore X0.here hx rfl (hb hby at_72) rfl (l' := (fA27 ax fl p0 p1 p2 p3 p4 p5 rx ry rz)) rfl ?_
  refine XS.iload X0.here hx rfl (hb hby at_74) rfl ?_
  refine XS.iconst X0.here hx rfl (hb hby at_76) ?_
  exact k)
 have R16 : own_R p e below s₁ (mkF m 106 (fA27 ax fl p0 p1 p2 p3 p4 p5 rx ry rz) [(.int (own_ay fl ry p2 ax p1))]) s₁ f0 := by
  intro t k
  refine R15 t ?_
  by_cases hm1 : fl < (2 : Int32)
  ·
   refine XS.icmpYes X0.here hx rfl (pc0 := 77) (pc' := 105) rfl (hb hby at_77) rfl (tlt hm1).1 (by decide) (by decide) ?_
   refine XS.iconst X0.here hx rfl (hb hby at_105) ?_
   have hv : (own_ay fl ry p2 ax p1) = (0 : Int32) := by unfold own_ay; try (first | rw [if_pos hm1] | rw [if_neg hm1])
   rw [hv] at k
   exact k
  ·
   refine XS.icmpNo X0.here hx rfl (hb hby at_77) rfl (flt hm1).1 ?_
   refine XS.iload X0.here hx rfl (hb hby at_80) rfl ?_
   by_cases hm2 : ry = (0 : Int32)
   ·
    refine XS.ifYes X0.here hx rfl (pc0 := 82) (pc' := 91) rfl (hb hby at_82) rfl ((if0 _ _).trans (teq hm2).1) (by decide) (by decide) ?_
    refine XS.iload X0.here hx rfl (hb hby at_91) rfl ?_
    by_cases hm3 : ax = (0 : Int32)
    ·
     refine XS.ifYes X0.here hx rfl (pc0 := 93) (pc' := 101) rfl (hb hby at_93) rfl ((if0 _ _).trans (teq hm3).1) (by decide) (by decide) ?_
     refine XS.iconst X0.here hx rfl (hb hby at_101) ?_
     refine XS.goto X0.here hx rfl (pc0 := 102) (pc' := 106) rfl (hb hby at_102) (by decide) (by decide) ?_
     have hv : (own_ay fl ry p2 ax p1) = (1 : Int32) := by unfold own_ay; try (first | rw [if_pos hm1] | rw [if_neg hm1]); try (first | rw [if_pos hm2] | rw [if_neg hm2]); try (first | rw [if_pos hm3] | rw [if_neg hm3])
     rw [hv] at k
     exact k
    ·
     refine XS.ifNo X0.here hx rfl (hb hby at_93) rfl ((if0 _ _).trans (feq hm3).1) ?_
     refine XS.iloadN X0.here hx rfl (hb hby at_96) rfl ?_
     refine XS.iloadN X0.here hx rfl (hb hby at_97) rfl ?_
     by_cases hm4 : p2 = p1
     ·
      refine XS.icmpYes X0.here hx rfl (pc0 := 98) (pc' := 105) rfl (hb hby at_98) rfl (teq hm4).1 (by decide) (by decide) ?_
      refine XS.iconst X0.here hx rfl (hb hby at_105) ?_
      have hv : (own_ay fl ry p2 ax p1) = (0 : Int32) := by unfold own_ay; try (first | rw [if_pos hm1] | rw [if_neg hm1]); try (first | rw [if_pos hm2] | rw [if_neg hm2]); try (first | rw [if_pos hm3] | rw [if_neg hm3]); try (first | rw [if_pos hm4] | rw [if_neg hm4])
      rw [hv] at k
      exact k
     ·
      refine XS.icmpNo X0.here hx rfl (hb hby at_98) rfl (feq hm4).1 ?_
      refine XS.iconst X0.here hx rfl (hb hby at_101) ?_
      refine XS.goto X0.here hx rfl (pc0 := 102) (pc' := 106) rfl (hb hby at_102) (by decide) (by decide) ?_
      have hv : (own_ay fl ry p2 ax p1) = (1 : Int32) := by unfold own_ay; try (first | rw [if_pos hm1] | rw [if_neg hm1]); try (first | rw [if_pos hm2] | rw [if_neg hm2]); try (first | rw [if_pos hm3] | rw [if_neg hm3]); try (first | rw [if_pos hm4] | rw [if_neg hm4])
      rw [hv] at k
      exact k
   ·
    refine XS.ifNo X0.here hx rfl (hb hby at_82) rfl ((if0 _ _).trans (feq hm2).1) ?_
    refine XS.iloadN X0.here hx rfl (hb hby at_85) rfl ?_
    refine X0.ldcInt hx hown (mvT hZ (hU 125 _ rfl)) (g := (mkF m 86 (fA27 ax fl p0 p1 p2 p3 p4 p5 rx ry rz) [(.int p2)])) rfl (hb hby at_86) _ ?_
    by_cases hm5 : p2 = (2147483647 : Int32)
    ·
     refine XS.icmpYes X0.here hx rfl (pc0 := 88) (pc' := 105) rfl (hb hby at_88) rfl (teq hm5).1 (by decide) (by decide) ?_
     refine XS.iconst X0.here hx rfl (hb hby at_105) ?_
     have hv : (own_ay fl ry p2 ax p1) = (0 : Int32) := by unfold own_ay; try (first | rw [if_pos hm1] | rw [if_neg hm1]); try (first | rw [if_pos hm2] | rw [if_neg hm2]); try (first | rw [if_pos hm5] | rw [if_neg hm5])
     rw [hv] at k
     exact k
    ·
     refine XS.icmpNo X0.here hx rfl (hb hby at_88) rfl (feq hm5).1 ?_
     refine XS.iload X0.here hx rfl (hb hby at_91) rfl ?_
     by_cases hm6 : ax = (0 : Int32)
     ·
      refine XS.ifYes X0.here hx rfl (pc0 := 93) (pc' := 101) rfl (hb hby at_93) rfl ((if0 _ _).trans (teq hm6).1) (by decide) (by decide) ?_
      refine XS.iconst X0.here hx rfl (hb hby at_101) ?_
      refine XS.goto X0.here hx rfl (pc0 := 102) (pc' := 106) rfl (hb hby at_102) (by decide) (by decide) ?_
      have hv : (own_ay fl ry p2 ax p1) = (1 : Int32) := by unfold own_ay; try (first | rw [if_pos hm1] | rw [if_neg hm1]); try (first | rw [if_pos hm2] | rw [if_neg hm2]); try (first | rw [if_pos hm5] | rw [if_neg hm5]); try (first | rw [if_pos hm6] | rw [if_neg hm6])
      rw [hv] at k
      exact k
     ·
      refine XS.ifNo X0.here hx rfl (hb hby at_93) rfl ((if0 _ _).trans (feq hm6).1) ?_
      refine XS.iloadN X0.here hx rfl (hb hby at_96) rfl ?_
      refine XS.iloadN X0.here hx rfl (hb hby at_97) rfl ?_
      by_cases hm7 : p2 = p1
      ·
       refine XS.icmpYes X0.here hx rfl (pc0 := 98) (pc' := 105) rfl (hb hby at_98) rfl (teq hm7).1 (by decide) (by decide) ?_
       refine XS.iconst X0.here hx rfl (hb hby at_105) ?_
       have hv : (own_ay fl ry p2 ax p1) = (0 : Int32) := by unfold own_ay; try (first | rw [if_pos hm1] | rw [if_neg hm1]); try (first | rw [if_pos hm2] | rw [if_neg hm2]); try (first | rw [if_pos hm5] | rw [if_neg hm5]); try (first | rw [if_pos hm6] | rw [if_neg hm6]); try (first | rw [if_pos hm7] | rw [if_neg hm7])
       rw [hv] at k
       exact k
      ·
       refine XS.icmpNo X0.here hx rfl (hb hby at_98) rfl (feq hm7).1 ?_
       refine XS.iconst X0.here hx rfl (hb hby at_101) ?_
       refine XS.goto X0.here hx rfl (pc0 := 102) (pc' := 106) rfl (hb hby at_102) (by decide) (by decide) ?_
       have hv : (own_ay fl ry p2 ax p1) = (1 : Int32) := by unfold own_ay; try (first | rw [if_pos hm1] | rw [if_neg hm1]); try (first | rw [if_pos hm2] | rw [if_neg hm2]); try (first | rw [if_pos hm5] | rw [if_neg hm5]); try (first | rw [if_pos hm6] | rw [if_neg hm6]); try (first | rw [if_pos hm7] | rw [if_neg hm7])
       rw [hv] at k
       exact k
 obtain ⟨ay, e_ay⟩ : ∃ z : Int32, z = (own_ay fl ry p2 ax p1) := ⟨_, rfl⟩
 have R17 : own_R p e below s₁ (mkF m 106 (fA27 ax fl p0 p1 p2 p3 p4 p5 rx ry rz) [(.int ay)]) s₁ f0 := by have q := R16; rw [← e_ay] at q; exact q
 have R18 : own_R p e below s₁ (mkF m 111 (fA28 ax ay fl p0 p1 p2 p3 p4 p5 rx ry rz) [(.int 3), (.int fl)]) s₁ f0 := fun t k => R17 t (by
  refine XS.istore X0.here hx rfl (hb hby at_106) rfl (l' := (fA28 ax ay fl p0 p1 p2 p3 p4 p5 rx ry rz)) rfl ?_
  refine XS.iload X0.here hx rfl (hb hby at_108) rfl ?_
  refine XS.iconst X0.here hx rfl (hb hby at_110) ?_
  exact k)
 have R19 : own_R p e below s₁ (mkF m 150 (fA28 ax ay fl p0 p1 p2 p3 p4 p5 rx ry rz) [(.int (own_az fl rz p3 ax p1 ay p2))]) s₁ f0 := by
  intro t k
  refine R18 t ?_
  by_cases hm1 : fl < (3 : Int32)
  ·
   refine XS.icmpYes X0.here hx rfl (pc0 := 111) (pc' := 149) rfl (hb hby at_111) rfl (tlt hm1).1 (by decide) (by decide) ?_
   refine XS.iconst X0.here hx rfl (hb hby at_149) ?_
   have hv : (own_az fl rz p3 ax p1 ay p2) = (0 : Int32) := by unfold own_az; try (first | rw [if_pos hm1] | rw [if_neg hm1])
   rw [hv] at k
   exact k
  ·
   refine XS.icmpNo X0.here hx rfl (hb hby at_111) rfl (flt hm1).1 ?_
   refine XS.iload X0.here hx rfl (hb hby at_114) rfl ?_
   by_cases hm2 : rz = (0 : Int32)
   ·
    refine XS.ifYes X0.here hx rfl (pc0 := 116) (pc' := 125) rfl (hb hby at_116) rfl ((if0 _ _).trans (teq hm2).1) (by decide) (by decide) ?_
    refine XS.iload X0.here hx rfl (hb hby at_125) rfl ?_
    by_cases hm3 : ax = (0 : Int32)
    ·
     refine XS.ifYes X0.here hx rfl (pc0 := 127) (pc' := 135) rfl (hb hby at_127) rfl ((if0 _ _).trans (teq hm3).1) (by decide) (by decide) ?_
     refine XS.iload X0.here hx rfl (hb hby at_135) rfl ?_
     by_cases hm4 : ay = (0 : Int32)
     ·
      refine XS.ifYes X0.here hx rfl (pc0 := 137) (pc' := 145) rfl (hb hby at_137) rfl ((if0 _ _).trans (teq hm4).1) (by decide) (by decide) ?_
      refine XS.iconst X0.here hx rfl (hb hby at_145) ?_
      refine XS.goto X0.here hx rfl (pc0 := 146) (pc' := 150) rfl (hb hby at_146) (by decide) (by decide) ?_
      have hv : (own_az fl rz p3 ax p1 ay p2) = (1 : Int32) := by unfold own_az; try (first | rw [if_pos hm1] | rw [if_neg hm1]); try (first | rw [if_pos hm2] | rw [if_neg hm2]); try (first | rw [if_pos hm3] | rw [if_neg hm3]); try (first | rw [if_pos hm4] | rw [if_neg hm4])
      rw [hv] at k
      exact k
     ·
      refine XS.ifNo X0.here hx rfl (hb hby at_137) rfl ((if0 _ _).trans (feq hm4).1) ?_
      refine XS.iloadN X0.here hx rfl (hb hby at_140) rfl ?_
      refine XS.iloadN X0.here hx rfl (hb hby at_141) rfl ?_
      by_cases hm5 : p3 = p2
      ·
       refine XS.icmpYes X0.here hx rfl (pc0 := 142) (pc' := 149) rfl (hb hby at_142) rfl (teq hm5).1 (by decide) (by decide) ?_
       refine XS.iconst X0.here hx rfl (hb hby at_149) ?_
       have hv : (own_az fl rz p3 ax p1 ay p2) = (0 : Int32) := by unfold own_az; try (first | rw [if_pos hm1] | rw [if_neg hm1]); try (first | rw [if_pos hm2] | rw [if_neg hm2]); try (first | rw [if_pos hm3] | rw [if_neg hm3]); try (first | rw [if_pos hm4] | rw [if_neg hm4]); try (first | rw [if_pos hm5] | rw [if_neg hm5])
       rw [hv] at k
       exact k
      ·
       refine XS.icmpNo X0.here hx rfl (hb hby at_142) rfl (feq hm5).1 ?_
       refine XS.iconst X0.here hx rfl (hb hby at_145) ?_
       refine XS.goto X0.here hx rfl (pc0 := 146) (pc' := 150) rfl (hb hby at_146) (by decide) (by decide) ?_
       have hv : (own_az fl rz p3 ax p1 ay p2) = (1 : Int32) := by unfold own_az; try (first | rw [if_pos hm1] | rw [if_neg hm1]); try (first | rw [if_pos hm2] | rw [if_neg hm2]); try (first | rw [if_pos hm3] | rw [if_neg hm3]); try (first | rw [if_pos hm4] | rw [if_neg hm4]); try (first | rw [if_pos hm5] | rw [if_neg hm5])
       rw [hv] at k
       exact k
    ·
     refine XS.ifNo X0.here hx rfl (hb hby at_127) rfl ((if0 _ _).trans (feq hm3).1) ?_
     refine XS.iloadN X0.here hx rfl (hb hby at_130) rfl ?_
     refine XS.iloadN X0.here hx rfl (hb hby at_131) rfl ?_
     by_cases hm6 : p3 = p1
     ·
      refine XS.icmpYes X0.here hx rfl (pc0 := 132) (pc' := 149) rfl (hb hby at_132) rfl (teq hm6).1 (by decide) (by decide) ?_
      refine XS.iconst X0.here hx rfl (hb hby at_149) ?_
      have hv : (own_az fl rz p3 ax p1 ay p2) = (0 : Int32) := by unfold own_az; try (first | rw [if_pos hm1] | rw [if_neg hm1]); try (first | rw [if_pos hm2] | rw [if_neg hm2]); try (first | rw [if_pos hm3] | rw [if_neg hm3]); try (first | rw [if_pos hm6] | rw [if_neg hm6])
      rw [hv] at k
      exact k
     ·
      refine XS.icmpNo X0.here hx rfl (hb hby at_132) rfl (feq hm6).1 ?_
      refine XS.iload X0.here hx rfl (hb hby at_135) rfl ?_
      by_cases hm7 : ay = (0 : Int32)
      ·
       refine XS.ifYes X0.here hx rfl (pc0 := 137) (pc' := 145) rfl (hb hby at_137) rfl ((if0 _ _).trans (teq hm7).1) (by decide) (by decide) ?_
       refine XS.iconst X0.here hx rfl (hb hby at_145) ?_
       refine XS.goto X0.here hx rfl (pc0 := 146) (pc' := 150) rfl (hb hby at_146) (by decide) (by decide) ?_
       have hv : (own_az fl rz p3 ax p1 ay p2) = (1 : Int32) := by unfold own_az; try (first | rw [if_pos hm1] | rw [if_neg hm1]); try (first | rw [if_pos hm2] | rw [if_neg hm2]); try (first | rw [if_pos hm3] | rw [if_neg hm3]); try (first | rw [if_pos hm6] | rw [if_neg hm6]); try (first | rw [if_pos hm7] | rw [if_neg hm7])
       rw [hv] at k
       exact k
      ·
       refine XS.ifNo X0.here hx rfl (hb hby at_137) rfl ((if0 _ _).trans (feq hm7).1) ?_
       refine XS.iloadN X0.here hx rfl (hb hby at_140) rfl ?_
       refine XS.iloadN X0.here hx rfl (hb hby at_141) rfl ?_
       by_cases hm8 : p3 = p2
       ·
        refine XS.icmpYes X0.here hx rfl (pc0 := 142) (pc' := 149) rfl (hb hby at_142) rfl (teq hm8).1 (by decide) (by decide) ?_
        refine XS.iconst X0.here hx rfl (hb hby at_149) ?_
        have hv : (own_az fl rz p3 ax p1 ay p2) = (0 : Int32) := by unfold own_az; try (first | rw [if_pos hm1] | rw [if_neg hm1]); try (first | rw [if_pos hm2] | rw [if_neg hm2]); try (first | rw [if_pos hm3] | rw [if_neg hm3]); try (first | rw [if_pos hm6] | rw [if_neg hm6]); try (first | rw [if_pos hm7] | rw [if_neg hm7]); try (first | rw [if_pos hm8] | rw [if_neg hm8])
        rw [hv] at k
        exact k
       ·
        refine XS.icmpNo X0.here hx rfl (hb hby at_142) rfl (feq hm8).1 ?_
        refine XS.iconst X0.here hx rfl (hb hby at_145) ?_
        refine XS.goto X0.here hx rfl (pc0 := 146) (pc' := 150) rfl (hb hby at_146) (by decide) (by decide) ?_
        have hv : (own_az fl rz p3 ax p1 ay p2) = (1 : Int32) := by unfold own_az; try (first | rw [if_pos hm1] | rw [if_neg hm1]); try (first | rw [if_pos hm2] | rw [if_neg hm2]); try (first | rw [if_pos hm3] | rw [if_neg hm3]); try (first | rw [if_pos hm6] | rw [if_neg hm6]); try (first | rw [if_pos hm7] | rw [if_neg hm7]); try (first | rw [if_pos hm8] | rw [if_neg hm8])
        rw [hv] at k
        exact k
   ·
    refine XS.ifNo X0.here hx rfl (hb hby at_116) rfl ((if0 _ _).trans (feq hm2).1) ?_
    refine XS.iloadN X0.here hx rfl (hb hby at_119) rfl ?_
    refine X0.ldcInt hx hown (mvT hZ (hU 125 _ rfl)) (g := (mkF m 120 (fA28 ax ay fl p0 p1 p2 p3 p4 p5 rx ry rz) [(.int p3)])) rfl (hb hby at_120) _ ?_
    by_cases hm9 : p3 = (2147483647 : Int32)
    ·
     refine XS.icmpYes X0.here hx rfl (pc0 := 122) (pc' := 149) rfl (hb hby at_122) rfl (teq hm9).1 (by decide) (by decide) ?_
     refine XS.iconst X0.here hx rfl (hb hby at_149) ?_
     have hv : (own_az fl rz p3 ax p1 ay p2) = (0 : Int32) := by unfold own_az; try (first | rw [if_pos hm1] | rw [if_neg hm1]); try (first | rw [if_pos hm2] | rw [if_neg hm2]); try (first | rw [if_pos hm9] | rw [if_neg hm9])
     rw [hv] at k
     exact k
    ·
     refine XS.icmpNo X0.here hx rfl (hb hby at_122) rfl (feq hm9).1 ?_
     refine XS.iload X0.here hx rfl (hb hby at_125) rfl ?_
     by_cases hm10 : ax = (0 : Int32)
     ·
      refine XS.ifYes X0.here hx rfl (pc0 := 127) (pc' := 135) rfl (hb hby at_127) rfl ((if0 _ _).trans (teq hm10).1) (by decide) (by decide) ?_
      refine XS.iload X0.here hx rfl (hb hby at_135) rfl ?_
      by_cases hm11 : ay = (0 : Int32)
      ·
       refine XS.ifYes X0.here hx rfl (pc0 := 137) (pc' := 145) rfl (hb hby at_137) rfl ((if0 _ _).trans (teq hm11).1) (by decide) (by decide) ?_
       refine XS.iconst X0.here hx rfl (hb hby at_145) ?_
       refine XS.goto X0.here hx rfl (pc0 := 146) (pc' := 150) rfl (hb hby at_146) (by decide) (by decide) ?_
       have hv : (own_az fl rz p3 ax p1 ay p2) = (1 : Int32) := by unfold own_az; try (first | rw [if_pos hm1] | rw [if_neg hm1]); try (first | rw [if_pos hm2] | rw [if_neg hm2]); try (first | rw [if_pos hm9] | rw [if_neg hm9]); try (first | rw [if_pos hm10] | rw [if_neg hm10]); try (first | rw [if_pos hm11] | rw [if_neg hm11])
       rw [hv] at k
       exact k
      ·
       refine XS.ifNo X0.here hx rfl (hb hby at_137) rfl ((if0 _ _).trans (feq hm11).1) ?_
       refine XS.iloadN X0.here hx rfl (hb hby at_140) rfl ?_
       refine XS.iloadN X0.here hx rfl (hb hby at_141) rfl ?_
       by_cases hm12 : p3 = p2
       ·
        refine XS.icmpYes X0.here hx rfl (pc0 := 142) (pc' := 149) rfl (hb hby at_142) rfl (teq hm12).1 (by decide) (by decide) ?_
        refine XS.iconst X0.here hx rfl (hb hby at_149) ?_
        have hv : (own_az fl rz p3 ax p1 ay p2) = (0 : Int32) := by unfold own_az; try (first | rw [if_pos hm1] | rw [if_neg hm1]); try (first | rw [if_pos hm2] | rw [if_neg hm2]); try (first | rw [if_pos hm9] | rw [if_neg hm9]); try (first | rw [if_pos hm10] | rw [if_neg hm10]); try (first | rw [if_pos hm11] | rw [if_neg hm11]); try (first | rw [if_pos hm12] | rw [if_neg hm12])
        rw [hv] at k
        exact k
       ·
        refine XS.icmpNo X0.here hx rfl (hb hby at_142) rfl (feq hm12).1 ?_
        refine XS.iconst X0.here hx rfl (hb hby at_145) ?_
        refine XS.goto X0.here hx rfl (pc0 := 146) (pc' := 150) rfl (hb hby at_146) (by decide) (by decide) ?_
        have hv : (own_az fl rz p3 ax p1 ay p2) = (1 : Int32) := by unfold own_az; try (first | rw [if_pos hm1] | rw [if_neg hm1]); try (first | rw [if_pos hm2] | rw [if_neg hm2]); try (first | rw [if_pos hm9] | rw [if_neg hm9]); try (first | rw [if_pos hm10] | rw [if_neg hm10]); try (first | rw [if_pos hm11] | rw [if_neg hm11]); try (first | rw [if_pos hm12] | rw [if_neg hm12])
        rw [hv] at k
        exact k
     ·
      refine XS.ifNo X0.here hx rfl (hb hby at_127) rfl ((if0 _ _).trans (feq hm10).1) ?_
      refine XS.iloadN X0.here hx rfl (hb hby at_130) rfl ?_
      refine XS.iloadN X0.here hx rfl (hb hby at_131) rfl ?_
      by_cases hm13 : p3 = p1
      ·
       refine XS.icmpYes X0.here hx rfl (pc0 := 132) (pc' := 149) rfl (hb hby at_132) rfl (teq hm13).1 (by decide) (by decide) ?_
       refine XS.iconst X0.here hx rfl (hb hby at_149) ?_
       have hv : (own_az fl rz p3 ax p1 ay p2) = (0 : Int32) := by unfold own_az; try (first | rw [if_pos hm1] | rw [if_neg hm1]); try (first | rw [if_pos hm2] | rw [if_neg hm2]); try (first | rw [if_pos hm9] | rw [if_neg hm9]); try (first | rw [if_pos hm10] | rw [if_neg hm10]); try (first | rw [if_pos hm13] | rw [if_neg hm13])
       rw [hv] at k
       exact k
      ·
       refine XS.icmpNo X0.here hx rfl (hb hby at_132) rfl (feq hm13).1 ?_
       refine XS.iload X0.here hx rfl (hb hby at_135) rfl ?_
       by_cases hm14 : ay = (0 : Int32)
       ·
        refine XS.ifYes X0.here hx rfl (pc0 := 137) (pc' := 145) rfl (hb hby at_137) rfl ((if0 _ _).trans (teq hm14).1) (by decide) (by decide) ?_
        refine XS.iconst X0.here hx rfl (hb hby at_145) ?_
        refine XS.goto X0.here hx rfl (pc0 := 146) (pc' := 150) rfl (hb hby at_146) (by decide) (by decide) ?_
        have hv : (own_az fl rz p3 ax p1 ay p2) = (1 : Int32) := by unfold own_az; try (first | rw [if_pos hm1] | rw [if_neg hm1]); try (first | rw [if_pos hm2] | rw [if_neg hm2]); try (first | rw [if_pos hm9] | rw [if_neg hm9]); try (first | rw [if_pos hm10] | rw [if_neg hm10]); try (first | rw [if_pos hm13] | rw [if_neg hm13]); try (first | rw [if_pos hm14] | rw [if_neg hm14])
        rw [hv] at k
        exact k
       ·
        refine XS.ifNo X0.here hx rfl (hb hby at_137) rfl ((if0 _ _).trans (feq hm14).1) ?_
        refine XS.iloadN X0.here hx rfl (hb hby at_140) rfl ?_
        refine XS.iloadN X0.here hx rfl (hb hby at_141) rfl ?_
        by_cases hm15 : p3 = p2
        ·
         refine XS.icmpYes X0.here hx rfl (pc0 := 142) (pc' := 149) rfl (hb hby at_142) rfl (teq hm15).1 (by decide) (by decide) ?_
         refine XS.iconst X0.here hx rfl (hb hby at_149) ?_
         have hv : (own_az fl rz p3 ax p1 ay p2) = (0 : Int32) := by unfold own_az; try (first | rw [if_pos hm1] | rw [if_neg hm1]); try (first | rw [if_pos hm2] | rw [if_neg hm2]); try (first | rw [if_pos hm9] | rw [if_neg hm9]); try (first | rw [if_pos hm10] | rw [if_neg hm10]); try (first | rw [if_pos hm13] | rw [if_neg hm13]); try (first | rw [if_pos hm14] | rw [if_neg hm14]); try (first | rw [if_pos hm15] | rw [if_neg hm15])
         rw [hv] at k
         exact k
        ·
         refine XS.icmpNo X0.here hx rfl (hb hby at_142) rfl (feq hm15).1 ?_
         refine XS.iconst X0.here hx rfl (hb hby at_145) ?_
         refine XS.goto X0.here hx rfl (pc0 := 146) (pc' := 150) rfl (hb hby at_146) (by decide) (by decide) ?_
         have hv : (own_az fl rz p3 ax p1 ay p2) = (1 : Int32) := by unfold own_az; try (first | rw [if_pos hm1] | rw [if_neg hm1]); try (first | rw [if_pos hm2] | rw [if_neg hm2]); try (first | rw [if_pos hm9] | rw [if_neg hm9]); try (first | rw [if_pos hm10] | rw [if_neg hm10]); try (first | rw [if_pos hm13] | rw [if_neg hm13]); try (first | rw [if_pos hm14] | rw [if_neg hm14]); try (first | rw [if_pos hm15] | rw [if_neg hm15])
         rw [hv] at k
         exact k
 obtain ⟨az, e_az⟩ : ∃ z : Int32, z = (own_az fl rz p3 ax p1 ay p2) := ⟨_, rfl⟩
 have R20 : own_R p e below s₁ (mkF m 150 (fA28 ax ay fl p0 p1 p2 p3 p4 p5 rx ry rz) [(.int az)]) s₁ f0 := by have q := R19; rw [← e_az] at q; exact q
 have R21 : own_R p e below s₁ (mkF m 152 (fA29 ax ay az fl p0 p1 p2 p3 p4 p5 rx ry rz) []) s₁ f0 := fun t k => R20 t (by
  refine XS.istore X0.here hx rfl (hb hby at_150) rfl (l' := (fA29 ax ay az fl p0 p1 p2 p3 p4 p5 rx ry rz)) rfl ?_
  exact k)
 obtain ⟨T22, h22, X22, e22, E22, A22, D22, -, st22⟩ := newO X0 hx hZ hown (hU 0 _ rfl) (hU 1 _ rfl) (hU 2 _ rfl) e0 (g := (mkF m 152 (fA29 ax ay az fl p0 p1 p2 p3 p4 p5 rx ry rz) [])) rfl (hb hby at_152) (by decide) (by decide)
 obtain ⟨b22, g22⟩ : ∃ z, z = h0.size := ⟨_, rfl⟩
 rw [← g22] at A22 D22 st22
 have g_b22 : n0 ≤ b22 := Nat.le_trans Z0 (Nat.le_of_eq g22.symm)
 have sz_b22 : h0.size ≤ b22 := Nat.le_trans (Keep.refl h0 []).1 (Nat.le_of_eq g22.symm)
 have ne_ca_b22 : ca ≠ b22 := Nat.ne_of_lt (Nat.lt_of_lt_of_le A_ca.lt (Nat.le_of_eq g22.symm))
 have ne_iv__b22 : iv_ ≠ b22 := Nat.ne_of_lt (Nat.lt_of_lt_of_le E_iv_.lt (Nat.le_of_eq g22.symm))
 have f22_S_Integer_IntegerCache_high := S_Integer_IntegerCache_high.ext E22
 have f22_S_Integer_IntegerCache_cache := S_Integer_IntegerCache_cache.ext E22
 have f22_A_ca := A_ca.ext E22
 have f22_E_iv_ := E_iv_.ext E22
 have z22 : n0 ≤ h22.size := Nat.le_trans Z0 E22.1
 have K22 : Keep h0 h22 [] := (Keep.refl h0 []).ext E22
 have d22_read : Fld Z h22 b22 sN3 "read" sN4 .null := D22 (Or.inr (hU 43 _ rfl)) (ty := (.object sN1)) (by decide)
 have d22_unread : Fld Z h22 b22 sN3 "unread" sN4 .null := D22 (Or.inr (hU 45 _ rfl)) (ty := (.object sN1)) (by decide)
 have R23 := fun t k => R21 t (st22 t k)
 have R24 : own_R p e below T22 (mkF m 156 (fA29 ax ay az fl p0 p1 p2 p3 p4 p5 rx ry rz) [(.ref b22), (.ref b22)]) s₁ f0 := fun t k => R23 t (by
  refine XS.dup X22.here hx rfl (hb hby at_155) rfl rfl ?_
  exact k)
 obtain ⟨_, _, ⟨T25, L25, k25, n25⟩, -, X25, ⟨Lc25, hQ25, l25, y25, z25⟩, st25⟩ := X22.specialBack hx (y := yN18) rfl hown (mvT hZ (hU 3 _ rfl)) (mvT hZ (hU 4 _ rfl)) (mvT hZ (hU 5 _ rfl)) (by decide) (backOf (W := 1) (rmFol l Z a0 hw [] b22 .null .null h22 n0 z22 A22 d22_read d22_unread g_b22) hZ (hU 5 _ rfl) (hU 2 _ rfl) (by decide) (by decide)) (g := (mkF m 156 (fA29 ax ay az fl p0 p1 p2 p3 p4 p5 rx ry rz) [(.ref b22), (.ref b22)])) rfl (by rw [hml]; rfl) (Steps.refl _) (a := b22) (argsL := []) (rest := [(.ref b22)]) (lenOf pd_16 rfl) rfl (Nat.le_of_eq rfl) (hb hby at_156) (fun _ _ => ⟨rfl, e22, (by decide : 1 + 12 ≤ _), (by decide : 2 + 1044 ≤ _)⟩)
 dsimp only [Pt.U, Pt.locs, Pt.cells, Pt.slots] at X25 l25 y25 z25 st25 hQ25
 subst l25 y25 z25
 obtain ⟨oR_25, fiR_25, kfiR_25, ckR_25, kckR_25, kkR_25, saR_25, kstR_25, enR_25, kenR_25, itR_25, kitR_25, oU_25, fiU_25, kfiU_25, ckU_25, kckU_25, kkU_25, saU_25, kstU_25, rfl, N25q, p25_0, p25_1, p25_2, p25_3, p25_4, p25_5, p25_6, p25_7, p25_8, p25_9, p25_10, p25_11, p25_12, p25_13, p25_14, p25_15, p25_16, p25_17, p25_18, p25_19, p25_20, p25_21, p25_22, p25_23, p25_24, p25_25, p25_26, p25_27, p25_28, p25_29, p25_30, p25_31, p25_32, p25_33, p25_34, p25_35, p25_36, p25_37, p25_38, p25_39, p25_40, p25_41, p25_42, p25_43, p25_44, p25_45, p25_46, p25_47, p25_48, p25_49, p25_50, p25_51, p25_52, p25_53, p25_54, p25_55, p25_56, p25_57, p25_58, p25_59, p25_60, p25_61, p25_62, p25_63, p25_64, p25_65, p25_66, p25_67, p25_68, p25_69, p25_70, p25_71⟩ := hQ25
 have N25 := Fr.app N0 N25q
 have f25_S_Integer_IntegerCache_high := own_sta_keep f22_S_Integer_IntegerCache_high p25_0 (nsS A22.nostat ns0)
 have f25_S_Integer_IntegerCache_cache := own_sta_keep f22_S_Integer_IntegerCache_cache p25_0 (nsS A22.nostat ns0)
 have f25_A_ca := f22_A_ca.keep p25_0 (ninS ne_ca_b22 nin0)
 have f25_E_iv_ := f22_E_iv_.keep p25_0
 have f25_E_b22 := A22.keep p25_0
 have z25 : n0 ≤ T25.heap.size := Nat.le_trans z22 p25_0.1
 have K25 : Keep h0 T25.heap [] := K22.trans p25_0 (allS (Or.inr sz_b22) all0)
 have g_fiR_25 : n0 ≤ fiR_25 := Nat.le_trans z22 p25_30
 have sz_fiR_25 : h0.size ≤ fiR_25 := Nat.le_trans K22.1 p25_30
 have ne_ca_fiR_25 : ca ≠ fiR_25 := Nat.ne_of_lt (Nat.lt_of_lt_of_le f22_A_ca.lt p25_30)
 have ne_b22_fiR_25 : b22 ≠ fiR_25 := Nat.ne_of_lt (Nat.lt_of_lt_of_le d22_read.lt p25_30)
 have g_ckR_25 : n0 ≤ ckR_25 := Nat.le_trans z22 p25_31
 have sz_ckR_25 : h0.size ≤ ckR_25 := Nat.le_trans K22.1 p25_31
 have ne_ca_ckR_25 : ca ≠ ckR_25 := Nat.ne_of_lt (Nat.lt_of_lt_of_le f22_A_ca.lt p25_31)
 have ne_b22_ckR_25 : b22 ≠ ckR_25 := Nat.ne_of_lt (Nat.lt_of_lt_of_le d22_read.lt p25_31)
 have g_saR_25 : n0 ≤ saR_25 := Nat.le_trans z22 p25_32
 have sz_saR_25 : h0.size ≤ saR_25 := Nat.le_trans K22.1 p25_32
 have ne_ca_saR_25 : ca ≠ saR_25 := Nat.ne_of_lt (Nat.lt_of_lt_of_le f22_A_ca.lt p25_32)
 have ne_b22_saR_25 : b22 ≠ saR_25 := Nat.ne_of_lt (Nat.lt_of_lt_of_le d22_read.lt p25_32)
 have g_enR_25 : n0 ≤ enR_25 := Nat.le_trans z22 p25_33
 have sz_enR_25 : h0.size ≤ enR_25 := Nat.le_trans K22.1 p25_33
 have ne_ca_enR_25 : ca ≠ enR_25 := Nat.ne_of_lt (Nat.lt_of_lt_of_le f22_A_ca.lt p25_33)
 have ne_b22_enR_25 : b22 ≠ enR_25 := Nat.ne_of_lt (Nat.lt_of_lt_of_le d22_read.lt p25_33)
 have g_itR_25 : n0 ≤ itR_25 := Nat.le_trans z22 p25_34
 have sz_itR_25 : h0.size ≤ itR_25 := Nat.le_trans K22.1 p25_34
 have ne_ca_itR_25 : ca ≠ itR_25 := Nat.ne_of_lt (Nat.lt_of_lt_of_le f22_A_ca.lt p25_34)
 have ne_b22_itR_25 : b22 ≠ itR_25 := Nat.ne_of_lt (Nat.lt_of_lt_of_le d22_read.lt p25_34)
 have g_fiU_25 : n0 ≤ fiU_25 := Nat.le_trans z22 p25_35
 have sz_fiU_25 : h0.size ≤ fiU_25 := Nat.le_trans K22.1 p25_35
 have ne_ca_fiU_25 : ca ≠ fiU_25 := Nat.ne_of_lt (Nat.lt_of_lt_of_le f22_A_ca.lt p25_35)
 have ne_b22_fiU_25 : b22 ≠ fiU_25 := Nat.ne_of_lt (Nat.lt_of_lt_of_le d22_read.lt p25_35)
 have g_ckU_25 : n0 ≤ ckU_25 := Nat.le_trans z22 p25_36
 have sz_ckU_25 : h0.size ≤ ckU_25 := Nat.le_trans K22.1 p25_36
 have ne_ca_ckU_25 : ca ≠ ckU_25 := Nat.ne_of_lt (Nat.lt_of_lt_of_le f22_A_ca.lt p25_36)
 have ne_b22_ckU_25 : b22 ≠ ckU_25 := Nat.ne_of_lt (Nat.lt_of_lt_of_le d22_read.lt p25_36)
 have g_saU_25 : n0 ≤ saU_25 := Nat.le_trans z22 p25_37
 have sz_saU_25 : h0.size ≤ saU_25 := Nat.le_trans K22.1 p25_37
 have ne_ca_saU_25 : ca ≠ saU_25 := Nat.ne_of_lt (Nat.lt_of_lt_of_le f22_A_ca.lt p25_37)
 have ne_b22_saU_25 : b22 ≠ saU_25 := Nat.ne_of_lt (Nat.lt_of_lt_of_le d22_read.lt p25_37)
 have g_kkR_25 : n0 ≤ kkR_25 := Nat.le_trans z22 p25_38
 have sz_kkR_25 : h0.size ≤ kkR_25 := Nat.le_trans K22.1 p25_38
 have ne_ca_kkR_25 : ca ≠ kkR_25 := Nat.ne_of_lt (Nat.lt_of_lt_of_le f22_A_ca.lt p25_38)
 have ne_b22_kkR_25 : b22 ≠ kkR_25 := Nat.ne_of_lt (Nat.lt_of_lt_of_le d22_read.lt p25_38)
 have g_oR_25 : n0 ≤ oR_25 := Nat.le_trans z22 p25_39
 have sz_oR_25 : h0.size ≤ oR_25 := Nat.le_trans K22.1 p25_39
 have ne_ca_oR_25 : ca ≠ oR_25 := Nat.ne_of_lt (Nat.lt_of_lt_of_le f22_A_ca.lt p25_39)
 have ne_b22_oR_25 : b22 ≠ oR_25 := Nat.ne_of_lt (Nat.lt_of_lt_of_le d22_read.lt p25_39)
 have g_oU_25 : n0 ≤ oU_25 := Nat.le_trans z22 p25_40
 have sz_oU_25 : h0.size ≤ oU_25 := Nat.le_trans K22.1 p25_40
 have ne_ca_oU_25 : ca ≠ oU_25 := Nat.ne_of_lt (Nat.lt_of_lt_of_le f22_A_ca.lt p25_40)
 have ne_b22_oU_25 : b22 ≠ oU_25 := Nat.ne_of_lt (Nat.lt_of_lt_of_le d22_read.lt p25_40)
 have g_kkU_25 : n0 ≤ kkU_25 := Nat.le_trans z22 p25_41
 have sz_kkU_25 : h0.size ≤ kkU_25 := Nat.le_trans K22.1 p25_41
 have ne_ca_kkU_25 : ca ≠ kkU_25 := Nat.ne_of_lt (Nat.lt_of_lt_of_le f22_A_ca.lt p25_41)
 have ne_b22_kkU_25 : b22 ≠ kkU_25 := Nat.ne_of_lt (Nat.lt_of_lt_of_le d22_read.lt p25_41)
 have R26 := fun t k => R24 t (st25.trans k)
 have R27 : own_R p e below T25 (mkF m 162 #[iv p0, iv p1, iv p2, iv p3, iv p4, iv p5, iv fl, iv rx, iv ry, iv rz, iv ax, iv ay, iv az, rv b22, .unset, .unset, .unset, .unset, .unset, .unset] [(.int 0)]) s₁ f0 := fun t k => R26 t (by
  refine XS.astore X25.here hx rfl (hb hby at_159) rfl rfl (l' := #[iv p0, iv p1, iv p2, iv p3, iv p4, iv p5, iv fl, iv rx, iv ry, iv rz, iv ax, iv ay, iv az, rv b22, .unset, .unset, .unset, .unset, .unset, .unset]) rfl ?_
  refine XS.iconst X25.here hx rfl (hb hby at_161) ?_
  exact k)
 obtain ⟨_, _, ⟨T28, L28, k28, n28⟩, -, X28, ⟨Lc28, hQ28, l28, y28, z28⟩, st28⟩ := Jvm.LawKit.callS X25 hx (y := yN19) hown (mvT hZ (hU 46 _ rfl)) (mvT hZ (hU 47 _ rfl)) (mvT hZ (hU 48 _ rfl)) (mvT hZ (hU 49 _ rfl)) (by decide) (backOf (W := 0) (rmVal l Z a0 hw [] ca kca vsc iv_ T25.heap n0 z25 f25_S_Integer_IntegerCache_high f25_S_Integer_IntegerCache_cache f25_A_ca hat) hZ (hU 49 _ rfl) (hU 48 _ rfl) (by decide) (by decide)) (g := (mkF m 162 #[iv p0, iv p1, iv p2, iv p3, iv p4, iv p5, iv fl, iv rx, iv ry, iv rz, iv ax, iv ay, iv az, rv b22, .unset, .unset, .unset, .unset, .unset, .unset] [(.int 0)])) rfl (by rw [hml]; rfl) (argsL := [(.int 0)]) (rest := []) (lenOf pd_17 rfl) rfl (Nat.le_of_eq rfl) (hb hby at_162) (fun _ _ => ⟨rfl, rfl, (by decide : 13 + 0 ≤ _), (by decide : 1046 + 0 ≤ _)⟩)
 dsimp only [Pt.U, Pt.locs, Pt.cells, Pt.slots] at X28 l28 y28 z28 st28 hQ28
 subst l28 y28 z28
 obtain ⟨rfl, N28q, p28_0⟩ := hQ28
 have N28 := Fr.app N25 N28q
 have R29 := fun t k => R27 t (st28 t k)
 have hi0 : own_inv 0 [] [] := ⟨by decide, trivial, trivial⟩
 have hr0 : ∀ v : Int32, v ∈ ([] : List Int32) → False := fun v h => nomatch h
 have hu0 : ∀ v : Int32, v ∈ ([] : List Int32) → False := fun v h => nomatch h
 have hno1 : ¬ ax = (0 : Int32) → p1 ∉ [] ∧ p1 ∉ [] := fun _ => ⟨hr0 p1, hu0 p1⟩
 have R30 : own_R p e below T28 (mkF m 169 (fA0 ax ay az b22 fl iv_ p0 p1 p2 p3 p4 p5 rx ry rz) [(.int ax)]) s₁ f0 := fun t k => R29 t (by
  refine XS.astore X28.here hx rfl (hb hby at_165) rfl rfl (l' := (fA0 ax ay az b22 fl iv_ p0 p1 p2 p3 p4 p5 rx ry rz)) rfl ?_
  refine XS.iload X28.here hx rfl (hb hby at_167) rfl ?_
  exact k)
 obtain ⟨T43, L43, rs1, us1, X43, N43, z43, R43, er1, eu1, j43_E_b22, j43_F_read_b22, j43_F_unread_b22, j43_E_oR_25, j43_F_chunks_oR_25, j43_F_chunkCount_oR_25, j43_F_firsts_oR_25, j43_F_withItems_oR_25, j43_A_ckR_25, j43_E_kkR_25, j43_F_size_kkR_25, j43_F_starts_kkR_25, j43_A_fiR_25, j43_A_saR_25, j43_F_ends_kkR_25, j43_F_items_kkR_25, j43_A_enR_25, j43_A_itR_25, j43_E_oU_25, j43_F_chunks_oU_25, j43_F_chunkCount_oU_25, j43_F_firsts_oU_25, j43_F_withItems_oU_25, j43_A_ckU_25, j43_E_kkU_25, j43_F_size_kkU_25, j43_F_starts_kkU_25, j43_A_fiU_25, j43_A_saU_25, j43_E_iv_⟩ : ∃ (T' : State) (L' : List Loc) (rs1 : List Int32) (us1 : List Int32), Stand p l e room_1 s m #[(.int p0), (.int p1), (.int p2), (.int p3), (.int p4), (.int p5)] below meth c T' L' 13 1046 ∧ Fr n0 L' ∧ n0 ≤ T'.heap.size ∧ (own_R p e below T' (mkF m 198 (fA0 ax ay az b22 fl iv_ p0 p1 p2 p3 p4 p5 rx ry rz) []) s₁ f0) ∧ (rs1 = own_sr ax rx p1 []) ∧ (us1 = own_su ax rx p1 []) ∧ (Exa Z T'.heap b22 sN3) ∧ (Fld Z T'.heap b22 sN3 "read" sN4 (.ref oR_25)) ∧ (Fld Z T'.heap b22 sN3 "unread" sN4 (.ref oU_25)) ∧ (Exa Z T'.heap oR_25 sN1) ∧ (Fld Z T'.heap oR_25 sN1 "chunks" sN2 (.ref ckR_25)) ∧ (Fld Z T'.heap oR_25 sN1 "chunkCount" "I" (.int 1)) ∧ (Fld Z T'.heap oR_25 sN1 "firsts" "[I" (.ref fiR_25)) ∧ (Fld Z T'.heap oR_25 sN1 "withItems" "Z" (.int 1)) ∧ (Arv Z T'.heap ckR_25 kckR_25 (.object sN0) (1 : Int32) [(.ref kkR_25)] .null) ∧ (Exa Z T'.heap kkR_25 sN0) ∧ (Fld Z T'.heap kkR_25 sN0 "size" "I" (.int (own_n rs1))) ∧ (Fld Z T'.heap kkR_25 sN0 "starts" "[I" (.ref saR_25)) ∧ (Arv Z T'.heap fiR_25 kfiR_25 .int 1 [(.int (own_h rs1))] (.int 0)) ∧ (Arv Z T'.heap saR_25 kstR_25 .int 256 (own_v rs1) (.int 0)) ∧ (Fld Z T'.heap kkR_25 sN0 "ends" "[I" (.ref enR_25)) ∧ (Fld Z T'.heap kkR_25 sN0 "items" "[Ljava/lang/Object;" (.ref itR_25)) ∧ (Arv Z T'.heap enR_25 kenR_25 .int 256 (own_e rs1) (.int 0)) ∧ (Arv Z T'.heap itR_25 kitR_25 (.object "java/lang/Object") (256 : Int32) (own_i iv_ rs1) .null) ∧ (Exa Z T'.heap oU_25 sN1) ∧ (Fld Z T'.heap oU_25 sN1 "chunks" sN2 (.ref ckU_25)) ∧ (Fld Z T'.heap oU_25 sN1 "chunkCount" "I" (.int 1)) ∧ (Fld Z T'.heap oU_25 sN1 "firsts" "[I" (.ref fiU_25)) ∧ (Fld Z T'.heap oU_25 sN1 "withItems" "Z" (.int 0)) ∧ (Arv Z T'.heap ckU_25 kckU_25 (.object sN0) (1 : Int32) [(.ref kkU_25)] .null) ∧ (Exa Z T'.heap kkU_25 sN0) ∧ (Fld Z T'.heap kkU_25 sN0 "size" "I" (.int (own_n us1))) ∧ (Fld Z T'.heap kkU_25 sN0 "starts" "[I" (.ref saU_25)) ∧ (Arv Z T'.heap fiU_25 kfiU_25 .int 1 [(.int (own_h us1))] (.int 0)) ∧ (Arv Z T'.heap saU_25 kstU_25 .int 256 (own_v us1) (.int 0)) ∧ (Exa Z T'.heap iv_ "java/lang/Integer") := by
  by_cases ha0 : ax = (0 : Int32)
  ·
   have R31 : own_R p e below T28 (mkF m 198 (fA0 ax ay az b22 fl iv_ p0 p1 p2 p3 p4 p5 rx ry rz) []) s₁ f0 := fun t k => R30 t (by
    refine XS.ifYes X28.here hx rfl (pc0 := 169) (pc' := 198) rfl (hb hby at_169) rfl ((if0 _ _).trans (teq ha0).1) (by decide) (by decide) ?_
    exact k)
   exact ⟨T28, _, [], [], X28, N28, (by rw [p28_0]; exact z25), R31, (own_sr0 ha0), (own_su0 ha0), (by rw [p28_0]; exact f25_E_b22), (by rw [p28_0]; exact p25_1), (by rw [p28_0]; exact p25_2), (by rw [p28_0]; exact p25_3), (by rw [p28_0]; exact p25_4), (by rw [p28_0]; exact p25_5), (by rw [p28_0]; exact p25_6), (by rw [p28_0]; exact p25_7), (by rw [p28_0]; exact p25_8), (by rw [p28_0]; exact p25_9), (by rw [p28_0]; exact p25_10), (by rw [p28_0]; exact p25_11), (by rw [p28_0]; exact p25_12), (by rw [p28_0]; exact p25_13), (by rw [p28_0]; exact p25_14), (by rw [p28_0]; exact p25_15), (by rw [p28_0]; exact p25_16), (by rw [p28_0]; exact p25_17), (by rw [p28_0]; exact p25_18), (by rw [p28_0]; exact p25_19), (by rw [p28_0]; exact p25_20), (by rw [p28_0]; exact p25_21), (by rw [p28_0]; exact p25_22), (by rw [p28_0]; exact p25_23), (by rw [p28_0]; exact p25_24), (by rw [p28_0]; exact p25_25), (by rw [p28_0]; exact p25_26), (by rw [p28_0]; exact p25_27), (by rw [p28_0]; exact p25_28), (by rw [p28_0]; exact f25_E_iv_)⟩
  ·
   have R32 : own_R p e below T28 (mkF m 177 (fA0 ax ay az b22 fl iv_ p0 p1 p2 p3 p4 p5 rx ry rz) [(.int p1), (.ref b22), (.ref b22)]) s₁ f0 := fun t k => R30 t (by
    refine XS.ifNo X28.here hx rfl (hb hby at_169) rfl ((if0 _ _).trans (feq ha0).1) ?_
    refine XS.aload X28.here hx rfl (hb hby at_172) rfl rfl ?_
    refine XS.aload X28.here hx rfl (hb hby at_174) rfl rfl ?_
    refine XS.iloadN X28.here hx rfl (hb hby at_176) rfl ?_
    exact k)
   obtain ⟨cq33, kq33, q33a, q33b, q33c⟩ := isOf hZ p28_0 f25_E_b22
   obtain ⟨_, _, ⟨T33, L33, k33, n33⟩, -, X33, ⟨Lc33, hQ33, l33, y33, z33⟩, st33⟩ := X28.virtualBack hx (y := yN2) (z := yN2) hown (mvT hZ (hU 53 _ rfl)) (mvT hZ (hU 54 _ rfl)) (notFace_of_selects (args := #[]) (mvT hZ (hU 56 _ rfl))) (mvT hZ (hU 56 _ rfl)) (mvT hZ (hU 55 _ rfl)) (by decide) (backOf (W := 1) (rmFf l Z a0 hw [] b22 p1 oR_25 ckR_25 kckR_25 kkR_25 fiR_25 kfiR_25 saR_25 kstR_25 oU_25 ckU_25 kckU_25 kkU_25 fiU_25 kfiU_25 saU_25 kstU_25 [] [] T25.heap n0 z25 p25_1 p25_2 p25_3 p25_4 p25_5 p25_6 p25_8 p25_10 p25_11 p25_12 p25_13 p25_18 p25_19 p25_20 p25_21 p25_23 p25_25 p25_26 p25_27 p25_28 (own_lR3 hi0) hi0.2.1 (own_lU3 hi0) hi0.2.2) hZ (hU 57 _ rfl) (hU 2 _ rfl) (by decide) (by decide)) q33a q33c (g := (mkF m 177 (fA0 ax ay az b22 fl iv_ p0 p1 p2 p3 p4 p5 rx ry rz) [(.int p1), (.ref b22), (.ref b22)])) rfl (by rw [hml]; rfl) (Steps.refl _) (argsL := [(.int p1)]) (rest := [(.ref b22)]) (lenOf pd_8 rfl) rfl (Nat.le_of_eq rfl) (hb hby at_177) (fun _ _ => ⟨rfl, p28_0, (by decide : 13 + 0 ≤ _), (by decide : 1046 + 0 ≤ _)⟩)
   dsimp only [Pt.U, Pt.locs, Pt.cells, Pt.slots] at X33 l33 y33 z33 st33 hQ33
   subst l33 y33 z33
   obtain ⟨pv_33, rfl, N33q, p33_0, p33_1⟩ := hQ33
   have N33 := Fr.app N28 N33q
   have R34 := fun t k => R32 t (st33.trans k)
   have R35 : own_R p e below T33 (mkF m 180 (fA0 ax ay az b22 fl iv_ p0 p1 p2 p3 p4 p5 rx ry rz) [(.long (own_p [] p1)), (.ref b22)]) s₁ f0 := by have q := R34; rw [((p33_1.1 (hno1 ha0).1 (hno1 ha0).2) : pv_33 = (own_p [] p1))] at q; exact q
   have R36 : own_R p e below T33 (mkF m 186 (fA0 ax ay az b22 fl iv_ p0 p1 p2 p3 p4 p5 rx ry rz) [(.int rx), (.int (p1 + (1 : Int32))), (.int p1), (.long (own_p [] p1)), (.ref b22)]) s₁ f0 := fun t k => R35 t (by
    refine XS.iloadN X33.here hx rfl (hb hby at_180) rfl ?_
    refine XS.iloadN X33.here hx rfl (hb hby at_181) rfl ?_
    refine XS.iconst X33.here hx rfl (hb hby at_182) ?_
    refine XS.iadd X33.here hx rfl (hb hby at_183) rfl ?_
    refine XS.iload X33.here hx rfl (hb hby at_184) rfl ?_
    exact k)
   by_cases hr_0 : rx = (0 : Int32)
   ·
    have R37 : own_R p e below T33 (mkF m 195 (fA0 ax ay az b22 fl iv_ p0 p1 p2 p3 p4 p5 rx ry rz) [.null, (.int (p1 + (1 : Int32))), (.int p1), (.long (own_p [] p1)), (.ref b22)]) s₁ f0 := fun t k => R36 t (by
     refine XS.ifYes X33.here hx rfl (pc0 := 186) (pc' := 194) rfl (hb hby at_186) rfl ((if0 _ _).trans (teq hr_0).1) (by decide) (by decide) ?_
     refine XS.aconstNull X33.here hx rfl (hb hby at_194) ?_
     exact k)
    obtain ⟨cq38, kq38, q38a, q38b, q38c⟩ := isOf hZ p33_0 f25_E_b22
    obtain ⟨_, _, ⟨T38, L38, k38, n38⟩, -, X38, ⟨Lc38, hQ38, l38, y38, z38⟩, st38⟩ := X33.virtualBack hx (y := yN0) (z := yN0) hown (mvT hZ (hU 87 _ rfl)) (mvT hZ (hU 88 _ rfl)) (notFace_of_selects (args := #[]) (mvT hZ (hU 90 _ rfl))) (mvT hZ (hU 90 _ rfl)) (mvT hZ (hU 89 _ rfl)) (by decide) (backOf (W := 0) (rmFa0 l Z a0 hw [] b22 p1 oR_25 ckR_25 kckR_25 kkR_25 fiR_25 kfiR_25 saR_25 kstR_25 oU_25 ckU_25 kckU_25 kkU_25 fiU_25 kfiU_25 saU_25 kstU_25 [] [] T25.heap n0 z25 p25_1 p25_2 f25_E_b22 p25_3 p25_4 p25_5 p25_6 p25_8 p25_10 p25_11 p25_12 p25_13 p25_18 p25_19 p25_20 p25_21 p25_22 p25_23 p25_24 p25_25 p25_26 p25_27 p25_28 g_saU_25 g_kkU_25 g_fiU_25 p25_67 p25_68 p25_69 (own_lR2 hi0) hi0.2.1 (own_lU2 hi0) hi0.2.2 (hno1 ha0).1 (hno1 ha0).2) hZ (hU 91 _ rfl) (hU 2 _ rfl) (by decide) (by decide)) q38a q38c (g := (mkF m 195 (fA0 ax ay az b22 fl iv_ p0 p1 p2 p3 p4 p5 rx ry rz) [.null, (.int (p1 + (1 : Int32))), (.int p1), (.long (own_p [] p1)), (.ref b22)])) rfl (by rw [hml]; rfl) (Steps.refl _) (argsL := [(.long (own_p [] p1)), (.int p1), (.int (p1 + (1 : Int32))), .null]) (rest := []) (lenOf pd_11 rfl) rfl (Nat.le_of_eq rfl) (hb hby at_195) (fun _ _ => ⟨rfl, p33_0, (by decide : 13 + 0 ≤ _), (by decide : 1046 + 0 ≤ _)⟩)
    dsimp only [Pt.U, Pt.locs, Pt.cells, Pt.slots] at X38 l38 y38 z38 st38 hQ38
    subst l38 y38 z38
    obtain ⟨rfl, N38q, p38_0, p38_1, p38_2, p38_3, p38_4⟩ := hQ38
    have N38 := Fr.app N33 N38q
    have f38_E_iv_ := f25_E_iv_.keep p38_0
    have f38_E_b22 := f25_E_b22.keep p38_0
    have f38_F_read_b22 := p25_1.keep p38_0 (ninS ne_b22_saU_25 (ninS ne_b22_kkU_25 (ninS ne_b22_fiU_25 nin0)))
    have f38_F_unread_b22 := p25_2.keep p38_0 (ninS ne_b22_saU_25 (ninS ne_b22_kkU_25 (ninS ne_b22_fiU_25 nin0)))
    have f38_E_oR_25 := p25_3.keep p38_0
    have f38_F_chunks_oR_25 := p25_4.keep p38_0 (ninS (Exa.neArv p25_3 p25_28 (hU 10 _ rfl)) (ninS (Exa.ne p25_3 p25_24 (by decide)) (ninS (Exa.neArv p25_3 p25_27 (hU 10 _ rfl)) nin0)))
    have f38_F_chunkCount_oR_25 := p25_5.keep p38_0 (ninS (Exa.neArv p25_3 p25_28 (hU 10 _ rfl)) (ninS (Exa.ne p25_3 p25_24 (by decide)) (ninS (Exa.neArv p25_3 p25_27 (hU 10 _ rfl)) nin0)))
    have f38_F_firsts_oR_25 := p25_6.keep p38_0 (ninS (Exa.neArv p25_3 p25_28 (hU 10 _ rfl)) (ninS (Exa.ne p25_3 p25_24 (by decide)) (ninS (Exa.neArv p25_3 p25_27 (hU 10 _ rfl)) nin0)))
    have f38_F_withItems_oR_25 := p25_7.keep p38_0 (ninS (Exa.neArv p25_3 p25_28 (hU 10 _ rfl)) (ninS (Exa.ne p25_3 p25_24 (by decide)) (ninS (Exa.neArv p25_3 p25_27 (hU 10 _ rfl)) nin0)))
    have f38_A_ckR_25 := p25_8.keep p38_0 (ninS p25_54 (ninS (Ne.symm (Exa.neArv p25_24 p25_8 (hU 25 _ rfl))) (ninS p25_52 nin0)))
    have f38_E_kkR_25 := p25_9.keep p38_0
    have f38_F_size_kkR_25 := p25_10.keep p38_0 (ninS (Exa.neArv p25_9 p25_28 (hU 25 _ rfl)) (ninS p25_71 (ninS (Exa.neArv p25_9 p25_27 (hU 25 _ rfl)) nin0)))
    have f38_F_starts_kkR_25 := p25_11.keep p38_0 (ninS (Exa.neArv p25_9 p25_28 (hU 25 _ rfl)) (ninS p25_71 (ninS (Exa.neArv p25_9 p25_27 (hU 25 _ rfl)) nin0)))
    have f38_A_fiR_25 := p25_12.keep p38_0 (ninS p25_48 (ninS (Ne.symm (Exa.neArv p25_24 p25_12 (hU 25 _ rfl))) (ninS p25_46 nin0)))
    have f38_A_saR_25 := p25_13.keep p38_0 (ninS p25_59 (ninS (Ne.symm (Exa.neArv p25_24 p25_13 (hU 25 _ rfl))) (ninS p25_57 nin0)))
    have f38_F_ends_kkR_25 := p25_14.keep p38_0 (ninS (Exa.neArv p25_9 p25_28 (hU 25 _ rfl)) (ninS p25_71 (ninS (Exa.neArv p25_9 p25_27 (hU 25 _ rfl)) nin0)))
    have f38_F_items_kkR_25 := p25_15.keep p38_0 (ninS (Exa.neArv p25_9 p25_28 (hU 25 _ rfl)) (ninS p25_71 (ninS (Exa.neArv p25_9 p25_27 (hU 25 _ rfl)) nin0)))
    have f38_A_enR_25 := p25_16.keep p38_0 (ninS p25_63 (ninS (Ne.symm (Exa.neArv p25_24 p25_16 (hU 25 _ rfl))) (ninS p25_61 nin0)))
    have f38_A_itR_25 := p25_17.keep p38_0 (ninS p25_66 (ninS (Ne.symm (Exa.neArv p25_24 p25_17 (hU 25 _ rfl))) (ninS p25_64 nin0)))
    have f38_E_oU_25 := p25_18.keep p38_0
    have f38_F_chunks_oU_25 := p25_19.keep p38_0 (ninS (Exa.neArv p25_18 p25_28 (hU 10 _ rfl)) (ninS (Exa.ne p25_18 p25_24 (by decide)) (ninS (Exa.neArv p25_18 p25_27 (hU 10 _ rfl)) nin0)))
    have f38_F_chunkCount_oU_25 := p25_20.keep p38_0 (ninS (Exa.neArv p25_18 p25_28 (hU 10 _ rfl)) (ninS (Exa.ne p25_18 p25_24 (by decide)) (ninS (Exa.neArv p25_18 p25_27 (hU 10 _ rfl)) nin0)))
    have f38_F_firsts_oU_25 := p25_21.keep p38_0 (ninS (Exa.neArv p25_18 p25_28 (hU 10 _ rfl)) (ninS (Exa.ne p25_18 p25_24 (by decide)) (ninS (Exa.neArv p25_18 p25_27 (hU 10 _ rfl)) nin0)))
    have f38_F_withItems_oU_25 := p25_22.keep p38_0 (ninS (Exa.neArv p25_18 p25_28 (hU 10 _ rfl)) (ninS (Exa.ne p25_18 p25_24 (by decide)) (ninS (Exa.neArv p25_18 p25_27 (hU 10 _ rfl)) nin0)))
    have f38_A_ckU_25 := p25_23.keep p38_0 (ninS p25_69 (ninS (Ne.symm (Exa.neArv p25_24 p25_23 (hU 25 _ rfl))) (ninS (Ne.symm p25_67) nin0)))
    have f38_E_kkU_25 := p25_24.keep p38_0
    have z38 : n0 ≤ T38.heap.size := Nat.le_trans z25 p38_0.1
    have K38 : Keep h0 T38.heap [] := K25.trans p38_0 (allS (Or.inr sz_saU_25) (allS (Or.inr sz_kkU_25) (allS (Or.inr sz_fiU_25) all0)))
    have R39 := fun t k => R37 t (st38.trans k)
    exact ⟨T38, _, [], (own_ins p1 []), X38, N38, z38, R39, (own_sr2 ha0 hr_0), (own_su2 ha0 hr_0), f38_E_b22, f38_F_read_b22, f38_F_unread_b22, f38_E_oR_25, f38_F_chunks_oR_25, f38_F_chunkCount_oR_25, f38_F_firsts_oR_25, f38_F_withItems_oR_25, f38_A_ckR_25, f38_E_kkR_25, f38_F_size_kkR_25, f38_F_starts_kkR_25, f38_A_fiR_25, f38_A_saR_25, f38_F_ends_kkR_25, f38_F_items_kkR_25, f38_A_enR_25, f38_A_itR_25, f38_E_oU_25, f38_F_chunks_oU_25, f38_F_chunkCount_oU_25, f38_F_firsts_oU_25, f38_F_withItems_oU_25, f38_A_ckU_25, f38_E_kkU_25, p38_1, p38_2, p38_3, p38_4, f38_E_iv_⟩
   ·
    have R40 : own_R p e below T33 (mkF m 195 (fA0 ax ay az b22 fl iv_ p0 p1 p2 p3 p4 p5 rx ry rz) [(.ref iv_), (.int (p1 + (1 : Int32))), (.int p1), (.long (own_p [] p1)), (.ref b22)]) s₁ f0 := fun t k => R36 t (by
     refine XS.ifNo X33.here hx rfl (hb hby at_186) rfl ((if0 _ _).trans (feq hr_0).1) ?_
     refine XS.aload X33.here hx rfl (hb hby at_189) rfl rfl ?_
     refine XS.goto X33.here hx rfl (pc0 := 191) (pc' := 195) rfl (hb hby at_191) (by decide) (by decide) ?_
     exact k)
    obtain ⟨cq41, kq41, q41a, q41b, q41c⟩ := isOf hZ p33_0 f25_E_b22
    obtain ⟨_, _, ⟨T41, L41, k41, n41⟩, -, X41, ⟨Lc41, hQ41, l41, y41, z41⟩, st41⟩ := X33.virtualBack hx (y := yN0) (z := yN0) hown (mvT hZ (hU 87 _ rfl)) (mvT hZ (hU 88 _ rfl)) (notFace_of_selects (args := #[]) (mvT hZ (hU 90 _ rfl))) (mvT hZ (hU 90 _ rfl)) (mvT hZ (hU 89 _ rfl)) (by decide) (backOf (W := 0) (rmFa1 l Z a0 hw [] b22 p1 iv_ oR_25 ckR_25 kckR_25 kkR_25 fiR_25 kfiR_25 saR_25 kstR_25 enR_25 kenR_25 itR_25 kitR_25 oU_25 ckU_25 kckU_25 kkU_25 fiU_25 kfiU_25 saU_25 kstU_25 [] [] T25.heap n0 z25 p25_1 p25_2 f25_E_b22 p25_3 p25_4 p25_5 p25_6 p25_7 p25_8 p25_9 p25_10 p25_11 p25_12 p25_13 p25_14 p25_15 p25_16 p25_17 f25_E_iv_ g_saR_25 g_enR_25 g_itR_25 g_kkR_25 g_fiR_25 p25_42 p25_43 p25_44 p25_45 p25_49 p25_50 p25_51 p25_55 p25_56 p25_60 p25_29 p25_18 p25_19 p25_20 p25_21 p25_23 p25_25 p25_26 p25_27 p25_28 (own_lR2 hi0) hi0.2.1 (own_lU2 hi0) hi0.2.2 (hno1 ha0).1 (hno1 ha0).2 (own_tot hi0 (by decide))) hZ (hU 91 _ rfl) (hU 2 _ rfl) (by decide) (by decide)) q41a q41c (g := (mkF m 195 (fA0 ax ay az b22 fl iv_ p0 p1 p2 p3 p4 p5 rx ry rz) [(.ref iv_), (.int (p1 + (1 : Int32))), (.int p1), (.long (own_p [] p1)), (.ref b22)])) rfl (by rw [hml]; rfl) (Steps.refl _) (argsL := [(.long (own_p [] p1)), (.int p1), (.int (p1 + (1 : Int32))), (.ref iv_)]) (rest := []) (lenOf pd_11 rfl) rfl (Nat.le_of_eq rfl) (hb hby at_195) (fun _ _ => ⟨rfl, p33_0, (by decide : 13 + 0 ≤ _), (by decide : 1046 + 0 ≤ _)⟩)
    dsimp only [Pt.U, Pt.locs, Pt.cells, Pt.slots] at X41 l41 y41 z41 st41 hQ41
    subst l41 y41 z41
    obtain ⟨rfl, N41q, p41_0, p41_1, p41_2, p41_3, p41_4, p41_5, p41_6, p41_7, p41_8⟩ := hQ41
    have N41 := Fr.app N33 N41q
    have f41_E_iv_ := f25_E_iv_.keep p41_0
    have f41_E_b22 := f25_E_b22.keep p41_0
    have f41_F_read_b22 := p25_1.keep p41_0 (ninS ne_b22_saR_25 (ninS ne_b22_enR_25 (ninS ne_b22_itR_25 (ninS ne_b22_kkR_25 (ninS ne_b22_fiR_25 nin0)))))
    have f41_F_unread_b22 := p25_2.keep p41_0 (ninS ne_b22_saR_25 (ninS ne_b22_enR_25 (ninS ne_b22_itR_25 (ninS ne_b22_kkR_25 (ninS ne_b22_fiR_25 nin0)))))
    have f41_E_oR_25 := p25_3.keep p41_0
    have f41_F_chunks_oR_25 := p25_4.keep p41_0 (ninS (Exa.neArv p25_3 p25_13 (hU 10 _ rfl)) (ninS (Exa.neArv p25_3 p25_16 (hU 10 _ rfl)) (ninS (Exa.neArv p25_3 p25_17 (hU 10 _ rfl)) (ninS (Exa.ne p25_3 p25_9 (by decide)) (ninS (Exa.neArv p25_3 p25_12 (hU 10 _ rfl)) nin0)))))
    have f41_F_chunkCount_oR_25 := p25_5.keep p41_0 (ninS (Exa.neArv p25_3 p25_13 (hU 10 _ rfl)) (ninS (Exa.neArv p25_3 p25_16 (hU 10 _ rfl)) (ninS (Exa.neArv p25_3 p25_17 (hU 10 _ rfl)) (ninS (Exa.ne p25_3 p25_9 (by decide)) (ninS (Exa.neArv p25_3 p25_12 (hU 10 _ rfl)) nin0)))))
    have f41_F_firsts_oR_25 := p25_6.keep p41_0 (ninS (Exa.neArv p25_3 p25_13 (hU 10 _ rfl)) (ninS (Exa.neArv p25_3 p25_16 (hU 10 _ rfl)) (ninS (Exa.neArv p25_3 p25_17 (hU 10 _ rfl)) (ninS (Exa.ne p25_3 p25_9 (by decide)) (ninS (Exa.neArv p25_3 p25_12 (hU 10 _ rfl)) nin0)))))
    have f41_F_withItems_oR_25 := p25_7.keep p41_0 (ninS (Exa.neArv p25_3 p25_13 (hU 10 _ rfl)) (ninS (Exa.neArv p25_3 p25_16 (hU 10 _ rfl)) (ninS (Exa.neArv p25_3 p25_17 (hU 10 _ rfl)) (ninS (Exa.ne p25_3 p25_9 (by decide)) (ninS (Exa.neArv p25_3 p25_12 (hU 10 _ rfl)) nin0)))))
    have f41_A_ckR_25 := p25_8.keep p41_0 (ninS p25_49 (ninS p25_50 (ninS p25_51 (ninS (Ne.symm (Exa.neArv p25_9 p25_8 (hU 25 _ rfl))) (ninS (Ne.symm p25_42) nin0)))))
    have f41_E_kkR_25 := p25_9.keep p41_0
    have f41_E_oU_25 := p25_18.keep p41_0
    have f41_F_chunks_oU_25 := p25_19.keep p41_0 (ninS (Exa.neArv p25_18 p25_13 (hU 10 _ rfl)) (ninS (Exa.neArv p25_18 p25_16 (hU 10 _ rfl)) (ninS (Exa.neArv p25_18 p25_17 (hU 10 _ rfl)) (ninS (Exa.ne p25_18 p25_9 (by decide)) (ninS (Exa.neArv p25_18 p25_12 (hU 10 _ rfl)) nin0)))))
    have f41_F_chunkCount_oU_25 := p25_20.keep p41_0 (ninS (Exa.neArv p25_18 p25_13 (hU 10 _ rfl)) (ninS (Exa.neArv p25_18 p25_16 (hU 10 _ rfl)) (ninS (Exa.neArv p25_18 p25_17 (hU 10 _ rfl)) (ninS (Exa.ne p25_18 p25_9 (by decide)) (ninS (Exa.neArv p25_18 p25_12 (hU 10 _ rfl)) nin0)))))
    have f41_F_firsts_oU_25 := p25_21.keep p41_0 (ninS (Exa.neArv p25_18 p25_13 (hU 10 _ rfl)) (ninS (Exa.neArv p25_18 p25_16 (hU 10 _ rfl)) (ninS (Exa.neArv p25_18 p25_17 (hU 10 _ rfl)) (ninS (Exa.ne p25_18 p25_9 (by decide)) (ninS (Exa.neArv p25_18 p25_12 (hU 10 _ rfl)) nin0)))))
    have f41_F_withItems_oU_25 := p25_22.keep p41_0 (ninS (Exa.neArv p25_18 p25_13 (hU 10 _ rfl)) (ninS (Exa.neArv p25_18 p25_16 (hU 10 _ rfl)) (ninS (Exa.neArv p25_18 p25_17 (hU 10 _ rfl)) (ninS (Exa.ne p25_18 p25_9 (by decide)) (ninS (Exa.neArv p25_18 p25_12 (hU 10 _ rfl)) nin0)))))
    have f41_A_ckU_25 := p25_23.keep p41_0 (ninS (Ne.symm p25_58) (ninS (Ne.symm p25_62) (ninS (Ne.symm p25_65) (ninS (Ne.symm (Exa.neArv p25_9 p25_23 (hU 25 _ rfl))) (ninS (Ne.symm p25_47) nin0)))))
    have f41_E_kkU_25 := p25_24.keep p41_0
    have f41_F_size_kkU_25 := p25_25.keep p41_0 (ninS (Exa.neArv p25_24 p25_13 (hU 25 _ rfl)) (ninS (Exa.neArv p25_24 p25_16 (hU 25 _ rfl)) (ninS (Exa.neArv p25_24 p25_17 (hU 25 _ rfl)) (ninS (Ne.symm p25_71) (ninS (Exa.neArv p25_24 p25_12 (hU 25 _ rfl)) nin0)))))
    have f41_F_starts_kkU_25 := p25_26.keep p41_0 (ninS (Exa.neArv p25_24 p25_13 (hU 25 _ rfl)) (ninS (Exa.neArv p25_24 p25_16 (hU 25 _ rfl)) (ninS (Exa.neArv p25_24 p25_17 (hU 25 _ rfl)) (ninS (Ne.symm p25_71) (ninS (Exa.neArv p25_24 p25_12 (hU 25 _ rfl)) nin0)))))
    have f41_A_fiU_25 := p25_27.keep p41_0 (ninS (Ne.symm p25_57) (ninS (Ne.symm p25_61) (ninS (Ne.symm p25_64) (ninS (Ne.symm (Exa.neArv p25_9 p25_27 (hU 25 _ rfl))) (ninS (Ne.symm p25_46) nin0)))))
    have f41_A_saU_25 := p25_28.keep p41_0 (ninS (Ne.symm p25_59) (ninS (Ne.symm p25_63) (ninS (Ne.symm p25_66) (ninS (Ne.symm (Exa.neArv p25_9 p25_28 (hU 25 _ rfl))) (ninS (Ne.symm p25_48) nin0)))))
    have z41 : n0 ≤ T41.heap.size := Nat.le_trans z25 p41_0.1
    have K41 : Keep h0 T41.heap [] := K25.trans p41_0 (allS (Or.inr sz_saR_25) (allS (Or.inr sz_enR_25) (allS (Or.inr sz_itR_25) (allS (Or.inr sz_kkR_25) (allS (Or.inr sz_fiR_25) all0)))))
    have R42 := fun t k => R40 t (st41.trans k)
    exact ⟨T41, _, (own_ins p1 []), [], X41, N41, z41, R42, (own_sr1 ha0 hr_0), (own_su1 ha0 hr_0), f41_E_b22, f41_F_read_b22, f41_F_unread_b22, f41_E_oR_25, f41_F_chunks_oR_25, f41_F_chunkCount_oR_25, f41_F_firsts_oR_25, f41_F_withItems_oR_25, f41_A_ckR_25, f41_E_kkR_25, p41_1, p41_2, p41_3, p41_4, p41_5, p41_6, p41_7, p41_8, f41_E_oU_25, f41_F_chunks_oU_25, f41_F_chunkCount_oU_25, f41_F_firsts_oU_25, f41_F_withItems_oU_25, f41_A_ckU_25, f41_E_kkU_25, f41_F_size_kkU_25, f41_F_starts_kkU_25, f41_A_fiU_25, f41_A_saU_25, f41_E_iv_⟩
 have hi1 : own_inv 1 rs1 us1 := own_invS hi0 (by decide) hno1 er1 eu1
 have hr1 : ∀ v : Int32, v ∈ rs1 → ¬ ax = 0 ∧ v = p1 := fun v h => (own_mR er1 (by decide) h).elim (fun z => (hr0 v z).elim) id
 have hu1 : ∀ v : Int32, v ∈ us1 → ¬ ax = 0 ∧ v = p1 := fun v h => (own_mU eu1 (by decide) h).elim (fun z => (hu0 v z).elim) id
 have hno2 : ¬ ay = (0 : Int32) → p2 ∉ rs1 ∧ p2 ∉ us1 := fun h => ⟨fun q => own_ayn e_ay h (hr1 _ q), fun q => own_ayn e_ay h (hu1 _ q)⟩
 have R44 : own_R p e below T43 (mkF m 200 (fA0 ax ay az b22 fl iv_ p0 p1 p2 p3 p4 p5 rx ry rz) [(.int ay)]) s₁ f0 := fun t k => R43 t (by
  refine XS.iload X43.here hx rfl (hb hby at_198) rfl ?_
  exact k)
 obtain ⟨T57, L57, rs2, us2, X57, N57, z57, R57, er2, eu2, j57_E_b22, j57_F_read_b22, j57_F_unread_b22, j57_E_oR_25, j57_F_chunks_oR_25, j57_F_chunkCount_oR_25, j57_F_firsts_oR_25, j57_F_withItems_oR_25, j57_A_ckR_25, j57_E_kkR_25, j57_F_size_kkR_25, j57_F_starts_kkR_25, j57_A_fiR_25, j57_A_saR_25, j57_F_ends_kkR_25, j57_F_items_kkR_25, j57_A_enR_25, j57_A_itR_25, j57_E_oU_25, j57_F_chunks_oU_25, j57_F_chunkCount_oU_25, j57_F_firsts_oU_25, j57_F_withItems_oU_25, j57_A_ckU_25, j57_E_kkU_25, j57_F_size_kkU_25, j57_F_starts_kkU_25, j57_A_fiU_25, j57_A_saU_25, j57_E_iv_⟩ : ∃ (T' : State) (L' : List Loc) (rs2 : List Int32) (us2 : List Int32), Stand p l e room_1 s m #[(.int p0), (.int p1), (.int p2), (.int p3), (.int p4), (.int p5)] below meth c T' L' 13 1046 ∧ Fr n0 L' ∧ n0 ≤ T'.heap.size ∧ (own_R p e below T' (mkF m 229 (fA0 ax ay az b22 fl iv_ p0 p1 p2 p3 p4 p5 rx ry rz) []) s₁ f0) ∧ (rs2 = own_sr ay ry p2 rs1) ∧ (us2 = own_su ay ry p2 us1) ∧ (Exa Z T'.heap b22 sN3) ∧ (Fld Z T'.heap b22 sN3 "read" sN4 (.ref oR_25)) ∧ (Fld Z T'.heap b22 sN3 "unread" sN4 (.ref oU_25)) ∧ (Exa Z T'.heap oR_25 sN1) ∧ (Fld Z T'.heap oR_25 sN1 "chunks" sN2 (.ref ckR_25)) ∧ (Fld Z T'.heap oR_25 sN1 "chunkCount" "I" (.int 1)) ∧ (Fld Z T'.heap oR_25 sN1 "firsts" "[I" (.ref fiR_25)) ∧ (Fld Z T'.heap oR_25 sN1 "withItems" "Z" (.int 1)) ∧ (Arv Z T'.heap ckR_25 kckR_25 (.object sN0) (1 : Int32) [(.ref kkR_25)] .null) ∧ (Exa Z T'.heap kkR_25 sN0) ∧ (Fld Z T'.heap kkR_25 sN0 "size" "I" (.int (own_n rs2))) ∧ (Fld Z T'.heap kkR_25 sN0 "starts" "[I" (.ref saR_25)) ∧ (Arv Z T'.heap fiR_25 kfiR_25 .int 1 [(.int (own_h rs2))] (.int 0)) ∧ (Arv Z T'.heap saR_25 kstR_25 .int 256 (own_v rs2) (.int 0)) ∧ (Fld Z T'.heap kkR_25 sN0 "ends" "[I" (.ref enR_25)) ∧ (Fld Z T'.heap kkR_25 sN0 "items" "[Ljava/lang/Object;" (.ref itR_25)) ∧ (Arv Z T'.heap enR_25 kenR_25 .int 256 (own_e rs2) (.int 0)) ∧ (Arv Z T'.heap itR_25 kitR_25 (.object "java/lang/Object") (256 : Int32) (own_i iv_ rs2) .null) ∧ (Exa Z T'.heap oU_25 sN1) ∧ (Fld Z T'.heap oU_25 sN1 "chunks" sN2 (.ref ckU_25)) ∧ (Fld Z T'.heap oU_25 sN1 "chunkCount" "I" (.int 1)) ∧ (Fld Z T'.heap oU_25 sN1 "firsts" "[I" (.ref fiU_25)) ∧ (Fld Z T'.heap oU_25 sN1 "withItems" "Z" (.int 0)) ∧ (Arv Z T'.heap ckU_25 kckU_25 (.object sN0) (1 : Int32) [(.ref kkU_25)] .null) ∧ (Exa Z T'.heap kkU_25 sN0) ∧ (Fld Z T'.heap kkU_25 sN0 "size" "I" (.int (own_n us2))) ∧ (Fld Z T'.heap kkU_25 sN0 "starts" "[I" (.ref saU_25)) ∧ (Arv Z T'.heap fiU_25 kfiU_25 .int 1 [(.int (own_h us2))] (.int 0)) ∧ (Arv Z T'.heap saU_25 kstU_25 .int 256 (own_v us2) (.int 0)) ∧ (Exa Z T'.heap iv_ "java/lang/Integer") := by
  by_cases ha1 : ay = (0 : Int32)
  ·
   have R45 : own_R p e below T43 (mkF m 229 (fA0 ax ay az b22 fl iv_ p0 p1 p2 p3 p4 p5 rx ry rz) []) s₁ f0 := fun t k => R44 t (by
    refine XS.ifYes X43.here hx rfl (pc0 := 200) (pc' := 229) rfl (hb hby at_200) rfl ((if0 _ _).trans (teq ha1).1) (by decide) (by decide) ?_
    exact k)
   exact ⟨T43, _, rs1, us1, X43, N43, z43, R45, (own_sr0 ha1), (own_su0 ha1), j43_E_b22, j43_F_read_b22, j43_F_unread_b22, j43_E_oR_25, j43_F_chunks_oR_25, j43_F_chunkCount_oR_25, j43_F_firsts_oR_25, j43_F_withItems_oR_25, j43_A_ckR_25, j43_E_kkR_25, j43_F_size_kkR_25, j43_F_starts_kkR_25, j43_A_fiR_25, j43_A_saR_25, j43_F_ends_kkR_25, j43_F_items_kkR_25, j43_A_enR_25, j43_A_itR_25, j43_E_oU_25, j43_F_chunks_oU_25, j43_F_chunkCount_oU_25, j43_F_firsts_oU_25, j43_F_withItems_oU_25, j43_A_ckU_25, j43_E_kkU_25, j43_F_size_kkU_25, j43_F_starts_kkU_25, j43_A_fiU_25, j43_A_saU_25, j43_E_iv_⟩
  ·
   have R46 : own_R p e below T43 (mkF m 208 (fA0 ax ay az b22 fl iv_ p0 p1 p2 p3 p4 p5 rx ry rz) [(.int p2), (.ref b22), (.ref b22)]) s₁ f0 := fun t k => R44 t (by
    refine XS.ifNo X43.here hx rfl (hb hby at_200) rfl ((if0 _ _).trans (feq ha1).1) ?_
    refine XS.aload X43.here hx rfl (hb hby at_203) rfl rfl ?_
    refine XS.aload X43.here hx rfl (hb hby at_205) rfl rfl ?_
    refine XS.iloadN X43.here hx rfl (hb hby at_207) rfl ?_
    exact k)
   obtain ⟨cq47, kq47, q47a, q47b, q47c⟩ := isOf hZ rfl j43_E_b22
   obtain ⟨_, _, ⟨T47, L47, k47, n47⟩, -, X47, ⟨Lc47, hQ47, l47, y47, z47⟩, st47⟩ := X43.virtualBack hx (y := yN2) (z := yN2) hown (mvT hZ (hU 53 _ rfl)) (mvT hZ (hU 54 _ rfl)) (notFace_of_selects (args := #[]) (mvT hZ (hU 56 _ rfl))) (mvT hZ (hU 56 _ rfl)) (mvT hZ (hU 55 _ rfl)) (by decide) (backOf (W := 1) (rmFf l Z a0 hw [] b22 p2 oR_25 ckR_25 kckR_25 kkR_25 fiR_25 kfiR_25 saR_25 kstR_25 oU_25 ckU_25 kckU_25 kkU_25 fiU_25 kfiU_25 saU_25 kstU_25 rs1 us1 T43.heap n0 z43 j43_F_read_b22 j43_F_unread_b22 j43_E_oR_25 j43_F_chunks_oR_25 j43_F_chunkCount_oR_25 j43_F_firsts_oR_25 j43_A_ckR_25 j43_F_size_kkR_25 j43_F_starts_kkR_25 j43_A_fiR_25 j43_A_saR_25 j43_E_oU_25 j43_F_chunks_oU_25 j43_F_chunkCount_oU_25 j43_F_firsts_oU_25 j43_A_ckU_25 j43_F_size_kkU_25 j43_F_starts_kkU_25 j43_A_fiU_25 j43_A_saU_25 (own_lR3 hi1) hi1.2.1 (own_lU3 hi1) hi1.2.2) hZ (hU 57 _ rfl) (hU 2 _ rfl) (by decide) (by decide)) q47a q47c (g := (mkF m 208 (fA0 ax ay az b22 fl iv_ p0 p1 p2 p3 p4 p5 rx ry rz) [(.int p2), (.ref b22), (.ref b22)])) rfl (by rw [hml]; rfl) (Steps.refl _) (argsL := [(.int p2)]) (rest := [(.ref b22)]) (lenOf pd_8 rfl) rfl (Nat.le_of_eq rfl) (hb hby at_208) (fun _ _ => ⟨rfl, rfl, (by decide : 13 + 0 ≤ _), (by decide : 1046 + 0 ≤ _)⟩)
   dsimp only [Pt.U, Pt.locs, Pt.cells, Pt.slots] at X47 l47 y47 z47 st47 hQ47
   subst l47 y47 z47
   obtain ⟨pv_47, rfl, N47q, p47_0, p47_1⟩ := hQ47
   have N47 := Fr.app N43 N47q
   have R48 := fun t k => R46 t (st47.trans k)
   have R49 : own_R p e below T47 (mkF m 211 (fA0 ax ay az b22 fl iv_ p0 p1 p2 p3 p4 p5 rx ry rz) [(.long (own_p rs1 p2)), (.ref b22)]) s₁ f0 := by have q := R48; rw [((p47_1.1 (hno2 ha1).1 (hno2 ha1).2) : pv_47 = (own_p rs1 p2))] at q; exact q
   have R50 : own_R p e below T47 (mkF m 217 (fA0 ax ay az b22 fl iv_ p0 p1 p2 p3 p4 p5 rx ry rz) [(.int ry), (.int (p2 + (1 : Int32))), (.int p2), (.long (own_p rs1 p2)), (.ref b22)]) s₁ f0 := fun t k => R49 t (by
    refine XS.iloadN X47.here hx rfl (hb hby at_211) rfl ?_
    refine XS.iloadN X47.here hx rfl (hb hby at_212) rfl ?_
    refine XS.iconst X47.here hx rfl (hb hby at_213) ?_
    refine XS.iadd X47.here hx rfl (hb hby at_214) rfl ?_
    refine XS.iload X47.here hx rfl (hb hby at_215) rfl ?_
    exact k)
   by_cases hr_1 : ry = (0 : Int32)
   ·
    have R51 : own_R p e below T47 (mkF m 226 (fA0 ax ay az b22 fl iv_ p0 p1 p2 p3 p4 p5 rx ry rz) [.null, (.int (p2 + (1 : Int32))), (.int p2), (.long (own_p rs1 p2)), (.ref b22)]) s₁ f0 := fun t k => R50 t (by
     refine XS.ifYes X47.here hx rfl (pc0 := 217) (pc' := 225) rfl (hb hby at_217) rfl ((if0 _ _).trans (teq hr_1).1) (by decide) (by decide) ?_
     refine XS.aconstNull X47.here hx rfl (hb hby at_225) ?_
     exact k)
    obtain ⟨cq52, kq52, q52a, q52b, q52c⟩ := isOf hZ p47_0 j43_E_b22
    obtain ⟨_, _, ⟨T52, L52, k52, n52⟩, -, X52, ⟨Lc52, hQ52, l52, y52, z52⟩, st52⟩ := X47.virtualBack hx (y := yN0) (z := yN0) hown (mvT hZ (hU 87 _ rfl)) (mvT hZ (hU 88 _ rfl)) (notFace_of_selects (args := #[]) (mvT hZ (hU 90 _ rfl))) (mvT hZ (hU 90 _ rfl)) (mvT hZ (hU 89 _ rfl)) (by decide) (backOf (W := 0) (rmFa0 l Z a0 hw [] b22 p2 oR_25 ckR_25 kckR_25 kkR_25 fiR_25 kfiR_25 saR_25 kstR_25 oU_25 ckU_25 kckU_25 kkU_25 fiU_25 kfiU_25 saU_25 kstU_25 rs1 us1 T43.heap n0 z43 j43_F_read_b22 j43_F_unread_b22 j43_E_b22 j43_E_oR_25 j43_F_chunks_oR_25 j43_F_chunkCount_oR_25 j43_F_firsts_oR_25 j43_A_ckR_25 j43_F_size_kkR_25 j43_F_starts_kkR_25 j43_A_fiR_25 j43_A_saR_25 j43_E_oU_25 j43_F_chunks_oU_25 j43_F_chunkCount_oU_25 j43_F_firsts_oU_25 j43_F_withItems_oU_25 j43_A_ckU_25 j43_E_kkU_25 j43_F_size_kkU_25 j43_F_starts_kkU_25 j43_A_fiU_25 j43_A_saU_25 g_saU_25 g_kkU_25 g_fiU_25 p25_67 p25_68 p25_69 (own_lR2 hi1) hi1.2.1 (own_lU2 hi1) hi1.2.2 (hno2 ha1).1 (hno2 ha1).2) hZ (hU 91 _ rfl) (hU 2 _ rfl) (by decide) (by decide)) q52a q52c (g := (mkF m 226 (fA0 ax ay az b22 fl iv_ p0 p1 p2 p3 p4 p5 rx ry rz) [.null, (.int (p2 + (1 : Int32))), (.int p2), (.long (own_p rs1 p2)), (.ref b22)])) rfl (by rw [hml]; rfl) (Steps.refl _) (argsL := [(.long (own_p rs1 p2)), (.int p2), (.int (p2 + (1 : Int32))), .null]) (rest := []) (lenOf pd_11 rfl) rfl (Nat.le_of_eq rfl) (hb hby at_226) (fun _ _ => ⟨rfl, p47_0, (by decide : 13 + 0 ≤ _), (by decide : 1046 + 0 ≤ _)⟩)
    dsimp only [Pt.U, Pt.locs, Pt.cells, Pt.slots] at X52 l52 y52 z52 st52 hQ52
    subst l52 y52 z52
    obtain ⟨rfl, N52q, p52_0, p52_1, p52_2, p52_3, p52_4⟩ := hQ52
    have N52 := Fr.app N47 N52q
    have f52_E_b22 := j43_E_b22.keep p52_0
    have f52_F_read_b22 := j43_F_read_b22.keep p52_0 (ninS ne_b22_saU_25 (ninS ne_b22_kkU_25 (ninS ne_b22_fiU_25 nin0)))
    have f52_F_unread_b22 := j43_F_unread_b22.keep p52_0 (ninS ne_b22_saU_25 (ninS ne_b22_kkU_25 (ninS ne_b22_fiU_25 nin0)))
    have f52_E_oR_25 := j43_E_oR_25.keep p52_0
    have f52_F_chunks_oR_25 := j43_F_chunks_oR_25.keep p52_0 (ninS (Exa.neArv j43_E_oR_25 j43_A_saU_25 (hU 10 _ rfl)) (ninS (Exa.ne j43_E_oR_25 j43_E_kkU_25 (by decide)) (ninS (Exa.neArv j43_E_oR_25 j43_A_fiU_25 (hU 10 _ rfl)) nin0)))
    have f52_F_chunkCount_oR_25 := j43_F_chunkCount_oR_25.keep p52_0 (ninS (Exa.neArv j43_E_oR_25 j43_A_saU_25 (hU 10 _ rfl)) (ninS (Exa.ne j43_E_oR_25 j43_E_kkU_25 (by decide)) (ninS (Exa.neArv j43_E_oR_25 j43_A_fiU_25 (hU 10 _ rfl)) nin0)))
    have f52_F_firsts_oR_25 := j43_F_firsts_oR_25.keep p52_0 (ninS (Exa.neArv j43_E_oR_25 j43_A_saU_25 (hU 10 _ rfl)) (ninS (Exa.ne j43_E_oR_25 j43_E_kkU_25 (by decide)) (ninS (Exa.neArv j43_E_oR_25 j43_A_fiU_25 (hU 10 _ rfl)) nin0)))
    have f52_F_withItems_oR_25 := j43_F_withItems_oR_25.keep p52_0 (ninS (Exa.neArv j43_E_oR_25 j43_A_saU_25 (hU 10 _ rfl)) (ninS (Exa.ne j43_E_oR_25 j43_E_kkU_25 (by decide)) (ninS (Exa.neArv j43_E_oR_25 j43_A_fiU_25 (hU 10 _ rfl)) nin0)))
    have f52_A_ckR_25 := j43_A_ckR_25.keep p52_0 (ninS p25_54 (ninS (Ne.symm (Exa.neArv j43_E_kkU_25 j43_A_ckR_25 (hU 25 _ rfl))) (ninS p25_52 nin0)))
    have f52_E_kkR_25 := j43_E_kkR_25.keep p52_0
    have f52_F_size_kkR_25 := j43_F_size_kkR_25.keep p52_0 (ninS (Exa.neArv j43_E_kkR_25 j43_A_saU_25 (hU 25 _ rfl)) (ninS p25_71 (ninS (Exa.neArv j43_E_kkR_25 j43_A_fiU_25 (hU 25 _ rfl)) nin0)))
    have f52_F_starts_kkR_25 := j43_F_starts_kkR_25.keep p52_0 (ninS (Exa.neArv j43_E_kkR_25 j43_A_saU_25 (hU 25 _ rfl)) (ninS p25_71 (ninS (Exa.neArv j43_E_kkR_25 j43_A_fiU_25 (hU 25 _ rfl)) nin0)))
    have f52_A_fiR_25 := j43_A_fiR_25.keep p52_0 (ninS p25_48 (ninS (Ne.symm (Exa.neArv j43_E_kkU_25 j43_A_fiR_25 (hU 25 _ rfl))) (ninS p25_46 nin0)))
    have f52_A_saR_25 := j43_A_saR_25.keep p52_0 (ninS p25_59 (ninS (Ne.symm (Exa.neArv j43_E_kkU_25 j43_A_saR_25 (hU 25 _ rfl))) (ninS p25_57 nin0)))
    have f52_F_ends_kkR_25 := j43_F_ends_kkR_25.keep p52_0 (ninS (Exa.neArv j43_E_kkR_25 j43_A_saU_25 (hU 25 _ rfl)) (ninS p25_71 (ninS (Exa.neArv j43_E_kkR_25 j43_A_fiU_25 (hU 25 _ rfl)) nin0)))
    have f52_F_items_kkR_25 := j43_F_items_kkR_25.keep p52_0 (ninS (Exa.neArv j43_E_kkR_25 j43_A_saU_25 (hU 25 _ rfl)) (ninS p25_71 (ninS (Exa.neArv j43_E_kkR_25 j43_A_fiU_25 (hU 25 _ rfl)) nin0)))
    have f52_A_enR_25 := j43_A_enR_25.keep p52_0 (ninS p25_63 (ninS (Ne.symm (Exa.neArv j43_E_kkU_25 j43_A_enR_25 (hU 25 _ rfl))) (ninS p25_61 nin0)))
    have f52_A_itR_25 := j43_A_itR_25.keep p52_0 (ninS p25_66 (ninS (Ne.symm (Exa.neArv j43_E_kkU_25 j43_A_itR_25 (hU 25 _ rfl))) (ninS p25_64 nin0)))
    have f52_E_oU_25 := j43_E_oU_25.keep p52_0
    have f52_F_chunks_oU_25 := j43_F_chunks_oU_25.keep p52_0 (ninS (Exa.neArv j43_E_oU_25 j43_A_saU_25 (hU 10 _ rfl)) (ninS (Exa.ne j43_E_oU_25 j43_E_kkU_25 (by decide)) (ninS (Exa.neArv j43_E_oU_25 j43_A_fiU_25 (hU 10 _ rfl)) nin0)))
    have f52_F_chunkCount_oU_25 := j43_F_chunkCount_oU_25.keep p52_0 (ninS (Exa.neArv j43_E_oU_25 j43_A_saU_25 (hU 10 _ rfl)) (ninS (Exa.ne j43_E_oU_25 j43_E_kkU_25 (by decide)) (ninS (Exa.neArv j43_E_oU_25 j43_A_fiU_25 (hU 10 _ rfl)) nin0)))
    have f52_F_firsts_oU_25 := j43_F_firsts_oU_25.keep p52_0 (ninS (Exa.neArv j43_E_oU_25 j43_A_saU_25 (hU 10 _ rfl)) (ninS (Exa.ne j43_E_oU_25 j43_E_kkU_25 (by decide)) (ninS (Exa.neArv j43_E_oU_25 j43_A_fiU_25 (hU 10 _ rfl)) nin0)))
    have f52_F_withItems_oU_25 := j43_F_withItems_oU_25.keep p52_0 (ninS (Exa.neArv j43_E_oU_25 j43_A_saU_25 (hU 10 _ rfl)) (ninS (Exa.ne j43_E_oU_25 j43_E_kkU_25 (by decide)) (ninS (Exa.neArv j43_E_oU_25 j43_A_fiU_25 (hU 10 _ rfl)) nin0)))
    have f52_A_ckU_25 := j43_A_ckU_25.keep p52_0 (ninS p25_69 (ninS (Ne.symm (Exa.neArv j43_E_kkU_25 j43_A_ckU_25 (hU 25 _ rfl))) (ninS (Ne.symm p25_67) nin0)))
    have f52_E_kkU_25 := j43_E_kkU_25.keep p52_0
    have f52_E_iv_ := j43_E_iv_.keep p52_0
    have z52 : n0 ≤ T52.heap.size := Nat.le_trans z43 p52_0.1
    have R53 := fun t k => R51 t (st52.trans k)
    exact ⟨T52, _, rs1, (own_ins p2 us1), X52, N52, z52, R53, (own_sr2 ha1 hr_1), (own_su2 ha1 hr_1), f52_E_b22, f52_F_read_b22, f52_F_unread_b22, f52_E_oR_25, f52_F_chunks_oR_25, f52_F_chunkCount_oR_25, f52_F_firsts_oR_25, f52_F_withItems_oR_25, f52_A_ckR_25, f52_E_kkR_25, f52_F_size_kkR_25, f52_F_starts_kkR_25, f52_A_fiR_25, f52_A_saR_25, f52_F_ends_kkR_25, f52_F_items_kkR_25, f52_A_enR_25, f52_A_itR_25, f52_E_oU_25, f52_F_chunks_oU_25, f52_F_chunkCount_oU_25, f52_F_firsts_oU_25, f52_F_withItems_oU_25, f52_A_ckU_25, f52_E_kkU_25, p52_1, p52_2, p52_3, p52_4, f52_E_iv_⟩
   ·
    have R54 : own_R p e below T47 (mkF m 226 (fA0 ax ay az b22 fl iv_ p0 p1 p2 p3 p4 p5 rx ry rz) [(.ref iv_), (.int (p2 + (1 : Int32))), (.int p2), (.long (own_p rs1 p2)), (.ref b22)]) s₁ f0 := fun t k => R50 t (by
     refine XS.ifNo X47.here hx rfl (hb hby at_217) rfl ((if0 _ _).trans (feq hr_1).1) ?_
     refine XS.aload X47.here hx rfl (hb hby at_220) rfl rfl ?_
     refine XS.goto X47.here hx rfl (pc0 := 222) (pc' := 226) rfl (hb hby at_222) (by decide) (by decide) ?_
     exact k)
    obtain ⟨cq55, kq55, q55a, q55b, q55c⟩ := isOf hZ p47_0 j43_E_b22
    obtain ⟨_, _, ⟨T55, L55, k55, n55⟩, -, X55, ⟨Lc55, hQ55, l55, y55, z55⟩, st55⟩ := X47.virtualBack hx (y := yN0) (z := yN0) hown (mvT hZ (hU 87 _ rfl)) (mvT hZ (hU 88 _ rfl)) (notFace_of_selects (args := #[]) (mvT hZ (hU 90 _ rfl))) (mvT hZ (hU 90 _ rfl)) (mvT hZ (hU 89 _ rfl)) (by decide) (backOf (W := 0) (rmFa1 l Z a0 hw [] b22 p2 iv_ oR_25 ckR_25 kckR_25 kkR_25 fiR_25 kfiR_25 saR_25 kstR_25 enR_25 kenR_25 itR_25 kitR_25 oU_25 ckU_25 kckU_25 kkU_25 fiU_25 kfiU_25 saU_25 kstU_25 rs1 us1 T43.heap n0 z43 j43_F_read_b22 j43_F_unread_b22 j43_E_b22 j43_E_oR_25 j43_F_chunks_oR_25 j43_F_chunkCount_oR_25 j43_F_firsts_oR_25 j43_F_withItems_oR_25 j43_A_ckR_25 j43_E_kkR_25 j43_F_size_kkR_25 j43_F_starts_kkR_25 j43_A_fiR_25 j43_A_saR_25 j43_F_ends_kkR_25 j43_F_items_kkR_25 j43_A_enR_25 j43_A_itR_25 j43_E_iv_ g_saR_25 g_enR_25 g_itR_25 g_kkR_25 g_fiR_25 p25_42 p25_43 p25_44 p25_45 p25_49 p25_50 p25_51 p25_55 p25_56 p25_60 p25_29 j43_E_oU_25 j43_F_chunks_oU_25 j43_F_chunkCount_oU_25 j43_F_firsts_oU_25 j43_A_ckU_25 j43_F_size_kkU_25 j43_F_starts_kkU_25 j43_A_fiU_25 j43_A_saU_25 (own_lR2 hi1) hi1.2.1 (own_lU2 hi1) hi1.2.2 (hno2 ha1).1 (hno2 ha1).2 (own_tot hi1 (by decide))) hZ (hU 91 _ rfl) (hU 2 _ rfl) (by decide) (by decide)) q55a q55c (g := (mkF m 226 (fA0 ax ay az b22 fl iv_ p0 p1 p2 p3 p4 p5 rx ry rz) [(.ref iv_), (.int (p2 + (1 : Int32))), (.int p2), (.long (own_p rs1 p2)), (.ref b22)])) rfl (by rw [hml]; rfl) (Steps.refl _) (argsL := [(.long (own_p rs1 p2)), (.int p2), (.int (p2 + (1 : Int32))), (.ref iv_)]) (rest := []) (lenOf pd_11 rfl) rfl (Nat.le_of_eq rfl) (hb hby at_226) (fun _ _ => ⟨rfl, p47_0, (by decide : 13 + 0 ≤ _), (by decide : 1046 + 0 ≤ _)⟩)
    dsimp only [Pt.U, Pt.locs, Pt.cells, Pt.slots] at X55 l55 y55 z55 st55 hQ55
    subst l55 y55 z55
    obtain ⟨rfl, N55q, p55_0, p55_1, p55_2, p55_3, p55_4, p55_5, p55_6, p55_7, p55_8⟩ := hQ55
    have N55 := Fr.app N47 N55q
    have f55_E_b22 := j43_E_b22.keep p55_0
    have f55_F_read_b22 := j43_F_read_b22.keep p55_0 (ninS ne_b22_saR_25 (ninS ne_b22_enR_25 (ninS ne_b22_itR_25 (ninS ne_b22_kkR_25 (ninS ne_b22_fiR_25 nin0)))))
    have f55_F_unread_b22 := j43_F_unread_b22.keep p55_0 (ninS ne_b22_saR_25 (ninS ne_b22_enR_25 (ninS ne_b22_itR_25 (ninS ne_b22_kkR_25 (ninS ne_b22_fiR_25 nin0)))))
    have f55_E_oR_25 := j43_E_oR_25.keep p55_0
    have f55_F_chunks_oR_25 := j43_F_chunks_oR_25.keep p55_0 (ninS (Exa.neArv j43_E_oR_25 j43_A_saR_25 (hU 10 _ rfl)) (ninS (Exa.neArv j43_E_oR_25 j43_A_enR_25 (hU 10 _ rfl)) (ninS (Exa.neArv j43_E_oR_25 j43_A_itR_25 (hU 10 _ rfl)) (ninS (Exa.ne j43_E_oR_25 j43_E_kkR_25 (by decide)) (ninS (Exa.neArv j43_E_oR_25 j43_A_fiR_25 (hU 10 _ rfl)) nin0)))))
    have f55_F_chunkCount_oR_25 := j43_F_chunkCount_oR_25.keep p55_0 (ninS (Exa.neArv j43_E_oR_25 j43_A_saR_25 (hU 10 _ rfl)) (ninS (Exa.neArv j43_E_oR_25 j43_A_enR_25 (hU 10 _ rfl)) (ninS (Exa.neArv j43_E_oR_25 j43_A_itR_25 (hU 10 _ rfl)) (ninS (Exa.ne j43_E_oR_25 j43_E_kkR_25 (by decide)) (ninS (Exa.neArv j43_E_oR_25 j43_A_fiR_25 (hU 10 _ rfl)) nin0)))))
    have f55_F_firsts_oR_25 := j43_F_firsts_oR_25.keep p55_0 (ninS (Exa.neArv j43_E_oR_25 j43_A_saR_25 (hU 10 _ rfl)) (ninS (Exa.neArv j43_E_oR_25 j43_A_enR_25 (hU 10 _ rfl)) (ninS (Exa.neArv j43_E_oR_25 j43_A_itR_25 (hU 10 _ rfl)) (ninS (Exa.ne j43_E_oR_25 j43_E_kkR_25 (by decide)) (ninS (Exa.neArv j43_E_oR_25 j43_A_fiR_25 (hU 10 _ rfl)) nin0)))))
    have f55_F_withItems_oR_25 := j43_F_withItems_oR_25.keep p55_0 (ninS (Exa.neArv j43_E_oR_25 j43_A_saR_25 (hU 10 _ rfl)) (ninS (Exa.neArv j43_E_oR_25 j43_A_enR_25 (hU 10 _ rfl)) (ninS (Exa.neArv j43_E_oR_25 j43_A_itR_25 (hU 10 _ rfl)) (ninS (Exa.ne j43_E_oR_25 j43_E_kkR_25 (by decide)) (ninS (Exa.neArv j43_E_oR_25 j43_A_fiR_25 (hU 10 _ rfl)) nin0)))))
    have f55_A_ckR_25 := j43_A_ckR_25.keep p55_0 (ninS p25_49 (ninS p25_50 (ninS p25_51 (ninS (Ne.symm (Exa.neArv j43_E_kkR_25 j43_A_ckR_25 (hU 25 _ rfl))) (ninS (Ne.symm p25_42) nin0)))))
    have f55_E_kkR_25 := j43_E_kkR_25.keep p55_0
    have f55_E_oU_25 := j43_E_oU_25.keep p55_0
    have f55_F_chunks_oU_25 := j43_F_chunks_oU_25.keep p55_0 (ninS (Exa.neArv j43_E_oU_25 j43_A_saR_25 (hU 10 _ rfl)) (ninS (Exa.neArv j43_E_oU_25 j43_A_enR_25 (hU 10 _ rfl)) (ninS (Exa.neArv j43_E_oU_25 j43_A_itR_25 (hU 10 _ rfl)) (ninS (Exa.ne j43_E_oU_25 j43_E_kkR_25 (by decide)) (ninS (Exa.neArv j43_E_oU_25 j43_A_fiR_25 (hU 10 _ rfl)) nin0)))))
    have f55_F_chunkCount_oU_25 := j43_F_chunkCount_oU_25.keep p55_0 (ninS (Exa.neArv j43_E_oU_25 j43_A_saR_25 (hU 10 _ rfl)) (ninS (Exa.neArv j43_E_oU_25 j43_A_enR_25 (hU 10 _ rfl)) (ninS (Exa.neArv j43_E_oU_25 j43_A_itR_25 (hU 10 _ rfl)) (ninS (Exa.ne j43_E_oU_25 j43_E_kkR_25 (by decide)) (ninS (Exa.neArv j43_E_oU_25 j43_A_fiR_25 (hU 10 _ rfl)) nin0)))))
    have f55_F_firsts_oU_25 := j43_F_firsts_oU_25.keep p55_0 (ninS (Exa.neArv j43_E_oU_25 j43_A_saR_25 (hU 10 _ rfl)) (ninS (Exa.neArv j43_E_oU_25 j43_A_enR_25 (hU 10 _ rfl)) (ninS (Exa.neArv j43_E_oU_25 j43_A_itR_25 (hU 10 _ rfl)) (ninS (Exa.ne j43_E_oU_25 j43_E_kkR_25 (by decide)) (ninS (Exa.neArv j43_E_oU_25 j43_A_fiR_25 (hU 10 _ rfl)) nin0)))))
    have f55_F_withItems_oU_25 := j43_F_withItems_oU_25.keep p55_0 (ninS (Exa.neArv j43_E_oU_25 j43_A_saR_25 (hU 10 _ rfl)) (ninS (Exa.neArv j43_E_oU_25 j43_A_enR_25 (hU 10 _ rfl)) (ninS (Exa.neArv j43_E_oU_25 j43_A_itR_25 (hU 10 _ rfl)) (ninS (Exa.ne j43_E_oU_25 j43_E_kkR_25 (by decide)) (ninS (Exa.neArv j43_E_oU_25 j43_A_fiR_25 (hU 10 _ rfl)) nin0)))))
    have f55_A_ckU_25 := j43_A_ckU_25.keep p55_0 (ninS (Ne.symm p25_58) (ninS (Ne.symm p25_62) (ninS (Ne.symm p25_65) (ninS (Ne.symm (Exa.neArv j43_E_kkR_25 j43_A_ckU_25 (hU 25 _ rfl))) (ninS (Ne.symm p25_47) nin0)))))
    have f55_E_kkU_25 := j43_E_kkU_25.keep p55_0
    have f55_F_size_kkU_25 := j43_F_size_kkU_25.keep p55_0 (ninS (Exa.neArv j43_E_kkU_25 j43_A_saR_25 (hU 25 _ rfl)) (ninS (Exa.neArv j43_E_kkU_25 j43_A_enR_25 (hU 25 _ rfl)) (ninS (Exa.neArv j43_E_kkU_25 j43_A_itR_25 (hU 25 _ rfl)) (ninS (Ne.symm p25_71) (ninS (Exa.neArv j43_E_kkU_25 j43_A_fiR_25 (hU 25 _ rfl)) nin0)))))
    have f55_F_starts_kkU_25 := j43_F_starts_kkU_25.keep p55_0 (ninS (Exa.neArv j43_E_kkU_25 j43_A_saR_25 (hU 25 _ rfl)) (ninS (Exa.neArv j43_E_kkU_25 j43_A_enR_25 (hU 25 _ rfl)) (ninS (Exa.neArv j43_E_kkU_25 j43_A_itR_25 (hU 25 _ rfl)) (ninS (Ne.symm p25_71) (ninS (Exa.neArv j43_E_kkU_25 j43_A_fiR_25 (hU 25 _ rfl)) nin0)))))
    have f55_A_fiU_25 := j43_A_fiU_25.keep p55_0 (ninS (Ne.symm p25_57) (ninS (Ne.symm p25_61) (ninS (Ne.symm p25_64) (ninS (Ne.symm (Exa.neArv j43_E_kkR_25 j43_A_fiU_25 (hU 25 _ rfl))) (ninS (Ne.symm p25_46) nin0)))))
    have f55_A_saU_25 := j43_A_saU_25.keep p55_0 (ninS (Ne.symm p25_59) (ninS (Ne.symm p25_63) (ninS (Ne.symm p25_66) (ninS (Ne.symm (Exa.neArv j43_E_kkR_25 j43_A_saU_25 (hU 25 _ rfl))) (ninS (Ne.symm p25_48) nin0)))))
    have f55_E_iv_ := j43_E_iv_.keep p55_0
    have z55 : n0 ≤ T55.heap.size := Nat.le_trans z43 p55_0.1
    have R56 := fun t k => R54 t (st55.trans k)
    exact ⟨T55, _, (own_ins p2 rs1), us1, X55, N55, z55, R56, (own_sr1 ha1 hr_1), (own_su1 ha1 hr_1), f55_E_b22, f55_F_read_b22, f55_F_unread_b22, f55_E_oR_25, f55_F_chunks_oR_25, f55_F_chunkCount_oR_25, f55_F_firsts_oR_25, f55_F_withItems_oR_25, f55_A_ckR_25, f55_E_kkR_25, p55_1, p55_2, p55_3, p55_4, p55_5, p55_6, p55_7, p55_8, f55_E_oU_25, f55_F_chunks_oU_25, f55_F_chunkCount_oU_25, f55_F_firsts_oU_25, f55_F_withItems_oU_25, f55_A_ckU_25, f55_E_kkU_25, f55_F_size_kkU_25, f55_F_starts_kkU_25, f55_A_fiU_25, f55_A_saU_25, f55_E_iv_⟩
 have hi2 : own_inv 2 rs2 us2 := own_invS hi1 (by decide) hno2 er2 eu2
 have hr2 : ∀ v : Int32, v ∈ rs2 → (¬ ax = 0 ∧ v = p1) ∨ (¬ ay = 0 ∧ v = p2) := fun v h => (own_mR er2 (own_lR2 hi1) h).imp (hr1 v) id
 have hu2 : ∀ v : Int32, v ∈ us2 → (¬ ax = 0 ∧ v = p1) ∨ (¬ ay = 0 ∧ v = p2) := fun v h => (own_mU eu2 (own_lU2 hi1) h).imp (hu1 v) id
 have hno3 : ¬ az = (0 : Int32) → p3 ∉ rs2 ∧ p3 ∉ us2 := fun h => ⟨fun q => own_azn e_az h (hr2 _ q), fun q => own_azn e_az h (hu2 _ q)⟩
 have R58 : own_R p e below T57 (mkF m 231 (fA0 ax ay az b22 fl iv_ p0 p1 p2 p3 p4 p5 rx ry rz) [(.int az)]) s₁ f0 := fun t k => R57 t (by
  refine XS.iload X57.here hx rfl (hb hby at_229) rfl ?_
  exact k)
 obtain ⟨T71, L71, rs3, us3, X71, N71, z71, R71, er3, eu3, j71_E_b22, j71_F_read_b22, j71_F_unread_b22, j71_E_oR_25, j71_F_chunks_oR_25, j71_F_chunkCount_oR_25, j71_F_firsts_oR_25, j71_F_withItems_oR_25, j71_A_ckR_25, j71_E_kkR_25, j71_F_size_kkR_25, j71_F_starts_kkR_25, j71_A_fiR_25, j71_A_saR_25, j71_F_ends_kkR_25, j71_F_items_kkR_25, j71_A_enR_25, j71_A_itR_25, j71_E_oU_25, j71_F_chunks_oU_25, j71_F_chunkCount_oU_25, j71_F_firsts_oU_25, j71_F_withItems_oU_25, j71_A_ckU_25, j71_E_kkU_25, j71_F_size_kkU_25, j71_F_starts_kkU_25, j71_A_fiU_25, j71_A_saU_25, j71_E_iv_⟩ : ∃ (T' : State) (L' : List Loc) (rs3 : List Int32) (us3 : List Int32), Stand p l e room_1 s m #[(.int p0), (.int p1), (.int p2), (.int p3), (.int p4), (.int p5)] below meth c T' L' 13 1046 ∧ Fr n0 L' ∧ n0 ≤ T'.heap.size ∧ (own_R p e below T' (mkF m 260 (fA0 ax ay az b22 fl iv_ p0 p1 p2 p3 p4 p5 rx ry rz) []) s₁ f0) ∧ (rs3 = own_sr az rz p3 rs2) ∧ (us3 = own_su az rz p3 us2) ∧ (Exa Z T'.heap b22 sN3) ∧ (Fld Z T'.heap b22 sN3 "read" sN4 (.ref oR_25)) ∧ (Fld Z T'.heap b22 sN3 "unread" sN4 (.ref oU_25)) ∧ (Exa Z T'.heap oR_25 sN1) ∧ (Fld Z T'.heap oR_25 sN1 "chunks" sN2 (.ref ckR_25)) ∧ (Fld Z T'.heap oR_25 sN1 "chunkCount" "I" (.int 1)) ∧ (Fld Z T'.heap oR_25 sN1 "firsts" "[I" (.ref fiR_25)) ∧ (Fld Z T'.heap oR_25 sN1 "withItems" "Z" (.int 1)) ∧ (Arv Z T'.heap ckR_25 kckR_25 (.object sN0) (1 : Int32) [(.ref kkR_25)] .null) ∧ (Exa Z T'.heap kkR_25 sN0) ∧ (Fld Z T'.heap kkR_25 sN0 "size" "I" (.int (own_n rs3))) ∧ (Fld Z T'.heap kkR_25 sN0 "starts" "[I" (.ref saR_25)) ∧ (Arv Z T'.heap fiR_25 kfiR_25 .int 1 [(.int (own_h rs3))] (.int 0)) ∧ (Arv Z T'.heap saR_25 kstR_25 .int 256 (own_v rs3) (.int 0)) ∧ (Fld Z T'.heap kkR_25 sN0 "ends" "[I" (.ref enR_25)) ∧ (Fld Z T'.heap kkR_25 sN0 "items" "[Ljava/lang/Object;" (.ref itR_25)) ∧ (Arv Z T'.heap enR_25 kenR_25 .int 256 (own_e rs3) (.int 0)) ∧ (Arv Z T'.heap itR_25 kitR_25 (.object "java/lang/Object") (256 : Int32) (own_i iv_ rs3) .null) ∧ (Exa Z T'.heap oU_25 sN1) ∧ (Fld Z T'.heap oU_25 sN1 "chunks" sN2 (.ref ckU_25)) ∧ (Fld Z T'.heap oU_25 sN1 "chunkCount" "I" (.int 1)) ∧ (Fld Z T'.heap oU_25 sN1 "firsts" "[I" (.ref fiU_25)) ∧ (Fld Z T'.heap oU_25 sN1 "withItems" "Z" (.int 0)) ∧ (Arv Z T'.heap ckU_25 kckU_25 (.object sN0) (1 : Int32) [(.ref kkU_25)] .null) ∧ (Exa Z T'.heap kkU_25 sN0) ∧ (Fld Z T'.heap kkU_25 sN0 "size" "I" (.int (own_n us3))) ∧ (Fld Z T'.heap kkU_25 sN0 "starts" "[I" (.ref saU_25)) ∧ (Arv Z T'.heap fiU_25 kfiU_25 .int 1 [(.int (own_h us3))] (.int 0)) ∧ (Arv Z T'.heap saU_25 kstU_25 .int 256 (own_v us3) (.int 0)) ∧ (Exa Z T'.heap iv_ "java/lang/Integer") := by
  by_cases ha2 : az = (0 : Int32)
  ·
   have R59 : own_R p e below T57 (mkF m 260 (fA0 ax ay az b22 fl iv_ p0 p1 p2 p3 p4 p5 rx ry rz) []) s₁ f0 := fun t k => R58 t (by
    refine XS.ifYes X57.here hx rfl (pc0 := 231) (pc' := 260) rfl (hb hby at_231) rfl ((if0 _ _).trans (teq ha2).1) (by decide) (by decide) ?_
    exact k)
   exact ⟨T57, _, rs2, us2, X57, N57, z57, R59, (own_sr0 ha2), (own_su0 ha2), j57_E_b22, j57_F_read_b22, j57_F_unread_b22, j57_E_oR_25, j57_F_chunks_oR_25, j57_F_chunkCount_oR_25, j57_F_firsts_oR_25, j57_F_withItems_oR_25, j57_A_ckR_25, j57_E_kkR_25, j57_F_size_kkR_25, j57_F_starts_kkR_25, j57_A_fiR_25, j57_A_saR_25, j57_F_ends_kkR_25, j57_F_items_kkR_25, j57_A_enR_25, j57_A_itR_25, j57_E_oU_25, j57_F_chunks_oU_25, j57_F_chunkCount_oU_25, j57_F_firsts_oU_25, j57_F_withItems_oU_25, j57_A_ckU_25, j57_E_kkU_25, j57_F_size_kkU_25, j57_F_starts_kkU_25, j57_A_fiU_25, j57_A_saU_25, j57_E_iv_⟩
  ·
   have R60 : own_R p e below T57 (mkF m 239 (fA0 ax ay az b22 fl iv_ p0 p1 p2 p3 p4 p5 rx ry rz) [(.int p3), (.ref b22), (.ref b22)]) s₁ f0 := fun t k => R58 t (by
    refine XS.ifNo X57.here hx rfl (hb hby at_231) rfl ((if0 _ _).trans (feq ha2).1) ?_
    refine XS.aload X57.here hx rfl (hb hby at_234) rfl rfl ?_
    refine XS.aload X57.here hx rfl (hb hby at_236) rfl rfl ?_
    refine XS.iloadN X57.here hx rfl (hb hby at_238) rfl ?_
    exact k)
   obtain ⟨cq61, kq61, q61a, q61b, q61c⟩ := isOf hZ rfl j57_E_b22
   obtain ⟨_, _, ⟨T61, L61, k61, n61⟩, -, X61, ⟨Lc61, hQ61, l61, y61, z61⟩, st61⟩ := X57.virtualBack hx (y := yN2) (z := yN2) hown (mvT hZ (hU 53 _ rfl)) (mvT hZ (hU 54 _ rfl)) (notFace_of_selects (args := #[]) (mvT hZ (hU 56 _ rfl))) (mvT hZ (hU 56 _ rfl)) (mvT hZ (hU 55 _ rfl)) (by decide) (backOf (W := 1) (rmFf l Z a0 hw [] b22 p3 oR_25 ckR_25 kckR_25 kkR_25 fiR_25 kfiR_25 saR_25 kstR_25 oU_25 ckU_25 kckU_25 kkU_25 fiU_25 kfiU_25 saU_25 kstU_25 rs2 us2 T57.heap n0 z57 j57_F_read_b22 j57_F_unread_b22 j57_E_oR_25 j57_F_chunks_oR_25 j57_F_chunkCount_oR_25 j57_F_firsts_oR_25 j57_A_ckR_25 j57_F_size_kkR_25 j57_F_starts_kkR_25 j57_A_fiR_25 j57_A_saR_25 j57_E_oU_25 j57_F_chunks_oU_25 j57_F_chunkCount_oU_25 j57_F_firsts_oU_25 j57_A_ckU_25 j57_F_size_kkU_25 j57_F_starts_kkU_25 j57_A_fiU_25 j57_A_saU_25 (own_lR3 hi2) hi2.2.1 (own_lU3 hi2) hi2.2.2) hZ (hU 57 _ rfl) (hU 2 _ rfl) (by decide) (by decide)) q61a q61c (g := (mkF m 239 (fA0 ax ay az b22 fl iv_ p0 p1 p2 p3 p4 p5 rx ry rz) [(.int p3), (.ref b22), (.ref b22)])) rfl (by rw [hml]; rfl) (Steps.refl _) (argsL := [(.int p3)]) (rest := [(.ref b22)]) (lenOf pd_8 rfl) rfl (Nat.le_of_eq rfl) (hb hby at_239) (fun _ _ => ⟨rfl, rfl, (by decide : 13 + 0 ≤ _), (by decide : 1046 + 0 ≤ _)⟩)
   dsimp only [Pt.U, Pt.locs, Pt.cells, Pt.slots] at X61 l61 y61 z61 st61 hQ61
   subst l61 y61 z61
   obtain ⟨pv_61, rfl, N61q, p61_0, p61_1⟩ := hQ61
   have N61 := Fr.app N57 N61q
   have R62 := fun t k => R60 t (st61.trans k)
   have R63 : own_R p e below T61 (mkF m 242 (fA0 ax ay az b22 fl iv_ p0 p1 p2 p3 p4 p5 rx ry rz) [(.long (own_p rs2 p3)), (.ref b22)]) s₁ f0 := by have q := R62; rw [((p61_1.1 (hno3 ha2).1 (hno3 ha2).2) : pv_61 = (own_p rs2 p3))] at q; exact q
   have R64 : own_R p e below T61 (mkF m 248 (fA0 ax ay az b22 fl iv_ p0 p1 p2 p3 p4 p5 rx ry rz) [(.int rz), (.int (p3 + (1 : Int32))), (.int p3), (.long (own_p rs2 p3)), (.ref b22)]) s₁ f0 := fun t k => R63 t (by
    refine XS.iloadN X61.here hx rfl (hb hby at_242) rfl ?_
    refine XS.iloadN X61.here hx rfl (hb hby at_243) rfl ?_
    refine XS.iconst X61.here hx rfl (hb hby at_244) ?_
    refine XS.iadd X61.here hx rfl (hb hby at_245) rfl ?_
    refine XS.iload X61.here hx rfl (hb hby at_246) rfl ?_
    exact k)
   by_cases hr_2 : rz = (0 : Int32)
   ·
    have R65 : own_R p e below T61 (mkF m 257 (fA0 ax ay az b22 fl iv_ p0 p1 p2 p3 p4 p5 rx ry rz) [.null, (.int (p3 + (1 : Int32))), (.int p3), (.long (own_p rs2 p3)), (.ref b22)]) s₁ f0 := fun t k => R64 t (by
     refine XS.ifYes X61.here hx rfl (pc0 := 248) (pc' := 256) rfl (hb hby at_248) rfl ((if0 _ _).trans (teq hr_2).1) (by decide) (by decide) ?_
     refine XS.aconstNull X61.here hx rfl (hb hby at_256) ?_
     exact k)
    obtain ⟨cq66, kq66, q66a, q66b, q66c⟩ := isOf hZ p61_0 j57_E_b22
    obtain ⟨_, _, ⟨T66, L66, k66, n66⟩, -, X66, ⟨Lc66, hQ66, l66, y66, z66⟩, st66⟩ := X61.virtualBack hx (y := yN0) (z := yN0) hown (mvT hZ (hU 87 _ rfl)) (mvT hZ (hU 88 _ rfl)) (notFace_of_selects (args := #[]) (mvT hZ (hU 90 _ rfl))) (mvT hZ (hU 90 _ rfl)) (mvT hZ (hU 89 _ rfl)) (by decide) (backOf (W := 0) (rmFa0 l Z a0 hw [] b22 p3 oR_25 ckR_25 kckR_25 kkR_25 fiR_25 kfiR_25 saR_25 kstR_25 oU_25 ckU_25 kckU_25 kkU_25 fiU_25 kfiU_25 saU_25 kstU_25 rs2 us2 T57.heap n0 z57 j57_F_read_b22 j57_F_unread_b22 j57_E_b22 j57_E_oR_25 j57_F_chunks_oR_25 j57_F_chunkCount_oR_25 j57_F_firsts_oR_25 j57_A_ckR_25 j57_F_size_kkR_25 j57_F_starts_kkR_25 j57_A_fiR_25 j57_A_saR_25 j57_E_oU_25 j57_F_chunks_oU_25 j57_F_chunkCount_oU_25 j57_F_firsts_oU_25 j57_F_withItems_oU_25 j57_A_ckU_25 j57_E_kkU_25 j57_F_size_kkU_25 j57_F_starts_kkU_25 j57_A_fiU_25 j57_A_saU_25 g_saU_25 g_kkU_25 g_fiU_25 p25_67 p25_68 p25_69 (own_lR2 hi2) hi2.2.1 (own_lU2 hi2) hi2.2.2 (hno3 ha2).1 (hno3 ha2).2) hZ (hU 91 _ rfl) (hU 2 _ rfl) (by decide) (by decide)) q66a q66c (g := (mkF m 257 (fA0 ax ay az b22 fl iv_ p0 p1 p2 p3 p4 p5 rx ry rz) [.null, (.int (p3 + (1 : Int32))), (.int p3), (.long (own_p rs2 p3)), (.ref b22)])) rfl (by rw [hml]; rfl) (Steps.refl _) (argsL := [(.long (own_p rs2 p3)), (.int p3), (.int (p3 + (1 : Int32))), .null]) (rest := []) (lenOf pd_11 rfl) rfl (Nat.le_of_eq rfl) (hb hby at_257) (fun _ _ => ⟨rfl, p61_0, (by decide : 13 + 0 ≤ _), (by decide : 1046 + 0 ≤ _)⟩)
    dsimp only [Pt.U, Pt.locs, Pt.cells, Pt.slots] at X66 l66 y66 z66 st66 hQ66
    subst l66 y66 z66
    obtain ⟨rfl, N66q, p66_0, p66_1, p66_2, p66_3, p66_4⟩ := hQ66
    have N66 := Fr.app N61 N66q
    have f66_E_b22 := j57_E_b22.keep p66_0
    have f66_F_read_b22 := j57_F_read_b22.keep p66_0 (ninS ne_b22_saU_25 (ninS ne_b22_kkU_25 (ninS ne_b22_fiU_25 nin0)))
    have f66_F_unread_b22 := j57_F_unread_b22.keep p66_0 (ninS ne_b22_saU_25 (ninS ne_b22_kkU_25 (ninS ne_b22_fiU_25 nin0)))
    have f66_E_oR_25 := j57_E_oR_25.keep p66_0
    have f66_F_chunks_oR_25 := j57_F_chunks_oR_25.keep p66_0 (ninS (Exa.neArv j57_E_oR_25 j57_A_saU_25 (hU 10 _ rfl)) (ninS (Exa.ne j57_E_oR_25 j57_E_kkU_25 (by decide)) (ninS (Exa.neArv j57_E_oR_25 j57_A_fiU_25 (hU 10 _ rfl)) nin0)))
    have f66_F_chunkCount_oR_25 := j57_F_chunkCount_oR_25.keep p66_0 (ninS (Exa.neArv j57_E_oR_25 j57_A_saU_25 (hU 10 _ rfl)) (ninS (Exa.ne j57_E_oR_25 j57_E_kkU_25 (by decide)) (ninS (Exa.neArv j57_E_oR_25 j57_A_fiU_25 (hU 10 _ rfl)) nin0)))
    have f66_F_firsts_oR_25 := j57_F_firsts_oR_25.keep p66_0 (ninS (Exa.neArv j57_E_oR_25 j57_A_saU_25 (hU 10 _ rfl)) (ninS (Exa.ne j57_E_oR_25 j57_E_kkU_25 (by decide)) (ninS (Exa.neArv j57_E_oR_25 j57_A_fiU_25 (hU 10 _ rfl)) nin0)))
    have f66_F_withItems_oR_25 := j57_F_withItems_oR_25.keep p66_0 (ninS (Exa.neArv j57_E_oR_25 j57_A_saU_25 (hU 10 _ rfl)) (ninS (Exa.ne j57_E_oR_25 j57_E_kkU_25 (by decide)) (ninS (Exa.neArv j57_E_oR_25 j57_A_fiU_25 (hU 10 _ rfl)) nin0)))
    have f66_A_ckR_25 := j57_A_ckR_25.keep p66_0 (ninS p25_54 (ninS (Ne.symm (Exa.neArv j57_E_kkU_25 j57_A_ckR_25 (hU 25 _ rfl))) (ninS p25_52 nin0)))
    have f66_E_kkR_25 := j57_E_kkR_25.keep p66_0
    have f66_F_size_kkR_25 := j57_F_size_kkR_25.keep p66_0 (ninS (Exa.neArv j57_E_kkR_25 j57_A_saU_25 (hU 25 _ rfl)) (ninS p25_71 (ninS (Exa.neArv j57_E_kkR_25 j57_A_fiU_25 (hU 25 _ rfl)) nin0)))
    have f66_F_starts_kkR_25 := j57_F_starts_kkR_25.keep p66_0 (ninS (Exa.neArv j57_E_kkR_25 j57_A_saU_25 (hU 25 _ rfl)) (ninS p25_71 (ninS (Exa.neArv j57_E_kkR_25 j57_A_fiU_25 (hU 25 _ rfl)) nin0)))
    have f66_A_fiR_25 := j57_A_fiR_25.keep p66_0 (ninS p25_48 (ninS (Ne.symm (Exa.neArv j57_E_kkU_25 j57_A_fiR_25 (hU 25 _ rfl))) (ninS p25_46 nin0)))
    have f66_A_saR_25 := j57_A_saR_25.keep p66_0 (ninS p25_59 (ninS (Ne.symm (Exa.neArv j57_E_kkU_25 j57_A_saR_25 (hU 25 _ rfl))) (ninS p25_57 nin0)))
    have f66_F_ends_kkR_25 := j57_F_ends_kkR_25.keep p66_0 (ninS (Exa.neArv j57_E_kkR_25 j57_A_saU_25 (hU 25 _ rfl)) (ninS p25_71 (ninS (Exa.neArv j57_E_kkR_25 j57_A_fiU_25 (hU 25 _ rfl)) nin0)))
    have f66_F_items_kkR_25 := j57_F_items_kkR_25.keep p66_0 (ninS (Exa.neArv j57_E_kkR_25 j57_A_saU_25 (hU 25 _ rfl)) (ninS p25_71 (ninS (Exa.neArv j57_E_kkR_25 j57_A_fiU_25 (hU 25 _ rfl)) nin0)))
    have f66_A_enR_25 := j57_A_enR_25.keep p66_0 (ninS p25_63 (ninS (Ne.symm (Exa.neArv j57_E_kkU_25 j57_A_enR_25 (hU 25 _ rfl))) (ninS p25_61 nin0)))
    have f66_A_itR_25 := j57_A_itR_25.keep p66_0 (ninS p25_66 (ninS (Ne.symm (Exa.neArv j57_E_kkU_25 j57_A_itR_25 (hU 25 _ rfl))) (ninS p25_64 nin0)))
    have f66_E_oU_25 := j57_E_oU_25.keep p66_0
    have f66_F_chunks_oU_25 := j57_F_chunks_oU_25.keep p66_0 (ninS (Exa.neArv j57_E_oU_25 j57_A_saU_25 (hU 10 _ rfl)) (ninS (Exa.ne j57_E_oU_25 j57_E_kkU_25 (by decide)) (ninS (Exa.neArv j57_E_oU_25 j57_A_fiU_25 (hU 10 _ rfl)) nin0)))
    have f66_F_chunkCount_oU_25 := j57_F_chunkCount_oU_25.keep p66_0 (ninS (Exa.neArv j57_E_oU_25 j57_A_saU_25 (hU 10 _ rfl)) (ninS (Exa.ne j57_E_oU_25 j57_E_kkU_25 (by decide)) (ninS (Exa.neArv j57_E_oU_25 j57_A_fiU_25 (hU 10 _ rfl)) nin0)))
    have f66_F_firsts_oU_25 := j57_F_firsts_oU_25.keep p66_0 (ninS (Exa.neArv j57_E_oU_25 j57_A_saU_25 (hU 10 _ rfl)) (ninS (Exa.ne j57_E_oU_25 j57_E_kkU_25 (by decide)) (ninS (Exa.neArv j57_E_oU_25 j57_A_fiU_25 (hU 10 _ rfl)) nin0)))
    have f66_F_withItems_oU_25 := j57_F_withItems_oU_25.keep p66_0 (ninS (Exa.neArv j57_E_oU_25 j57_A_saU_25 (hU 10 _ rfl)) (ninS (Exa.ne j57_E_oU_25 j57_E_kkU_25 (by decide)) (ninS (Exa.neArv j57_E_oU_25 j57_A_fiU_25 (hU 10 _ rfl)) nin0)))
    have f66_A_ckU_25 := j57_A_ckU_25.keep p66_0 (ninS p25_69 (ninS (Ne.symm (Exa.neArv j57_E_kkU_25 j57_A_ckU_25 (hU 25 _ rfl))) (ninS (Ne.symm p25_67) nin0)))
    have f66_E_kkU_25 := j57_E_kkU_25.keep p66_0
    have f66_E_iv_ := j57_E_iv_.keep p66_0
    have z66 : n0 ≤ T66.heap.size := Nat.le_trans z57 p66_0.1
    have R67 := fun t k => R65 t (st66.trans k)
    exact ⟨T66, _, rs2, (own_ins p3 us2), X66, N66, z66, R67, (own_sr2 ha2 hr_2), (own_su2 ha2 hr_2), f66_E_b22, f66_F_read_b22, f66_F_unread_b22, f66_E_oR_25, f66_F_chunks_oR_25, f66_F_chunkCount_oR_25, f66_F_firsts_oR_25, f66_F_withItems_oR_25, f66_A_ckR_25, f66_E_kkR_25, f66_F_size_kkR_25, f66_F_starts_kkR_25, f66_A_fiR_25, f66_A_saR_25, f66_F_ends_kkR_25, f66_F_items_kkR_25, f66_A_enR_25, f66_A_itR_25, f66_E_oU_25, f66_F_chunks_oU_25, f66_F_chunkCount_oU_25, f66_F_firsts_oU_25, f66_F_withItems_oU_25, f66_A_ckU_25, f66_E_kkU_25, p66_1, p66_2, p66_3, p66_4, f66_E_iv_⟩
   ·
    have R68 : own_R p e below T61 (mkF m 257 (fA0 ax ay az b22 fl iv_ p0 p1 p2 p3 p4 p5 rx ry rz) [(.ref iv_), (.int (p3 + (1 : Int32))), (.int p3), (.long (own_p rs2 p3)), (.ref b22)]) s₁ f0 := fun t k => R64 t (by
     refine XS.ifNo X61.here hx rfl (hb hby at_248) rfl ((if0 _ _).trans (feq hr_2).1) ?_
     refine XS.aload X61.here hx rfl (hb hby at_251) rfl rfl ?_
     refine XS.goto X61.here hx rfl (pc0 := 253) (pc' := 257) rfl (hb hby at_253) (by decide) (by decide) ?_
     exact k)
    obtain ⟨cq69, kq69, q69a, q69b, q69c⟩ := isOf hZ p61_0 j57_E_b22
    obtain ⟨_, _, ⟨T69, L69, k69, n69⟩, -, X69, ⟨Lc69, hQ69, l69, y69, z69⟩, st69⟩ := X61.virtualBack hx (y := yN0) (z := yN0) hown (mvT hZ (hU 87 _ rfl)) (mvT hZ (hU 88 _ rfl)) (notFace_of_selects (args := #[]) (mvT hZ (hU 90 _ rfl))) (mvT hZ (hU 90 _ rfl)) (mvT hZ (hU 89 _ rfl)) (by decide) (backOf (W := 0) (rmFa1 l Z a0 hw [] b22 p3 iv_ oR_25 ckR_25 kckR_25 kkR_25 fiR_25 kfiR_25 saR_25 kstR_25 enR_25 kenR_25 itR_25 kitR_25 oU_25 ckU_25 kckU_25 kkU_25 fiU_25 kfiU_25 saU_25 kstU_25 rs2 us2 T57.heap n0 z57 j57_F_read_b22 j57_F_unread_b22 j57_E_b22 j57_E_oR_25 j57_F_chunks_oR_25 j57_F_chunkCount_oR_25 j57_F_firsts_oR_25 j57_F_withItems_oR_25 j57_A_ckR_25 j57_E_kkR_25 j57_F_size_kkR_25 j57_F_starts_kkR_25 j57_A_fiR_25 j57_A_saR_25 j57_F_ends_kkR_25 j57_F_items_kkR_25 j57_A_enR_25 j57_A_itR_25 j57_E_iv_ g_saR_25 g_enR_25 g_itR_25 g_kkR_25 g_fiR_25 p25_42 p25_43 p25_44 p25_45 p25_49 p25_50 p25_51 p25_55 p25_56 p25_60 p25_29 j57_E_oU_25 j57_F_chunks_oU_25 j57_F_chunkCount_oU_25 j57_F_firsts_oU_25 j57_A_ckU_25 j57_F_size_kkU_25 j57_F_starts_kkU_25 j57_A_fiU_25 j57_A_saU_25 (own_lR2 hi2) hi2.2.1 (own_lU2 hi2) hi2.2.2 (hno3 ha2).1 (hno3 ha2).2 (own_tot hi2 (by decide))) hZ (hU 91 _ rfl) (hU 2 _ rfl) (by decide) (by decide)) q69a q69c (g := (mkF m 257 (fA0 ax ay az b22 fl iv_ p0 p1 p2 p3 p4 p5 rx ry rz) [(.ref iv_), (.int (p3 + (1 : Int32))), (.int p3), (.long (own_p rs2 p3)), (.ref b22)])) rfl (by rw [hml]; rfl) (Steps.refl _) (argsL := [(.long (own_p rs2 p3)), (.int p3), (.int (p3 + (1 : Int32))), (.ref iv_)]) (rest := []) (lenOf pd_11 rfl) rfl (Nat.le_of_eq rfl) (hb hby at_257) (fun _ _ => ⟨rfl, p61_0, (by decide : 13 + 0 ≤ _), (by decide : 1046 + 0 ≤ _)⟩)
    dsimp only [Pt.U, Pt.locs, Pt.cells, Pt.slots] at X69 l69 y69 z69 st69 hQ69
    subst l69 y69 z69
    obtain ⟨rfl, N69q, p69_0, p69_1, p69_2, p69_3, p69_4, p69_5, p69_6, p69_7, p69_8⟩ := hQ69
    have N69 := Fr.app N61 N69q
    have f69_E_b22 := j57_E_b22.keep p69_0
    have f69_F_read_b22 := j57_F_read_b22.keep p69_0 (ninS ne_b22_saR_25 (ninS ne_b22_enR_25 (ninS ne_b22_itR_25 (ninS ne_b22_kkR_25 (ninS ne_b22_fiR_25 nin0)))))
    have f69_F_unread_b22 := j57_F_unread_b22.keep p69_0 (ninS ne_b22_saR_25 (ninS ne_b22_enR_25 (ninS ne_b22_itR_25 (ninS ne_b22_kkR_25 (ninS ne_b22_fiR_25 nin0)))))
    have f69_E_oR_25 := j57_E_oR_25.keep p69_0
    have f69_F_chunks_oR_25 := j57_F_chunks_oR_25.keep p69_0 (ninS (Exa.neArv j57_E_oR_25 j57_A_saR_25 (hU 10 _ rfl)) (ninS (Exa.neArv j57_E_oR_25 j57_A_enR_25 (hU 10 _ rfl)) (ninS (Exa.neArv j57_E_oR_25 j57_A_itR_25 (hU 10 _ rfl)) (ninS (Exa.ne j57_E_oR_25 j57_E_kkR_25 (by decide)) (ninS (Exa.neArv j57_E_oR_25 j57_A_fiR_25 (hU 10 _ rfl)) nin0)))))
    have f69_F_chunkCount_oR_25 := j57_F_chunkCount_oR_25.keep p69_0 (ninS (Exa.neArv j57_E_oR_25 j57_A_saR_25 (hU 10 _ rfl)) (ninS (Exa.neArv j57_E_oR_25 j57_A_enR_25 (hU 10 _ rfl)) (ninS (Exa.neArv j57_E_oR_25 j57_A_itR_25 (hU 10 _ rfl)) (ninS (Exa.ne j57_E_oR_25 j57_E_kkR_25 (by decide)) (ninS (Exa.neArv j57_E_oR_25 j57_A_fiR_25 (hU 10 _ rfl)) nin0)))))
    have f69_F_firsts_oR_25 := j57_F_firsts_oR_25.keep p69_0 (ninS (Exa.neArv j57_E_oR_25 j57_A_saR_25 (hU 10 _ rfl)) (ninS (Exa.neArv j57_E_oR_25 j57_A_enR_25 (hU 10 _ rfl)) (ninS (Exa.neArv j57_E_oR_25 j57_A_itR_25 (hU 10 _ rfl)) (ninS (Exa.ne j57_E_oR_25 j57_E_kkR_25 (by decide)) (ninS (Exa.neArv j57_E_oR_25 j57_A_fiR_25 (hU 10 _ rfl)) nin0)))))
    have f69_F_withItems_oR_25 := j57_F_withItems_oR_25.keep p69_0 (ninS (Exa.neArv j57_E_oR_25 j57_A_saR_25 (hU 10 _ rfl)) (ninS (Exa.neArv j57_E_oR_25 j57_A_enR_25 (hU 10 _ rfl)) (ninS (Exa.neArv j57_E_oR_25 j57_A_itR_25 (hU 10 _ rfl)) (ninS (Exa.ne j57_E_oR_25 j57_E_kkR_25 (by decide)) (ninS (Exa.neArv j57_E_oR_25 j57_A_fiR_25 (hU 10 _ rfl)) nin0)))))
    have f69_A_ckR_25 := j57_A_ckR_25.keep p69_0 (ninS p25_49 (ninS p25_50 (ninS p25_51 (ninS (Ne.symm (Exa.neArv j57_E_kkR_25 j57_A_ckR_25 (hU 25 _ rfl))) (ninS (Ne.symm p25_42) nin0)))))
    have f69_E_kkR_25 := j57_E_kkR_25.keep p69_0
    have f69_E_oU_25 := j57_E_oU_25.keep p69_0
    have f69_F_chunks_oU_25 := j57_F_chunks_oU_25.keep p69_0 (ninS (Exa.neArv j57_E_oU_25 j57_A_saR_25 (hU 10 _ rfl)) (ninS (Exa.neArv j57_E_oU_25 j57_A_enR_25 (hU 10 _ rfl)) (ninS (Exa.neArv j57_E_oU_25 j57_A_itR_25 (hU 10 _ rfl)) (ninS (Exa.ne j57_E_oU_25 j57_E_kkR_25 (by decide)) (ninS (Exa.neArv j57_E_oU_25 j57_A_fiR_25 (hU 10 _ rfl)) nin0)))))
    have f69_F_chunkCount_oU_25 := j57_F_chunkCount_oU_25.keep p69_0 (ninS (Exa.neArv j57_E_oU_25 j57_A_saR_25 (hU 10 _ rfl)) (ninS (Exa.neArv j57_E_oU_25 j57_A_enR_25 (hU 10 _ rfl)) (ninS (Exa.neArv j57_E_oU_25 j57_A_itR_25 (hU 10 _ rfl)) (ninS (Exa.ne j57_E_oU_25 j57_E_kkR_25 (by decide)) (ninS (Exa.neArv j57_E_oU_25 j57_A_fiR_25 (hU 10 _ rfl)) nin0)))))
    have f69_F_firsts_oU_25 := j57_F_firsts_oU_25.keep p69_0 (ninS (Exa.neArv j57_E_oU_25 j57_A_saR_25 (hU 10 _ rfl)) (ninS (Exa.neArv j57_E_oU_25 j57_A_enR_25 (hU 10 _ rfl)) (ninS (Exa.neArv j57_E_oU_25 j57_A_itR_25 (hU 10 _ rfl)) (ninS (Exa.ne j57_E_oU_25 j57_E_kkR_25 (by decide)) (ninS (Exa.neArv j57_E_oU_25 j57_A_fiR_25 (hU 10 _ rfl)) nin0)))))
    have f69_F_withItems_oU_25 := j57_F_withItems_oU_25.keep p69_0 (ninS (Exa.neArv j57_E_oU_25 j57_A_saR_25 (hU 10 _ rfl)) (ninS (Exa.neArv j57_E_oU_25 j57_A_enR_25 (hU 10 _ rfl)) (ninS (Exa.neArv j57_E_oU_25 j57_A_itR_25 (hU 10 _ rfl)) (ninS (Exa.ne j57_E_oU_25 j57_E_kkR_25 (by decide)) (ninS (Exa.neArv j57_E_oU_25 j57_A_fiR_25 (hU 10 _ rfl)) nin0)))))
    have f69_A_ckU_25 := j57_A_ckU_25.keep p69_0 (ninS (Ne.symm p25_58) (ninS (Ne.symm p25_62) (ninS (Ne.symm p25_65) (ninS (Ne.symm (Exa.neArv j57_E_kkR_25 j57_A_ckU_25 (hU 25 _ rfl))) (ninS (Ne.symm p25_47) nin0)))))
    have f69_E_kkU_25 := j57_E_kkU_25.keep p69_0
    have f69_F_size_kkU_25 := j57_F_size_kkU_25.keep p69_0 (ninS (Exa.neArv j57_E_kkU_25 j57_A_saR_25 (hU 25 _ rfl)) (ninS (Exa.neArv j57_E_kkU_25 j57_A_enR_25 (hU 25 _ rfl)) (ninS (Exa.neArv j57_E_kkU_25 j57_A_itR_25 (hU 25 _ rfl)) (ninS (Ne.symm p25_71) (ninS (Exa.neArv j57_E_kkU_25 j57_A_fiR_25 (hU 25 _ rfl)) nin0)))))
    have f69_F_starts_kkU_25 := j57_F_starts_kkU_25.keep p69_0 (ninS (Exa.neArv j57_E_kkU_25 j57_A_saR_25 (hU 25 _ rfl)) (ninS (Exa.neArv j57_E_kkU_25 j57_A_enR_25 (hU 25 _ rfl)) (ninS (Exa.neArv j57_E_kkU_25 j57_A_itR_25 (hU 25 _ rfl)) (ninS (Ne.symm p25_71) (ninS (Exa.neArv j57_E_kkU_25 j57_A_fiR_25 (hU 25 _ rfl)) nin0)))))
    have f69_A_fiU_25 := j57_A_fiU_25.keep p69_0 (ninS (Ne.symm p25_57) (ninS (Ne.symm p25_61) (ninS (Ne.symm p25_64) (ninS (Ne.symm (Exa.neArv j57_E_kkR_25 j57_A_fiU_25 (hU 25 _ rfl))) (ninS (Ne.symm p25_46) nin0)))))
    have f69_A_saU_25 := j57_A_saU_25.keep p69_0 (ninS (Ne.symm p25_59) (ninS (Ne.symm p25_63) (ninS (Ne.symm p25_66) (ninS (Ne.symm (Exa.neArv j57_E_kkR_25 j57_A_saU_25 (hU 25 _ rfl))) (ninS (Ne.symm p25_48) nin0)))))
    have f69_E_iv_ := j57_E_iv_.keep p69_0
    have z69 : n0 ≤ T69.heap.size := Nat.le_trans z57 p69_0.1
    have R70 := fun t k => R68 t (st69.trans k)
    exact ⟨T69, _, (own_ins p3 rs2), us2, X69, N69, z69, R70, (own_sr1 ha2 hr_2), (own_su1 ha2 hr_2), f69_E_b22, f69_F_read_b22, f69_F_unread_b22, f69_E_oR_25, f69_F_chunks_oR_25, f69_F_chunkCount_oR_25, f69_F_firsts_oR_25, f69_F_withItems_oR_25, f69_A_ckR_25, f69_E_kkR_25, p69_1, p69_2, p69_3, p69_4, p69_5, p69_6, p69_7, p69_8, f69_E_oU_25, f69_F_chunks_oU_25, f69_F_chunkCount_oU_25, f69_F_firsts_oU_25, f69_F_withItems_oU_25, f69_A_ckU_25, f69_E_kkU_25, f69_F_size_kkU_25, f69_F_starts_kkU_25, f69_A_fiU_25, f69_A_saU_25, f69_E_iv_⟩
 have hi3 : own_inv 3 rs3 us3 := own_invS hi2 (by decide) hno3 er3 eu3
 have R72 : own_R p e below T71 (mkF m 264 (fA0 ax ay az b22 fl iv_ p0 p1 p2 p3 p4 p5 rx ry rz) [(.int p4), (.ref b22)]) s₁ f0 := fun t k => R71 t (by
  refine XS.aload X71.here hx rfl (hb hby at_260) rfl rfl ?_
  refine XS.iload X71.here hx rfl (hb hby at_262) rfl ?_
  exact k)
 obtain ⟨cq73, kq73, q73a, q73b, q73c⟩ := isOf hZ rfl j71_E_b22
 obtain ⟨_, _, ⟨T73, L73, k73, n73⟩, -, X73, ⟨Lc73, hQ73, l73, y73, z73⟩, st73⟩ := X71.virtualBack hx (y := yN2) (z := yN2) hown (mvT hZ (hU 53 _ rfl)) (mvT hZ (hU 54 _ rfl)) (notFace_of_selects (args := #[]) (mvT hZ (hU 56 _ rfl))) (mvT hZ (hU 56 _ rfl)) (mvT hZ (hU 55 _ rfl)) (by decide) (backOf (W := 0) (rmFf l Z a0 hw [] b22 p4 oR_25 ckR_25 kckR_25 kkR_25 fiR_25 kfiR_25 saR_25 kstR_25 oU_25 ckU_25 kckU_25 kkU_25 fiU_25 kfiU_25 saU_25 kstU_25 rs3 us3 T71.heap n0 z71 j71_F_read_b22 j71_F_unread_b22 j71_E_oR_25 j71_F_chunks_oR_25 j71_F_chunkCount_oR_25 j71_F_firsts_oR_25 j71_A_ckR_25 j71_F_size_kkR_25 j71_F_starts_kkR_25 j71_A_fiR_25 j71_A_saR_25 j71_E_oU_25 j71_F_chunks_oU_25 j71_F_chunkCount_oU_25 j71_F_firsts_oU_25 j71_A_ckU_25 j71_F_size_kkU_25 j71_F_starts_kkU_25 j71_A_fiU_25 j71_A_saU_25 (own_lR3 hi3) hi3.2.1 (own_lU3 hi3) hi3.2.2) hZ (hU 57 _ rfl) (hU 2 _ rfl) (by decide) (by decide)) q73a q73c (g := (mkF m 264 (fA0 ax ay az b22 fl iv_ p0 p1 p2 p3 p4 p5 rx ry rz) [(.int p4), (.ref b22)])) rfl (by rw [hml]; rfl) (Steps.refl _) (argsL := [(.int p4)]) (rest := []) (lenOf pd_8 rfl) rfl (Nat.le_of_eq rfl) (hb hby at_264) (fun _ _ => ⟨rfl, rfl, (by decide : 13 + 0 ≤ _), (by decide : 1046 + 0 ≤ _)⟩)
 dsimp only [Pt.U, Pt.locs, Pt.cells, Pt.slots] at X73 l73 y73 z73 st73 hQ73
 subst l73 y73 z73
 obtain ⟨pv_73, rfl, N73q, p73_0, p73_1⟩ := hQ73
 have N73 := Fr.app N71 N73q
 have R74 := fun t k => R72 t (st73.trans k)
 have R75 : own_R p e below T73 (mkF m 271 (fA24 ax ay az b22 fl iv_ p0 p1 p2 p3 p4 p5 pv_73 rx ry rz) [(.long pv_73)]) s₁ f0 := fun t k => R74 t (by
  refine XS.lstore X73.here hx rfl (hb hby at_267) rfl (l' := (fA24 ax ay az b22 fl iv_ p0 p1 p2 p3 p4 p5 pv_73 rx ry rz)) rfl ?_
  refine XS.lload X73.here hx rfl (hb hby at_269) rfl ?_
  exact k)
 obtain ⟨_, _, ⟨T76, L76, k76, n76⟩, -, X76, ⟨Lc76, hQ76, l76, y76, z76⟩, st76⟩ := Jvm.LawKit.callS X73 hx (y := yN16) hown (mvT hZ (hU 70 _ rfl)) (mvT hZ (hU 71 _ rfl)) (mvT hZ (hU 2 _ rfl)) (mvT hZ (hU 72 _ rfl)) (by decide) (backOf (W := 0) (rmIsf l Z a0 hw [] pv_73 T71.heap n0 z71) hZ (hU 72 _ rfl) (hU 2 _ rfl) (by decide) (by decide)) (g := (mkF m 271 (fA24 ax ay az b22 fl iv_ p0 p1 p2 p3 p4 p5 pv_73 rx ry rz) [(.long pv_73)])) rfl (by rw [hml]; rfl) (argsL := [(.long pv_73)]) (rest := []) (lenOf pd_18 rfl) rfl (Nat.le_of_eq rfl) (hb hby at_271) (fun _ _ => ⟨rfl, p73_0, (by decide : 13 + 0 ≤ _), (by decide : 1046 + 0 ≤ _)⟩)
 dsimp only [Pt.U, Pt.locs, Pt.cells, Pt.slots] at X76 l76 y76 z76 st76 hQ76
 subst l76 y76 z76
 obtain ⟨rfl, N76q, p76_0⟩ := hQ76
 have N76 := Fr.app N73 N76q
 have R77 := fun t k => R75 t (st76 t k)
 by_cases hnz : (own_if pv_73) = (0 : Int32)
 ·
  have hnf := own_nf p73_1 hnz
  have R78 : own_R p e below T76 (mkF m 279 (fA24 ax ay az b22 fl iv_ p0 p1 p2 p3 p4 p5 pv_73 rx ry rz) []) s₁ f0 := fun t k => R77 t (by
   refine XS.ifYes X76.here hx rfl (pc0 := 274) (pc' := 279) rfl (hb hby at_274) rfl ((if0 _ _).trans (teq hnz).1) (by decide) (by decide) ?_
   exact k)
  have R79 : own_R p e below T76 (mkF m 279 #[iv p0, iv p1, iv p2, iv p3, iv p4, iv p5, iv fl, iv rx, iv ry, iv rz, iv ax, iv ay, iv az, rv b22, rv iv_, own_l (own_p rs3 p4), .second, .unset, .unset, .unset] []) s₁ f0 := by have q := R78; rw [(hnf.2 : pv_73 = (own_p rs3 p4))] at q; exact q
  have R80 : own_R p e below T76 (mkF m 286 (fA20 ax ay az b22 fl iv_ p0 p1 p2 p3 p4 p5 rs3 rx ry rz) [(.int ax)]) s₁ f0 := fun t k => R79 t (by
   refine X76.ldc2Long hx hown (mvT hZ (hU 74 _ rfl)) (g := (mkF m 279 #[iv p0, iv p1, iv p2, iv p3, iv p4, iv p5, iv fl, iv rx, iv ry, iv rz, iv ax, iv ay, iv az, rv b22, rv iv_, own_l (own_p rs3 p4), .second, .unset, .unset, .unset] [])) rfl (hb hby at_279) _ ?_
   refine XS.lstore X76.here hx rfl (hb hby at_282) rfl (l' := (fA20 ax ay az b22 fl iv_ p0 p1 p2 p3 p4 p5 rs3 rx ry rz)) rfl ?_
   refine XS.iload X76.here hx rfl (hb hby at_284) rfl ?_
   exact k)
  have R81 : own_R p e below T76 (mkF m 299 (fA20 ax ay az b22 fl iv_ p0 p1 p2 p3 p4 p5 rs3 rx ry rz) [(.int (own_pr ax rx))]) s₁ f0 := by
   intro t k
   refine R80 t ?_
   by_cases hm1 : ax = (0 : Int32)
   ·
    refine XS.ifYes X76.here hx rfl (pc0 := 286) (pc' := 298) rfl (hb hby at_286) rfl ((if0 _ _).trans (teq hm1).1) (by decide) (by decide) ?_
    refine XS.iconst X76.here hx rfl (hb hby at_298) ?_
    have hv : (own_pr ax rx) = (0 : Int32) := by simp [own_pr, hm1]
    rw [hv] at k
    exact k
   ·
    refine XS.ifNo X76.here hx rfl (hb hby at_286) rfl ((if0 _ _).trans (feq hm1).1) ?_
    refine XS.iload X76.here hx rfl (hb hby at_289) rfl ?_
    by_cases hm2 : rx = (0 : Int32)
    ·
     refine XS.ifYes X76.here hx rfl (pc0 := 291) (pc' := 298) rfl (hb hby at_291) rfl ((if0 _ _).trans (teq hm2).1) (by decide) (by decide) ?_
     refine XS.iconst X76.here hx rfl (hb hby at_298) ?_
     have hv : (own_pr ax rx) = (0 : Int32) := by simp [own_pr, hm1, hm2]
     rw [hv] at k
     exact k
    ·
     refine XS.ifNo X76.here hx rfl (hb hby at_291) rfl ((if0 _ _).trans (feq hm2).1) ?_
     refine XS.iconst X76.here hx rfl (hb hby at_294) ?_
     refine XS.goto X76.here hx rfl (pc0 := 295) (pc' := 299) rfl (hb hby at_295) (by decide) (by decide) ?_
     have hv : (own_pr ax rx) = (1 : Int32) := by simp [own_pr, hm1, hm2]
     rw [hv] at k
     exact k
  have R82 : own_R p e below T76 (mkF m 304 (fA20 ax ay az b22 fl iv_ p0 p1 p2 p3 p4 p5 rs3 rx ry rz) [(.long (9223372036854775807 : Int64)), (.int p4), (.int p1), (.int (own_pr ax rx))]) s₁ f0 := fun t k => R81 t (by
   refine XS.iloadN X76.here hx rfl (hb hby at_299) rfl ?_
   refine XS.iload X76.here hx rfl (hb hby at_300) rfl ?_
   refine XS.lload X76.here hx rfl (hb hby at_302) rfl ?_
   exact k)
  obtain ⟨_, _, ⟨T83, L83, k83, n83⟩, -, X83, ⟨Lc83, hQ83, l83, y83, z83⟩, st83⟩ := Jvm.LawKit.callS X76 hx (y := yN11) hown (mvT hZ (hU 75 _ rfl)) (mvT hZ (hU 76 _ rfl)) (mvT hZ (hU 77 _ rfl)) (mvT hZ (hU 78 _ rfl)) (by decide) (backOf (W := 0) (rmAft l Z a0 hw [] (own_pr ax rx) p1 p4 (9223372036854775807 : Int64) T71.heap n0 z71) hZ (hU 78 _ rfl) (hU 77 _ rfl) (by decide) (by decide)) (g := (mkF m 304 (fA20 ax ay az b22 fl iv_ p0 p1 p2 p3 p4 p5 rs3 rx ry rz) [(.long (9223372036854775807 : Int64)), (.int p4), (.int p1), (.int (own_pr ax rx))])) rfl (by rw [hml]; rfl) (argsL := [(.int (own_pr ax rx)), (.int p1), (.int p4), (.long (9223372036854775807 : Int64))]) (rest := []) (lenOf pd_19 rfl) rfl (Nat.le_of_eq rfl) (hb hby at_304) (fun _ _ => ⟨rfl, p76_0, (by decide : 13 + 0 ≤ _), (by decide : 1046 + 0 ≤ _)⟩)
  dsimp only [Pt.U, Pt.locs, Pt.cells, Pt.slots] at X83 l83 y83 z83 st83 hQ83
  subst l83 y83 z83
  obtain ⟨rfl, N83q, p83_0⟩ := hQ83
  have N83 := Fr.app N76 N83q
  have R84 := fun t k => R82 t (st83 t k)
  have R85 : own_R p e below T83 (mkF m 311 (fA16 ax ay az b22 fl iv_ p0 p1 p2 p3 p4 p5 rs3 rx ry rz) [(.int ay)]) s₁ f0 := fun t k => R84 t (by
   refine XS.lstore X83.here hx rfl (hb hby at_307) rfl (l' := (fA16 ax ay az b22 fl iv_ p0 p1 p2 p3 p4 p5 rs3 rx ry rz)) rfl ?_
   refine XS.iload X83.here hx rfl (hb hby at_309) rfl ?_
   exact k)
  have R86 : own_R p e below T83 (mkF m 324 (fA16 ax ay az b22 fl iv_ p0 p1 p2 p3 p4 p5 rs3 rx ry rz) [(.int (own_pr ay ry))]) s₁ f0 := by
   intro t k
   refine R85 t ?_
   by_cases hm1 : ay = (0 : Int32)
   ·
    refine XS.ifYes X83.here hx rfl (pc0 := 311) (pc' := 323) rfl (hb hby at_311) rfl ((if0 _ _).trans (teq hm1).1) (by decide) (by decide) ?_
    refine XS.iconst X83.here hx rfl (hb hby at_323) ?_
    have hv : (own_pr ay ry) = (0 : Int32) := by simp [own_pr, hm1]
    rw [hv] at k
    exact k
   ·
    refine XS.ifNo X83.here hx rfl (hb hby at_311) rfl ((if0 _ _).trans (feq hm1).1) ?_
    refine XS.iload X83.here hx rfl (hb hby at_314) rfl ?_
    by_cases hm2 : ry = (0 : Int32)
    ·
     refine XS.ifYes X83.here hx rfl (pc0 := 316) (pc' := 323) rfl (hb hby at_316) rfl ((if0 _ _).trans (teq hm2).1) (by decide) (by decide) ?_
     refine XS.iconst X83.here hx rfl (hb hby at_323) ?_
     have hv : (own_pr ay ry) = (0 : Int32) := by simp [own_pr, hm1, hm2]
     rw [hv] at k
     exact k
    ·
     refine XS.ifNo X83.here hx rfl (hb hby at_316) rfl ((if0 _ _).trans (feq hm2).1) ?_
     refine XS.iconst X83.here hx rfl (hb hby at_319) ?_
     refine XS.goto X83.here hx rfl (pc0 := 320) (pc' := 324) rfl (hb hby at_320) (by decide) (by decide) ?_
     have hv : (own_pr ay ry) = (1 : Int32) := by simp [own_pr, hm1, hm2]
     rw [hv] at k
     exact k
  have R87 : own_R p e below T83 (mkF m 329 (fA16 ax ay az b22 fl iv_ p0 p1 p2 p3 p4 p5 rs3 rx ry rz) [(.long (own_af (own_pr ax rx) p1 p4 (9223372036854775807 : Int64))), (.int p4), (.int p2), (.int (own_pr ay ry))]) s₁ f0 := fun t k => R86 t (by
   refine XS.iloadN X83.here hx rfl (hb hby at_324) rfl ?_
   refine XS.iload X83.here hx rfl (hb hby at_325) rfl ?_
   refine XS.lload X83.here hx rfl (hb hby at_327) rfl ?_
   exact k)
  obtain ⟨_, _, ⟨T88, L88, k88, n88⟩, -, X88, ⟨Lc88, hQ88, l88, y88, z88⟩, st88⟩ := Jvm.LawKit.callS X83 hx (y := yN11) hown (mvT hZ (hU 75 _ rfl)) (mvT hZ (hU 76 _ rfl)) (mvT hZ (hU 77 _ rfl)) (mvT hZ (hU 78 _ rfl)) (by decide) (backOf (W := 0) (rmAft l Z a0 hw [] (own_pr ay ry) p2 p4 (own_af (own_pr ax rx) p1 p4 (9223372036854775807 : Int64)) T71.heap n0 z71) hZ (hU 78 _ rfl) (hU 77 _ rfl) (by decide) (by decide)) (g := (mkF m 329 (fA16 ax ay az b22 fl iv_ p0 p1 p2 p3 p4 p5 rs3 rx ry rz) [(.long (own_af (own_pr ax rx) p1 p4 (9223372036854775807 : Int64))), (.int p4), (.int p2), (.int (own_pr ay ry))])) rfl (by rw [hml]; rfl) (argsL := [(.int (own_pr ay ry)), (.int p2), (.int p4), (.long (own_af (own_pr ax rx) p1 p4 (9223372036854775807 : Int64)))]) (rest := []) (lenOf pd_19 rfl) rfl (Nat.le_of_eq rfl) (hb hby at_329) (fun _ _ => ⟨rfl, p83_0, (by decide : 13 + 0 ≤ _), (by decide : 1046 + 0 ≤ _)⟩)
  dsimp only [Pt.U, Pt.locs, Pt.cells, Pt.slots] at X88 l88 y88 z88 st88 hQ88
  subst l88 y88 z88
  obtain ⟨rfl, N88q, p88_0⟩ := hQ88
  have N88 := Fr.app N83 N88q
  have R89 := fun t k => R87 t (st88 t k)
  have R90 : own_R p e below T88 (mkF m 336 (fA15 ax ay az b22 fl iv_ p0 p1 p2 p3 p4 p5 rs3 rx ry rz) [(.int az)]) s₁ f0 := fun t k => R89 t (by
   refine XS.lstore X88.here hx rfl (hb hby at_332) rfl (l' := (fA15 ax ay az b22 fl iv_ p0 p1 p2 p3 p4 p5 rs3 rx ry rz)) rfl ?_
   refine XS.iload X88.here hx rfl (hb hby at_334) rfl ?_
   exact k)
  have R91 : own_R p e below T88 (mkF m 349 (fA15 ax ay az b22 fl iv_ p0 p1 p2 p3 p4 p5 rs3 rx ry rz) [(.int (own_pr az rz))]) s₁ f0 := by
   intro t k
   refine R90 t ?_
   by_cases hm1 : az = (0 : Int32)
   ·
    refine XS.ifYes X88.here hx rfl (pc0 := 336) (pc' := 348) rfl (hb hby at_336) rfl ((if0 _ _).trans (teq hm1).1) (by decide) (by decide) ?_
    refine XS.iconst X88.here hx rfl (hb hby at_348) ?_
    have hv : (own_pr az rz) = (0 : Int32) := by simp [own_pr, hm1]
    rw [hv] at k
    exact k
   ·
    refine XS.ifNo X88.here hx rfl (hb hby at_336) rfl ((if0 _ _).trans (feq hm1).1) ?_
    refine XS.iload X88.here hx rfl (hb hby at_339) rfl ?_
    by_cases hm2 : rz = (0 : Int32)
    ·
     refine XS.ifYes X88.here hx rfl (pc0 := 341) (pc' := 348) rfl (hb hby at_341) rfl ((if0 _ _).trans (teq hm2).1) (by decide) (by decide) ?_
     refine XS.iconst X88.here hx rfl (hb hby at_348) ?_
     have hv : (own_pr az rz) = (0 : Int32) := by simp [own_pr, hm1, hm2]
     rw [hv] at k
     exact k
    ·
     refine XS.ifNo X88.here hx rfl (hb hby at_341) rfl ((if0 _ _).trans (feq hm2).1) ?_
     refine XS.iconst X88.here hx rfl (hb hby at_344) ?_
     refine XS.goto X88.here hx rfl (pc0 := 345) (pc' := 349) rfl (hb hby at_345) (by decide) (by decide) ?_
     have hv : (own_pr az rz) = (1 : Int32) := by simp [own_pr, hm1, hm2]
     rw [hv] at k
     exact k
  have R92 : own_R p e below T88 (mkF m 354 (fA15 ax ay az b22 fl iv_ p0 p1 p2 p3 p4 p5 rs3 rx ry rz) [(.long (own_af (own_pr ay ry) p2 p4 (own_af (own_pr ax rx) p1 p4 (9223372036854775807 : Int64)))), (.int p4), (.int p3), (.int (own_pr az rz))]) s₁ f0 := fun t k => R91 t (by
   refine XS.iloadN X88.here hx rfl (hb hby at_349) rfl ?_
   refine XS.iload X88.here hx rfl (hb hby at_350) rfl ?_
   refine XS.lload X88.here hx rfl (hb hby at_352) rfl ?_
   exact k)
  obtain ⟨_, _, ⟨T93, L93, k93, n93⟩, -, X93, ⟨Lc93, hQ93, l93, y93, z93⟩, st93⟩ := Jvm.LawKit.callS X88 hx (y := yN11) hown (mvT hZ (hU 75 _ rfl)) (mvT hZ (hU 76 _ rfl)) (mvT hZ (hU 77 _ rfl)) (mvT hZ (hU 78 _ rfl)) (by decide) (backOf (W := 0) (rmAft l Z a0 hw [] (own_pr az rz) p3 p4 (own_af (own_pr ay ry) p2 p4 (own_af (own_pr ax rx) p1 p4 (9223372036854775807 : Int64))) T71.heap n0 z71) hZ (hU 78 _ rfl) (hU 77 _ rfl) (by decide) (by decide)) (g := (mkF m 354 (fA15 ax ay az b22 fl iv_ p0 p1 p2 p3 p4 p5 rs3 rx ry rz) [(.long (own_af (own_pr ay ry) p2 p4 (own_af (own_pr ax rx) p1 p4 (9223372036854775807 : Int64)))), (.int p4), (.int p3), (.int (own_pr az rz))])) rfl (by rw [hml]; rfl) (argsL := [(.int (own_pr az rz)), (.int p3), (.int p4), (.long (own_af (own_pr ay ry) p2 p4 (own_af (own_pr ax rx) p1 p4 (9223372036854775807 : Int64))))]) (rest := []) (lenOf pd_19 rfl) rfl (Nat.le_of_eq rfl) (hb hby at_354) (fun _ _ => ⟨rfl, p88_0, (by decide : 13 + 0 ≤ _), (by decide : 1046 + 0 ≤ _)⟩)
  dsimp only [Pt.U, Pt.locs, Pt.cells, Pt.slots] at X93 l93 y93 z93 st93 hQ93
  subst l93 y93 z93
  obtain ⟨rfl, N93q, p93_0⟩ := hQ93
  have N93 := Fr.app N88 N93q
  have R94 := fun t k => R92 t (st93 t k)
  have R95 : own_R p e below T93 (mkF m 359 #[iv p0, iv p1, iv p2, iv p3, iv p4, iv p5, iv fl, iv rx, iv ry, iv rz, iv ax, iv ay, iv az, rv b22, rv iv_, own_l (own_p rs3 p4), .second, own_l (own_af (own_pr az rz) p3 p4 (own_af (own_pr ay ry) p2 p4 (own_af (own_pr ax rx) p1 p4 (9223372036854775807 : Int64)))), .second, .unset] []) s₁ f0 := fun t k => R94 t (by
   refine XS.lstore X93.here hx rfl (hb hby at_357) rfl (l' := #[iv p0, iv p1, iv p2, iv p3, iv p4, iv p5, iv fl, iv rx, iv ry, iv rz, iv ax, iv ay, iv az, rv b22, rv iv_, own_l (own_p rs3 p4), .second, own_l (own_af (own_pr az rz) p3 p4 (own_af (own_pr ay ry) p2 p4 (own_af (own_pr ax rx) p1 p4 (9223372036854775807 : Int64)))), .second, .unset]) rfl ?_
   exact k)
  obtain ⟨bst, e_bst⟩ : ∃ z : Int64, z = (own_af (own_pr az rz) p3 p4 (own_af (own_pr ay ry) p2 p4 (own_af (own_pr ax rx) p1 p4 (9223372036854775807 : Int64)))) := ⟨_, rfl⟩
  have R96 : own_R p e below T93 (mkF m 359 #[iv p0, iv p1, iv p2, iv p3, iv p4, iv p5, iv fl, iv rx, iv ry, iv rz, iv ax, iv ay, iv az, rv b22, rv iv_, own_l (own_p rs3 p4), .second, own_l bst, .second, .unset] []) s₁ f0 := by have q := R95; rw [← e_bst] at q; exact q
  have R97 : own_R p e below T93 (mkF m 384 #[iv p0, iv p1, iv p2, iv p3, iv p4, iv p5, iv fl, iv rx, iv ry, iv rz, iv ax, iv ay, iv az, rv b22, rv iv_, own_l (own_p rs3 p4), .second, own_l bst, .second, .unset] [(.int (own_ex bst p5))]) s₁ f0 := by
   intro t k
   refine R96 t ?_
   refine XS.lload X93.here hx rfl (hb hby at_359) rfl ?_
   refine X93.ldc2Long hx hown (mvT hZ (hU 74 _ rfl)) (g := (mkF m 361 #[iv p0, iv p1, iv p2, iv p3, iv p4, iv p5, iv fl, iv rx, iv ry, iv rz, iv ax, iv ay, iv az, rv b22, rv iv_, own_l (own_p rs3 p4), .second, own_l bst, .second, .unset] [(.long bst)])) rfl (hb hby at_361) _ ?_
   refine XS.lcmp X93.here hx rfl (hb hby at_364) rfl ?_
   by_cases hm1 : (lcmpW bst (9223372036854775807 : Int64)) = (0 : Int32)
   ·
    refine XS.ifYes X93.here hx rfl (pc0 := 365) (pc' := 383) rfl (hb hby at_365) rfl ((if0 _ _).trans (teq hm1).1) (by decide) (by decide) ?_
    refine XS.iconst X93.here hx rfl (hb hby at_383) ?_
    have hv : (own_ex bst p5) = (-1 : Int32) := by (try simp only [lw_gt, lw_lt, lw_eq] at hm1); simp [own_ex, hm1]
    rw [hv] at k
    exact k
   ·
    refine XS.ifNo X93.here hx rfl (hb hby at_365) rfl ((if0 _ _).trans (feq hm1).1) ?_
    refine XS.lload X93.here hx rfl (hb hby at_368) rfl ?_
    refine XS.iload X93.here hx rfl (hb hby at_370) rfl ?_
    refine XS.i2l X93.here hx rfl (hb hby at_372) rfl ?_
    refine XS.lcmp X93.here hx rfl (hb hby at_373) rfl ?_
    by_cases hm2 : (lcmpW bst (p5.toInt64)) < (0 : Int32)
    ·
     refine XS.ifNo X93.here hx rfl (hb hby at_374) rfl ((if0 _ _).trans (tlt hm2).2.1) ?_
     refine XS.lload X93.here hx rfl (hb hby at_377) rfl ?_
     refine XS.l2i X93.here hx rfl (hb hby at_379) rfl ?_
     refine XS.goto X93.here hx rfl (pc0 := 380) (pc' := 384) rfl (hb hby at_380) (by decide) (by decide) ?_
     have hv : (own_ex bst p5) = (bst.toInt32) := by (try simp only [lw_gt, lw_lt, lw_eq] at hm1); (try simp only [lw_gt, lw_lt, lw_eq] at hm2); simp [own_ex, hm1, hm2]
     rw [hv] at k
     exact k
    ·
     refine XS.ifYes X93.here hx rfl (pc0 := 374) (pc' := 383) rfl (hb hby at_374) rfl ((if0 _ _).trans (flt hm2).2.1) (by decide) (by decide) ?_
     refine XS.iconst X93.here hx rfl (hb hby at_383) ?_
     have hv : (own_ex bst p5) = (-1 : Int32) := by (try simp only [lw_gt, lw_lt, lw_eq] at hm1); (try simp only [lw_gt, lw_lt, lw_eq] at hm2); simp [own_ex, hm1, hm2]
     rw [hv] at k
     exact k
  have R98 : own_R p e below T93 (mkF m 392 (fA25 ax ay az b22 bst fl iv_ p0 p1 p2 p3 p4 p5 rs3 rx ry rz) [(.int p5), (.long (own_p rs3 p4)), (.ref b22)]) s₁ f0 := fun t k => R97 t (by
   refine XS.istore X93.here hx rfl (hb hby at_384) rfl (l' := (fA25 ax ay az b22 bst fl iv_ p0 p1 p2 p3 p4 p5 rs3 rx ry rz)) rfl ?_
   refine XS.aload X93.here hx rfl (hb hby at_386) rfl rfl ?_
   refine XS.lload X93.here hx rfl (hb hby at_388) rfl ?_
   refine XS.iload X93.here hx rfl (hb hby at_390) rfl ?_
   exact k)
  obtain ⟨cq99, kq99, q99a, q99b, q99c⟩ := isOf hZ p93_0 j71_E_b22
  obtain ⟨_, _, ⟨T99, L99, k99, n99⟩, -, X99, ⟨Lc99, hQ99, l99, y99, z99⟩, st99⟩ := X93.virtualBack hx (y := yN13) (z := yN13) hown (mvT hZ (hU 79 _ rfl)) (mvT hZ (hU 80 _ rfl)) (notFace_of_selects (args := #[]) (mvT hZ (hU 82 _ rfl))) (mvT hZ (hU 82 _ rfl)) (mvT hZ (hU 81 _ rfl)) (by decide) (backOf (W := 0) (rmFrw l Z a0 hw [] b22 p4 p5 oR_25 ckR_25 kckR_25 kkR_25 saR_25 kstR_25 rs3 T71.heap n0 z71 j71_F_read_b22 j71_F_chunks_oR_25 j71_F_chunkCount_oR_25 j71_A_ckR_25 j71_F_size_kkR_25 j71_F_starts_kkR_25 j71_A_saR_25 (own_lR3 hi3) hi3.2.1 hnf.1) hZ (hU 83 _ rfl) (hU 2 _ rfl) (by decide) (by decide)) q99a q99c (g := (mkF m 392 (fA25 ax ay az b22 bst fl iv_ p0 p1 p2 p3 p4 p5 rs3 rx ry rz) [(.int p5), (.long (own_p rs3 p4)), (.ref b22)])) rfl (by rw [hml]; rfl) (Steps.refl _) (argsL := [(.long (own_p rs3 p4)), (.int p5)]) (rest := []) (lenOf pd_20 rfl) rfl (Nat.le_of_eq rfl) (hb hby at_392) (fun _ _ => ⟨rfl, p93_0, (by decide : 13 + 0 ≤ _), (by decide : 1046 + 0 ≤ _)⟩)
  dsimp only [Pt.U, Pt.locs, Pt.cells, Pt.slots] at X99 l99 y99 z99 st99 hQ99
  subst l99 y99 z99
  obtain ⟨rfl, N99q, p99_0⟩ := hQ99
  have N99 := Fr.app N93 N99q
  have R100 := fun t k => R98 t (st99.trans k)
  have R101 : own_R p e below T99 (mkF m 405 (fA25 ax ay az b22 bst fl iv_ p0 p1 p2 p3 p4 p5 rs3 rx ry rz) [(.int 1)]) s₁ f0 := fun t k => R100 t (by
   refine XS.iload X99.here hx rfl (hb hby at_395) rfl ?_
   refine XS.icmpNo X99.here hx rfl (hb hby at_397) rfl (teq (own_law hi0 hi1 hi2 hi3 hno1 hno2 hno3 er1 er2 er3 hnf.1 e_bst p5)).2 ?_
   refine XS.iconst X99.here hx rfl (hb hby at_400) ?_
   refine XS.goto X99.here hx rfl (pc0 := 401) (pc' := 405) rfl (hb hby at_401) (by decide) (by decide) ?_
   exact k)
  obtain ⟨fs, hr, hrun, hended, hW, hsame⟩ := X99.leave (v := some (.int 1)) (fun h => by rw [Bd.returns] at h; cases h)
  refine ⟨_, _, pre0 _ (R101 _ ?_), hrun, hended, _, _, rfl, ?_, ⟨_, rfl⟩, hW, hsame.mono (by decide) (by decide)⟩
  ·
   show own_S p e below T99 (mkF m 405 (fA25 ax ay az b22 bst fl iv_ p0 p1 p2 p3 p4 p5 rs3 rx ry rz) [(.int 1)]) _
   exact retN X99 hx (t := .boolean) Bd.returns (by simp) (hb hby at_405) hr
  ·
   show Q_rmLaw Z p0 p1 p2 p3 p4 p5 ca kca vsc iv_ h0 n0 _ T99.heap _
   rw [p99_0]
   exact ⟨rfl, N99⟩
 ·
  have R102 : own_R p e below T76 (mkF m 278 (fA24 ax ay az b22 fl iv_ p0 p1 p2 p3 p4 p5 pv_73 rx ry rz) [(.int 1)]) s₁ f0 := fun t k => R77 t (by
   refine XS.ifNo X76.here hx rfl (hb hby at_274) rfl ((if0 _ _).trans (feq hnz).1) ?_
   refine XS.iconst X76.here hx rfl (hb hby at_277) ?_
   exact k)
  obtain ⟨fs, hr, hrun, hended, hW, hsame⟩ := X76.leave (v := some (.int 1)) (fun h => by rw [Bd.returns] at h; cases h)
  refine ⟨_, _, pre0 _ (R102 _ ?_), hrun, hended, _, _, rfl, ?_, ⟨_, rfl⟩, hW, hsame.mono (by decide) (by decide)⟩
  ·
   show own_S p e below T76 (mkF m 278 (fA24 ax ay az b22 fl iv_ p0 p1 p2 p3 p4 p5 pv_73 rx ry rz) [(.int 1)]) _
   exact retN X76 hx (t := .boolean) Bd.returns (by simp) (hb hby at_278) hr
  ·
   show Q_rmLaw Z p0 p1 p2 p3 p4 p5 ca kca vsc iv_ h0 n0 _ T76.heap _
   rw [p76_0]
   exact ⟨rfl, N76⟩
set_option maxRecDepth 65536 in
set_option maxHeartbeats 40000000 in
theorem comes_1 {Post : Tables → Env → Array Value → State → Outcome → State → Prop} (hpost : ∀ tb e args s v u, (limb_1_1.after args s (.returned v) u = true ∧ limb_1_2.after args s (.returned v) u = true ∧ True) → FrameEnd s (.returned v) u (Jvm.fieldLocs frame_1_writes args s ++ Jvm.arrayLocs frame_1_arrays args s ++ Jvm.staticLocs frame_1_statics s) 40 2176 → Post tb e args s (.returned v) u) :
  ArmFor flags0 classFile x code maxLocals ret World_1 tables_1 room_1 Calls_1 rest_1 Pre_1 Post := by
 intro l hfl _ _ p e ha hc hk s m args below hf hA hF happ hP
 obtain ⟨hcalls, hrest, hpre⟩ := hP
 obtain ⟨-, -, -, hnamed, -, -, -, hat⟩ := (Spec.applies_iff hf).mp happ
 obtain ⟨hg, hn⟩ := and_e (Cond.before_iff.mp (show (Jvm.Cond.and given_1 narrow_1).before args s = true from hpre))
 obtain ⟨gg1, gg2⟩ := and_e hg
 obtain ⟨gg3, gg4⟩ := and_e gg2
 obtain ⟨gg5, gg6⟩ := and_e gg4
 obtain ⟨gg7, gg8⟩ := and_e gg6
 obtain ⟨gg9, gg10⟩ := and_e gg8
 obtain ⟨gg11, gg12⟩ := and_e gg10
 obtain ⟨w0, w1, w2, w3, w4, w5, rfl⟩ : ∃ w0 w1 w2 w3 w4 w5 : Value, args = #[w0, w1, w2, w3, w4, w5] := by
  have hs : args.size = 6 := by simpa [Cond.value, given_1] using gg1
  obtain ⟨L⟩ := args
  match L, hs with
  | [w0, w1, w2, w3, w4, w5], _ => exact ⟨w0, w1, w2, w3, w4, w5, rfl⟩
 have hw := fun d (hd : d ∈ tables_1) => atoms_spec (ws := Jvm.Cond.code x code maxLocals ret :: tables_1) hat d (List.mem_cons_of_mem _ hd)
 have hU : ∀ (i : Nat) (d : Jvm.Cond), tables_1[i]? = some d → d.before _ s = true := fun i d h => hw d (List.mem_of_getElem? h)
 have hfit : Fit s := fun {y c} hc i hi => by
  obtain ⟨ha, rfl⟩ := Array.getElem?_eq_some_iff.mp hc
  have q := List.all_eq_true.mp ((Array.all_eq_true_iff_forall_mem.mp hF) _ (Array.getElem_mem ha)) i (List.mem_range.mpr hi)
  simpa [Array.getElem?_eq_getElem hi] using q
 obtain ⟨hsets, hown0⟩ := atoms_of _ (rest_1_c_eq ▸ (show rest_1_c.before _ s = true from hrest))
 obtain ⟨i0, ei0⟩ := is_v gg3
 obtain rfl : w0 = (.int i0) := Option.some.inj ei0
 obtain ⟨i1, ei1⟩ := is_v gg5
 obtain rfl : w1 = (.int i1) := Option.some.inj ei1
 obtain ⟨i2, ei2⟩ := is_v gg7
 obtain rfl : w2 = (.int i2) := Option.some.inj ei2
 obtain ⟨i3, ei3⟩ := is_v gg9
 obtain rfl : w3 = (.int i3) := Option.some.inj ei3
 obtain ⟨i4, ei4⟩ := is_v gg11
 obtain rfl : w4 = (.int i4) := Option.some.inj ei4
 obtain ⟨i5, ei5⟩ := is_v gg12
 obtain rfl : w5 = (.int i5) := Option.some.inj ei5
 have ehi := eqv_i (Term.int_eval (127 : Int32)) (Cond.before_iff.mp (hsets _ (List.mem_of_getElem? (i := 3) rfl)))
 have Shi := Sta.start ehi (Or.inl (hsets _ (List.mem_of_getElem? (i := 1) rfl)))
 obtain ⟨ca, eca⟩ := arr_v (Cond.before_iff.mp (hsets _ (List.mem_of_getElem? (i := 4) rfl)))
 have Sca := Sta.start eca (Or.inr ⟨(hU 51 _ rfl), (hsets _ (List.mem_of_getElem? (i := 2) rfl))⟩)
 obtain ⟨cca, Aca⟩ := Arr.start eca (Cond.before_iff.mp (hsets _ (List.mem_of_getElem? (i := 4) rfl)))
 obtain ⟨lca, nca⟩ := own_len eca Aca (eqv_i (Term.int_eval (256 : Int32)) (Cond.before_iff.mp (hsets _ (List.mem_of_getElem? (i := 6) rfl))))
 have Vca : Arv s s.heap ca cca.cls (.object "java/lang/Integer") (256 : Int32) cca.slots.toList .null := own_arv hfit Aca lca nca (by decide)
 obtain ⟨iv_, hat, Eiv⟩ := own_box (fun _ => eca) Aca nca lca (Cond.before_iff.mp (hsets _ (List.mem_of_getElem? (i := 7) rfl)))
 obtain ⟨n, o, h1, h2, h3, _, L, rfl, ⟨rfl, N⟩, hq⟩ := rmLaw l s _ hw tables_1 i0 i1 i2 i3 i4 i5 ca cca.cls cca.slots.toList iv_ s.heap s.heap.size (Nat.le_refl _) Shi Sca Vca Eiv hat p e ha hc hk s m _ below hf ((Spec.applies_iff_loose hf).mp happ).1 ⟨rfl, State.Warmed39.refl s, rfl⟩ trivial
 refine ⟨n, _, h1, h2, h3, hpost _ _ _ _ _ _ ⟨Cond.after_iff.mpr rfl, Cond.after_iff.mpr (eq_i res_at (Term.int_eval (1)) rfl), trivial⟩ ⟨hq.1, hq.2.1, (hq.2.2.sift fun y hy => Or.inr (N y hy)).mono (by decide) (by decide)⟩⟩
theorem main_1_1 : Claimed_1_1 := comes_1 fun _ _ _ _ _ _ h hF => ⟨h.1, hF⟩
theorem main_1_2 : Claimed_1_2 := comes_1 fun _ _ _ _ _ _ h hF => ⟨h.2.1, hF⟩
end Jvm.Pilot.@@N@@
namespace Jvm.Pilot.@@N@@
open Jvm Jvm.ClassFile Sem Op Lib Jvm.Free Jvm.Stand Jvm.Pilot.@@N@@.Jvm.D
/-! MADE BY PROGRAM (witnessworld.py) out of the Statement's table words and the real class files: 23 classes; the members and pool entries that the words name. The judged class is class 1, her method 2. -/
namespace start1
open Jvm.ClassFile
def u (s : String) : CpInfo := .utf8 (stringToUtf16 s)
/-- a pool by its gaps: so many unusable entries, then the entry; so many at the end -/
def gap : Nat → List CpInfo → List CpInfo
  | 0, r => r
  | n + 1, r => .unusable :: gap n r
def poolList (es : List (Nat × CpInfo)) (last : Nat) : List CpInfo := es.foldr (fun e r => gap e.1 (e.2 :: r)) (gap last [])
def pool (es : List (Nat × CpInfo)) (last : Nat) : Array CpInfo := ⟨poolList es last⟩
def fileOf (pool : Array CpInfo) (this : Nat) (attrs : Array Attribute := #[]) (ms : Array MethodInfo := #[]) (fl : Nat := 33) (sup : Nat := 0) (ifs : Array Nat := #[]) (fds : Array FieldInfo := #[]) : ClassFile where
  minorVersion := 0
  majorVersion := 65
  constantPool := pool
  accessFlags := fl
  thisClass := this
  superClass := sup
  interfaces := ifs
  fields := fds
  methods := ms
  attributes := attrs
def plain (name : String) (sup : Option ClassId) : Class where
  name := name
  kind := .ordinary
  loader := none
  accessFlags := 33
  super := sup
  interfaces := #[]
  cf := none
  fields := #[]
  methods := #[]
  instanceTypes := #[]
  staticTypes := #[]
  resolved := #[]
  callSites := []
  init := .initialized
  statics := none
  mirror := none

def pool0 : Array CpInfo := pool [(5, u "<init>"), (0, u "()V"), (1, .class_ 10), (1, u "java/lang/Object")] 113

def k0c0 : Code := { maxStack := 0, maxLocals := 1, code := object_method_1_code, exceptionTable := #[], attributes := #[] }
def k0m0 : Method := { name := "<init>", desc := "()V", sig := { parameters := [], returnType := none }, accessFlags := 1, code := some k0c0 }
/-- java/lang/Object -/
def k0 : Class := { plain "java/lang/Object" none with
  accessFlags := 33
  interfaces := #[]
  cf := some (fileOf pool0 8 #[] #[{ accessFlags := 1, nameIndex := 5, descriptorIndex := 6, attributes := #[] }] 33 0 #[] #[])
  fields := #[]
  methods := #[k0m0]
  instanceTypes := #[]
  staticTypes := #[]
  resolved := Array.replicate 124 none
  statics := none }

def pool1 : Array CpInfo := pool [(2, .class_ 4), (0, .nameAndType 5 6), (0, u "java/lang/Object"), (0, u "<init>"), (0, u "()V"), (0, .methodref 8 9), (0, .class_ 10), (0, .nameAndType 11 12), (0, u "java/lang/Math"), (0, u "min"), (0, u "(JJ)J"), (0, .class_ 14), (0, u "java/lang/Integer"), (0, .integer 2147483647), (0, .class_ 17), (0, u "com/example/theuth/theuth/io/Followed"), (0, .methodref 16 3), (0, .methodref 13 20), (0, .nameAndType 21 22), (0, u "valueOf"), (0, u "(I)Ljava/lang/Integer;"), (0, .methodref 16 24), (0, .nameAndType 25 26), (0, u "find"), (0, u "(I)J"), (0, .methodref 16 28), (0, .nameAndType 29 30), (0, u "add"), (0, u "(JIILjava/lang/Object;)V"), (0, .methodref 16 32), (0, .nameAndType 33 34), (0, u "isFollowed"), (0, u "(J)Z"), (2, .long 9223372036854775807), (1, .methodref 40 41), (0, .class_ 42), (0, .nameAndType 43 44), (0, u "com/example/theuth/theuth/io/FollowedFirstReadWithinPinLaw"), (0, u "after"), (0, u "(ZIIJ)J"), (0, .methodref 16 46), (0, .nameAndType 47 48), (0, u "firstReadWithin"), (0, u "(JI)I"), (3, u "law"), (0, u "(IIIIII)Z")] 2

def k1m0 : Method := { name := "<init>", desc := "()V", sig := { parameters := [], returnType := none }, accessFlags := 2, code := none }
def k1c1 : Code := { maxStack := 4, maxLocals := 5, code := method_2_code, exceptionTable := #[], attributes := #[] }
def k1m1 : Method := { name := "after", desc := "(ZIIJ)J", sig := { parameters := [.boolean, .int, .int, .long], returnType := some .long }, accessFlags := 10, code := some k1c1 }
def k1c2 : Code := { maxStack := 6, maxLocals := 20, code := code, exceptionTable := #[], attributes := #[] }
def k1m2 : Method := { name := "law", desc := "(IIIIII)Z", sig := { parameters := [.int, .int, .int, .int, .int, .int], returnType := some .boolean }, accessFlags := 9, code := some k1c2 }
/-- com/example/theuth/theuth/io/FollowedFirstReadWithinPinLaw -/
def k1 : Class := { plain "com/example/theuth/theuth/io/FollowedFirstReadWithinPinLaw" (some 0) with
  accessFlags := 49
  interfaces := #[]
  cf := some (fileOf pool1 40 #[] #[{ accessFlags := 2, nameIndex := 5, descriptorIndex := 6, attributes := #[] }, { accessFlags := 10, nameIndex := 43, descriptorIndex := 44, attributes := #[] }, { accessFlags := 9, nameIndex := 52, descriptorIndex := 53, attributes := #[] }] 49 2 #[] #[])
  fields := #[]
  methods := #[k1m0, k1m1, k1m2]
  instanceTypes := #[]
  staticTypes := #[]
  resolved := Array.replicate 56 none
  statics := none }

def pool2 : Array CpInfo := pool [(1, .methodref 2 3), (0, .class_ 4), (0, .nameAndType 5 6), (0, u "java/lang/Object"), (0, u "<init>"), (0, u "()V"), (0, .class_ 8), (0, u "com/example/theuth/theuth/io/Followed$Offsets"), (0, .methodref 7 10), (0, .nameAndType 5 11), (0, u "(Z)V"), (0, .fieldref 13 14), (0, .class_ 15), (0, .nameAndType 16 17), (0, u "com/example/theuth/theuth/io/Followed"), (0, u "read"), (0, u "Lcom/example/theuth/theuth/io/Followed$Offsets;"), (0, .fieldref 13 19), (0, .nameAndType 20 17), (0, u "unread"), (0, .methodref 7 22), (0, .nameAndType 23 24), (0, u "find"), (0, u "(I)J"), (0, .methodref 7 26), (0, .nameAndType 27 28), (0, u "isEmpty"), (0, u "()Z"), (0, .long 1073741824), (1, .integer 1073741824), (5, .class_ 39), (1, u "com/example/theuth/theuth/io/Followed$Chunk"), (5, u "[I"), (0, .fieldref 7 47), (0, .nameAndType 48 49), (0, u "chunkCount"), (0, u "I"), (0, .fieldref 7 51), (0, .nameAndType 52 53), (0, u "chunks"), (0, u "[Lcom/example/theuth/theuth/io/Followed$Chunk;"), (0, .fieldref 37 55), (0, .nameAndType 56 49), (0, u "size"), (2, .fieldref 37 60), (0, .nameAndType 61 45), (0, u "starts"), (0, .methodref 7 63), (0, .nameAndType 64 65), (0, u "append"), (0, u "(IILjava/lang/Object;)Z"), (0, .methodref 13 67), (0, .nameAndType 68 69), (0, u "insert"), (0, u "(JIILjava/lang/Object;)V"), (0, .methodref 7 71), (0, .nameAndType 72 73), (0, u "holds"), (0, u "(JI)Z"), (9, .methodref 7 67), (0, .class_ 85), (0, u "com/example/theuth/theuth/io/Followed$ReadItems"), (10, u "CHUNK"), (2, u "UNREAD"), (3, u "isFollowed"), (0, u "(J)Z"), (7, u "(JI)I"), (0, u "firstReadWithin"), (0, u "add"), (5, .class_ 121), (0, u "com/example/theuth/theuth/io/Followed$ReadItems$1")] 18

def k2c0 : Code := { maxStack := 4, maxLocals := 1, code := prog_116_method_1_code, exceptionTable := #[], attributes := #[] }
def k2m0 : Method := { name := "<init>", desc := "()V", sig := { parameters := [], returnType := none }, accessFlags := 0, code := some k2c0 }
def k2c1 : Code := { maxStack := 4, maxLocals := 4, code := prog_116_method_2_code, exceptionTable := #[], attributes := #[] }
def k2m1 : Method := { name := "find", desc := "(I)J", sig := { parameters := [.int], returnType := some .long }, accessFlags := 0, code := some k2c1 }
def k2c2 : Code := { maxStack := 2, maxLocals := 3, code := prog_116_method_3_code, exceptionTable := #[], attributes := #[] }
def k2m2 : Method := { name := "isFollowed", desc := "(J)Z", sig := { parameters := [.long], returnType := some .boolean }, accessFlags := 8, code := some k2c2 }
def k2c3 : Code := { maxStack := 3, maxLocals := 7, code := prog_116_method_8_code, exceptionTable := #[], attributes := #[] }
def k2m3 : Method := { name := "firstReadWithin", desc := "(JI)I", sig := { parameters := [.long, .int], returnType := some .int }, accessFlags := 0, code := some k2c3 }
def k2c4 : Code := { maxStack := 6, maxLocals := 6, code := prog_116_method_9_code, exceptionTable := #[], attributes := #[] }
def k2m4 : Method := { name := "add", desc := "(JIILjava/lang/Object;)V", sig := { parameters := [.long, .int, .int, (.object "java/lang/Object")], returnType := none }, accessFlags := 0, code := some k2c4 }
def k2c5 : Code := { maxStack := 6, maxLocals := 6, code := prog_116_method_10_code, exceptionTable := #[], attributes := #[] }
def k2m5 : Method := { name := "insert", desc := "(JIILjava/lang/Object;)V", sig := { parameters := [.long, .int, .int, (.object "java/lang/Object")], returnType := none }, accessFlags := 2, code := some k2c5 }
/-- com/example/theuth/theuth/io/Followed -/
def k2 : Class := { plain "com/example/theuth/theuth/io/Followed" (some 0) with
  accessFlags := 48
  interfaces := #[]
  cf := some (fileOf pool2 13 #[.nestMembers #[84, 120, 7, 37]] #[{ accessFlags := 0, nameIndex := 5, descriptorIndex := 6, attributes := #[] }, { accessFlags := 0, nameIndex := 23, descriptorIndex := 24, attributes := #[] }, { accessFlags := 8, nameIndex := 103, descriptorIndex := 104, attributes := #[] }, { accessFlags := 0, nameIndex := 113, descriptorIndex := 112, attributes := #[] }, { accessFlags := 0, nameIndex := 114, descriptorIndex := 69, attributes := #[] }, { accessFlags := 2, nameIndex := 68, descriptorIndex := 69, attributes := #[] }] 48 2 #[] #[{ accessFlags := 26, nameIndex := 96, descriptorIndex := 49, attributes := #[] }, { accessFlags := 26, nameIndex := 99, descriptorIndex := 49, attributes := #[] }, { accessFlags := 18, nameIndex := 16, descriptorIndex := 17, attributes := #[] }, { accessFlags := 18, nameIndex := 20, descriptorIndex := 17, attributes := #[] }])
  fields := #[{ name := "CHUNK", type := .int, accessFlags := 26, slot := 0, constantValue := 0 }, { name := "UNREAD", type := .int, accessFlags := 26, slot := 1, constantValue := 0 }, { name := "read", type := (.object "com/example/theuth/theuth/io/Followed$Offsets"), accessFlags := 18, slot := 0, constantValue := 0 }, { name := "unread", type := (.object "com/example/theuth/theuth/io/Followed$Offsets"), accessFlags := 18, slot := 1, constantValue := 0 }]
  methods := #[k2m0, k2m1, k2m2, k2m3, k2m4, k2m5]
  instanceTypes := #[(.object "com/example/theuth/theuth/io/Followed$Offsets"), (.object "com/example/theuth/theuth/io/Followed$Offsets")]
  staticTypes := #[.int, .int]
  resolved := ((((Array.replicate 140 none).setIfInBounds 50 (some (.field 3 1))).setIfInBounds 46 (some (.field 3 3))).setIfInBounds 59 (some (.field 4 0))).setIfInBounds 54 (some (.field 4 3))
  statics := none }

def pool3 : Array CpInfo := pool [(1, .class_ 2), (0, u "com/example/theuth/theuth/io/Followed"), (0, .methodref 4 5), (0, .class_ 6), (0, .nameAndType 7 8), (0, u "java/lang/Object"), (0, u "<init>"), (0, u "()V"), (0, .fieldref 10 11), (0, .class_ 12), (0, .nameAndType 13 14), (0, u "com/example/theuth/theuth/io/Followed$Offsets"), (0, u "firsts"), (0, u "[I"), (0, .fieldref 10 16), (0, .nameAndType 17 18), (0, u "chunkCount"), (0, u "I"), (0, .fieldref 10 20), (0, .nameAndType 21 22), (0, u "withItems"), (0, u "Z"), (0, .class_ 24), (0, u "com/example/theuth/theuth/io/Followed$Chunk"), (0, .methodref 23 26), (0, .nameAndType 7 27), (0, u "(Z)V"), (0, .fieldref 10 29), (0, .nameAndType 30 31), (0, u "chunks"), (0, u "[Lcom/example/theuth/theuth/io/Followed$Chunk;"), (0, .fieldref 23 33), (0, .nameAndType 34 18), (0, u "size"), (0, .fieldref 23 36), (0, .nameAndType 37 14), (0, u "starts"), (2, .methodref 41 42), (0, .class_ 43), (0, .nameAndType 44 45), (0, u "java/util/Arrays"), (0, u "binarySearch"), (0, u "([IIII)I"), (0, .methodref 47 48), (0, .class_ 49), (0, .nameAndType 50 51), (0, u "java/lang/Math"), (0, u "max"), (0, u "(II)I"), (4, .fieldref 23 57), (0, .nameAndType 58 14), (0, u "ends"), (0, .fieldref 23 60), (0, .nameAndType 61 62), (0, u "items"), (0, u "[Ljava/lang/Object;"), (4, .methodref 68 69), (0, .class_ 70), (0, .nameAndType 71 72), (0, u "java/lang/System"), (0, u "arraycopy"), (0, u "(Ljava/lang/Object;ILjava/lang/Object;II)V"), (14, u "find"), (0, u "(I)J"), (3, u "holds"), (0, u "(JI)Z"), (0, u "append"), (0, u "(IILjava/lang/Object;)Z"), (0, u "insert"), (0, u "(JIILjava/lang/Object;)V"), (0, u "isEmpty"), (0, u "()Z")] 6

def k3c0 : Code := { maxStack := 7, maxLocals := 2, code := prog_118_method_1_code, exceptionTable := #[], attributes := #[] }
def k3m0 : Method := { name := "<init>", desc := "(Z)V", sig := { parameters := [.boolean], returnType := none }, accessFlags := 0, code := some k3c0 }
def k3c1 : Code := { maxStack := 4, maxLocals := 6, code := prog_118_method_2_code, exceptionTable := #[], attributes := #[] }
def k3m1 : Method := { name := "find", desc := "(I)J", sig := { parameters := [.int], returnType := some .long }, accessFlags := 0, code := some k3c1 }
def k3c2 : Code := { maxStack := 4, maxLocals := 9, code := prog_118_method_4_code, exceptionTable := #[], attributes := #[] }
def k3m2 : Method := { name := "holds", desc := "(JI)Z", sig := { parameters := [.long, .int], returnType := some .boolean }, accessFlags := 0, code := some k3c2 }
def k3c3 : Code := { maxStack := 4, maxLocals := 6, code := prog_118_method_5_code, exceptionTable := #[], attributes := #[] }
def k3m3 : Method := { name := "append", desc := "(IILjava/lang/Object;)Z", sig := { parameters := [.int, .int, (.object "java/lang/Object")], returnType := some .boolean }, accessFlags := 0, code := some k3c3 }
def k3c4 : Code := { maxStack := 5, maxLocals := 10, code := prog_118_method_6_code, exceptionTable := #[], attributes := #[] }
def k3m4 : Method := { name := "insert", desc := "(JIILjava/lang/Object;)V", sig := { parameters := [.long, .int, .int, (.object "java/lang/Object")], returnType := none }, accessFlags := 0, code := some k3c4 }
def k3c5 : Code := { maxStack := 2, maxLocals := 1, code := prog_118_method_9_code, exceptionTable := #[], attributes := #[] }
def k3m5 : Method := { name := "isEmpty", desc := "()Z", sig := { parameters := [], returnType := some .boolean }, accessFlags := 0, code := some k3c5 }
/-- com/example/theuth/theuth/io/Followed$Offsets -/
def k3 : Class := { plain "com/example/theuth/theuth/io/Followed$Offsets" (some 0) with
  accessFlags := 48
  interfaces := #[]
  cf := some (fileOf pool3 10 #[.nestHost 1] #[{ accessFlags := 0, nameIndex := 7, descriptorIndex := 27, attributes := #[] }, { accessFlags := 0, nameIndex := 87, descriptorIndex := 88, attributes := #[] }, { accessFlags := 0, nameIndex := 92, descriptorIndex := 93, attributes := #[] }, { accessFlags := 0, nameIndex := 94, descriptorIndex := 95, attributes := #[] }, { accessFlags := 0, nameIndex := 96, descriptorIndex := 97, attributes := #[] }, { accessFlags := 0, nameIndex := 98, descriptorIndex := 99, attributes := #[] }] 48 4 #[] #[{ accessFlags := 18, nameIndex := 21, descriptorIndex := 22, attributes := #[] }, { accessFlags := 2, nameIndex := 30, descriptorIndex := 31, attributes := #[] }, { accessFlags := 2, nameIndex := 13, descriptorIndex := 14, attributes := #[] }, { accessFlags := 2, nameIndex := 17, descriptorIndex := 18, attributes := #[] }])
  fields := #[{ name := "withItems", type := .boolean, accessFlags := 18, slot := 0, constantValue := 0 }, { name := "chunks", type := (.array (.object "com/example/theuth/theuth/io/Followed$Chunk")), accessFlags := 2, slot := 1, constantValue := 0 }, { name := "firsts", type := (.array .int), accessFlags := 2, slot := 2, constantValue := 0 }, { name := "chunkCount", type := .int, accessFlags := 2, slot := 3, constantValue := 0 }]
  methods := #[k3m0, k3m1, k3m2, k3m3, k3m4, k3m5]
  instanceTypes := #[.boolean, (.array (.object "com/example/theuth/theuth/io/Followed$Chunk")), (.array .int), .int]
  staticTypes := #[]
  resolved := Array.replicate 106 none
  statics := none }

def pool4 : Array CpInfo := pool [(1, .class_ 2), (0, u "com/example/theuth/theuth/io/Followed"), (0, .methodref 4 5), (0, .class_ 6), (0, .nameAndType 7 8), (0, u "java/lang/Object"), (0, u "<init>"), (0, u "()V"), (0, .fieldref 10 11), (0, .class_ 12), (0, .nameAndType 13 14), (0, u "com/example/theuth/theuth/io/Followed$Chunk"), (0, u "starts"), (0, u "[I"), (0, .fieldref 10 16), (0, .nameAndType 17 14), (0, u "ends"), (0, .fieldref 10 19), (0, .nameAndType 20 21), (0, u "items"), (0, u "[Ljava/lang/Object;"), (0, u "size"), (0, u "I"), (0, u "(Z)V")] 10

def k4c0 : Code := { maxStack := 2, maxLocals := 2, code := prog_117_method_1_code, exceptionTable := #[], attributes := #[] }
def k4m0 : Method := { name := "<init>", desc := "(Z)V", sig := { parameters := [.boolean], returnType := none }, accessFlags := 0, code := some k4c0 }
/-- com/example/theuth/theuth/io/Followed$Chunk -/
def k4 : Class := { plain "com/example/theuth/theuth/io/Followed$Chunk" (some 0) with
  accessFlags := 48
  interfaces := #[]
  cf := some (fileOf pool4 10 #[.nestHost 1] #[{ accessFlags := 0, nameIndex := 7, descriptorIndex := 24, attributes := #[] }] 48 4 #[] #[{ accessFlags := 18, nameIndex := 13, descriptorIndex := 14, attributes := #[] }, { accessFlags := 18, nameIndex := 17, descriptorIndex := 14, attributes := #[] }, { accessFlags := 18, nameIndex := 20, descriptorIndex := 21, attributes := #[] }, { accessFlags := 2, nameIndex := 22, descriptorIndex := 23, attributes := #[] }])
  fields := #[{ name := "starts", type := (.array .int), accessFlags := 18, slot := 0, constantValue := 0 }, { name := "ends", type := (.array .int), accessFlags := 18, slot := 1, constantValue := 0 }, { name := "items", type := (.array (.object "java/lang/Object")), accessFlags := 18, slot := 2, constantValue := 0 }, { name := "size", type := .int, accessFlags := 2, slot := 3, constantValue := 0 }]
  methods := #[k4m0]
  instanceTypes := #[(.array .int), (.array .int), (.array (.object "java/lang/Object")), .int]
  staticTypes := #[]
  resolved := Array.replicate 35 none
  statics := none }

def pool5 : Array CpInfo := pool [(1, .class_ 2), (0, u "java/io/Serializable"), (0, .class_ 4), (0, u "java/lang/Object")] 2

/-- java/io/Serializable -/
def k5 : Class := { plain "java/io/Serializable" (some 0) with
  accessFlags := 1537
  interfaces := #[]
  cf := some (fileOf pool5 1 #[] #[] 1537 3 #[] #[])
  fields := #[]
  methods := #[]
  instanceTypes := #[]
  staticTypes := #[]
  resolved := Array.replicate 7 none
  statics := none }

def pool6 : Array CpInfo := pool [(2, .class_ 4), (1, u "java/lang/Object"), (0, u "<init>"), (0, u "()V"), (1, .class_ 10), (1, u "java/lang/Number"), (2, .class_ 14), (0, u "java/io/Serializable"), (0, u "serialVersionUID"), (0, u "J")] 20

def k6m0 : Method := { name := "<init>", desc := "()V", sig := { parameters := [], returnType := none }, accessFlags := 1, code := none }
/-- java/lang/Number -/
def k6 : Class := { plain "java/lang/Number" (some 0) with
  accessFlags := 1057
  interfaces := #[5]
  cf := some (fileOf pool6 8 #[] #[{ accessFlags := 1, nameIndex := 5, descriptorIndex := 6, attributes := #[] }] 1057 2 #[13] #[{ accessFlags := 26, nameIndex := 15, descriptorIndex := 16, attributes := #[] }])
  fields := #[{ name := "serialVersionUID", type := .long, accessFlags := 26, slot := 0, constantValue := 0 }]
  methods := #[k6m0]
  instanceTypes := #[]
  staticTypes := #[.long]
  resolved := Array.replicate 37 none
  statics := none }

def pool7 : Array CpInfo := pool [(1, .class_ 2), (0, u "java/lang/Comparable"), (0, .class_ 4), (0, u "java/lang/Object")] 7

/-- java/lang/Comparable -/
def k7 : Class := { plain "java/lang/Comparable" (some 0) with
  accessFlags := 1537
  interfaces := #[]
  cf := some (fileOf pool7 1 #[] #[] 1537 3 #[] #[])
  fields := #[]
  methods := #[]
  instanceTypes := #[]
  staticTypes := #[]
  resolved := Array.replicate 12 none
  statics := none }

def pool8 : Array CpInfo := pool [(1, .class_ 2), (0, u "java/lang/constant/Constable"), (0, .class_ 4), (0, u "java/lang/Object")] 6

/-- java/lang/constant/Constable -/
def k8 : Class := { plain "java/lang/constant/Constable" (some 0) with
  accessFlags := 1537
  interfaces := #[]
  cf := some (fileOf pool8 1 #[] #[] 1537 3 #[] #[])
  fields := #[]
  methods := #[]
  instanceTypes := #[]
  staticTypes := #[]
  resolved := Array.replicate 11 none
  statics := none }

def pool9 : Array CpInfo := pool [(1, .class_ 2), (0, u "java/lang/constant/ConstantDesc"), (0, .class_ 4), (0, u "java/lang/Object")] 32

/-- java/lang/constant/ConstantDesc -/
def k9 : Class := { plain "java/lang/constant/ConstantDesc" (some 0) with
  accessFlags := 1537
  interfaces := #[]
  cf := some (fileOf pool9 1 #[] #[] 1537 3 #[] #[])
  fields := #[]
  methods := #[]
  instanceTypes := #[]
  staticTypes := #[]
  resolved := Array.replicate 37 none
  statics := none }

def pool10 : Array CpInfo := pool [(1, .class_ 2), (0, u "java/lang/Integer"), (16, u "digits"), (0, u "[C"), (64, u "DigitOnes"), (0, u "[B"), (2, u "DigitTens"), (97, u "valueOf"), (0, u "(I)Ljava/lang/Integer;"), (0, .class_ 190), (0, u "java/lang/Integer$IntegerCache"), (0, .fieldref 189 192), (0, .nameAndType 193 194), (0, u "high"), (0, u "I"), (0, .fieldref 189 196), (0, .nameAndType 197 198), (0, u "cache"), (0, u "[Ljava/lang/Integer;"), (4, .class_ 204), (0, u "java/lang/Number"), (2, u "value"), (94, u "TYPE"), (0, u "Ljava/lang/Class;"), (0, .class_ 305), (0, u "java/lang/Comparable"), (0, .class_ 307), (0, u "java/lang/constant/Constable"), (0, .class_ 309), (0, u "java/lang/constant/ConstantDesc"), (0, u "MIN_VALUE"), (1, u "MAX_VALUE"), (3, u "SIZE"), (1, u "BYTES"), (1, u "serialVersionUID"), (0, u "J")] 131

def k10c0 : Code := { maxStack := 3, maxLocals := 1, code := jdk_33_method_22_code, exceptionTable := #[], attributes := #[] }
def k10m0 : Method := { name := "valueOf", desc := "(I)Ljava/lang/Integer;", sig := { parameters := [.int], returnType := some (.object "java/lang/Integer") }, accessFlags := 9, code := some k10c0 }
/-- java/lang/Integer -/
def k10 : Class := { plain "java/lang/Integer" (some 6) with
  accessFlags := 49
  interfaces := #[7, 8, 9]
  cf := some (fileOf pool10 1 #[.nestMembers #[189]] #[{ accessFlags := 9, nameIndex := 187, descriptorIndex := 188, attributes := #[] }] 49 203 #[304, 306, 308] #[{ accessFlags := 25, nameIndex := 310, descriptorIndex := 194, attributes := #[] }, { accessFlags := 25, nameIndex := 312, descriptorIndex := 194, attributes := #[] }, { accessFlags := 25, nameIndex := 302, descriptorIndex := 303, attributes := #[] }, { accessFlags := 24, nameIndex := 19, descriptorIndex := 20, attributes := #[] }, { accessFlags := 24, nameIndex := 89, descriptorIndex := 86, attributes := #[] }, { accessFlags := 24, nameIndex := 85, descriptorIndex := 86, attributes := #[] }, { accessFlags := 18, nameIndex := 207, descriptorIndex := 194, attributes := #[] }, { accessFlags := 25, nameIndex := 316, descriptorIndex := 194, attributes := #[] }, { accessFlags := 25, nameIndex := 318, descriptorIndex := 194, attributes := #[] }, { accessFlags := 26, nameIndex := 320, descriptorIndex := 321, attributes := #[] }])
  fields := #[{ name := "MIN_VALUE", type := .int, accessFlags := 25, slot := 0, constantValue := 0 }, { name := "MAX_VALUE", type := .int, accessFlags := 25, slot := 1, constantValue := 0 }, { name := "TYPE", type := (.object "java/lang/Class"), accessFlags := 25, slot := 2, constantValue := 0 }, { name := "digits", type := (.array .char), accessFlags := 24, slot := 3, constantValue := 0 }, { name := "DigitTens", type := (.array .byte), accessFlags := 24, slot := 4, constantValue := 0 }, { name := "DigitOnes", type := (.array .byte), accessFlags := 24, slot := 5, constantValue := 0 }, { name := "value", type := .int, accessFlags := 18, slot := 0, constantValue := 0 }, { name := "SIZE", type := .int, accessFlags := 25, slot := 6, constantValue := 0 }, { name := "BYTES", type := .int, accessFlags := 25, slot := 7, constantValue := 0 }, { name := "serialVersionUID", type := .long, accessFlags := 26, slot := 8, constantValue := 0 }]
  methods := #[k10m0]
  instanceTypes := #[.int]
  staticTypes := #[.int, .int, (.object "java/lang/Class"), (.array .char), (.array .byte), (.array .byte), .int, .int, .long]
  resolved := Array.replicate 453 none
  statics := none }

def pool11 : Array CpInfo := pool [(2, .class_ 4), (1, u "java/lang/Object"), (0, u "<init>"), (0, u "()V"), (0, .class_ 8), (0, u "java/lang/Integer"), (7, .class_ 18), (1, u "java/lang/Integer$IntegerCache"), (0, u "$assertionsDisabled"), (0, u "Z"), (26, u "high"), (0, u "I"), (8, u "archivedCache"), (0, u "[Ljava/lang/Integer;"), (12, u "cache"), (0, u "low")] 27

def k11m0 : Method := { name := "<init>", desc := "()V", sig := { parameters := [], returnType := none }, accessFlags := 2, code := none }
/-- java/lang/Integer$IntegerCache -/
def k11 : Class := { plain "java/lang/Integer$IntegerCache" (some 0) with
  accessFlags := 48
  interfaces := #[]
  cf := some (fileOf pool11 16 #[.nestHost 7] #[{ accessFlags := 2, nameIndex := 5, descriptorIndex := 6, attributes := #[] }] 48 2 #[] #[{ accessFlags := 24, nameIndex := 72, descriptorIndex := 48, attributes := #[] }, { accessFlags := 24, nameIndex := 47, descriptorIndex := 48, attributes := #[] }, { accessFlags := 24, nameIndex := 71, descriptorIndex := 58, attributes := #[] }, { accessFlags := 8, nameIndex := 57, descriptorIndex := 58, attributes := #[] }, { accessFlags := 4120, nameIndex := 19, descriptorIndex := 20, attributes := #[] }])
  fields := #[{ name := "low", type := .int, accessFlags := 24, slot := 0, constantValue := 0 }, { name := "high", type := .int, accessFlags := 24, slot := 1, constantValue := 0 }, { name := "cache", type := (.array (.object "java/lang/Integer")), accessFlags := 24, slot := 2, constantValue := 0 }, { name := "archivedCache", type := (.array (.object "java/lang/Integer")), accessFlags := 8, slot := 3, constantValue := 0 }, { name := "$assertionsDisabled", type := .boolean, accessFlags := 4120, slot := 4, constantValue := 0 }]
  methods := #[k11m0]
  instanceTypes := #[]
  staticTypes := #[.int, .int, (.array (.object "java/lang/Integer")), (.array (.object "java/lang/Integer")), .boolean]
  resolved := Array.replicate 100 none
  statics := some 0 }

def pool12 : Array CpInfo := pool [(2, .class_ 4), (1, u "java/lang/Object"), (0, u "<init>"), (0, u "()V"), (1, .class_ 10), (1, u "java/lang/System"), (0, u "allowSecurityManager"), (0, u "I"), (16, u "cons"), (0, u "Ljava/io/Console;"), (77, .class_ 110), (1, u "java/lang/System$CallersHolder"), (43, u "initialErrStream"), (0, u "Ljava/io/PrintStream;"), (19, u "security"), (0, u "Ljava/lang/SecurityManager;"), (31, .class_ 209), (0, u "java/lang/System$1"), (7, u "props"), (0, u "Ljava/util/Properties;"), (2, u "lineSeparator"), (0, u "Ljava/lang/String;"), (96, .class_ 321), (1, u "java/lang/System$LoggerFinder"), (5, .class_ 328), (0, u "java/lang/System$Logger"), (67, u "err"), (2, u "out"), (91, u "notSupportedJnuEncoding"), (15, u "in"), (17, u "initialIn"), (0, u "Ljava/io/InputStream;"), (35, u "bootLayer"), (0, u "Ljava/lang/ModuleLayer;"), (99, .class_ 664), (0, u "java/lang/System$2"), (9, u "NEVER"), (2, u "MAYBE"), (49, u "arraycopy"), (0, u "(Ljava/lang/Object;ILjava/lang/Object;II)V"), (72, .class_ 802), (0, u "java/lang/System$Logger$Level")] 31

def k12m0 : Method := { name := "<init>", desc := "()V", sig := { parameters := [], returnType := none }, accessFlags := 2, code := none }
def k12m1 : Method := { name := "arraycopy", desc := "(Ljava/lang/Object;ILjava/lang/Object;II)V", sig := { parameters := [(.object "java/lang/Object"), .int, (.object "java/lang/Object"), .int, .int], returnType := none }, accessFlags := 265, code := none }
/-- java/lang/System -/
def k12 : Class := { plain "java/lang/System" (some 0) with
  accessFlags := 49
  interfaces := #[]
  cf := some (fileOf pool12 8 #[.nestMembers #[319, 327, 801, 108, 663, 208]] #[{ accessFlags := 2, nameIndex := 5, descriptorIndex := 6, attributes := #[] }, { accessFlags := 265, nameIndex := 727, descriptorIndex := 728, attributes := #[] }] 49 2 #[] #[{ accessFlags := 25, nameIndex := 507, descriptorIndex := 526, attributes := #[] }, { accessFlags := 25, nameIndex := 399, descriptorIndex := 155, attributes := #[] }, { accessFlags := 25, nameIndex := 396, descriptorIndex := 155, attributes := #[] }, { accessFlags := 10, nameIndex := 525, descriptorIndex := 526, attributes := #[] }, { accessFlags := 26, nameIndex := 674, descriptorIndex := 12, attributes := #[] }, { accessFlags := 26, nameIndex := 677, descriptorIndex := 12, attributes := #[] }, { accessFlags := 10, nameIndex := 11, descriptorIndex := 12, attributes := #[] }, { accessFlags := 74, nameIndex := 175, descriptorIndex := 176, attributes := #[] }, { accessFlags := 10, nameIndex := 491, descriptorIndex := 222, attributes := #[] }, { accessFlags := 74, nameIndex := 29, descriptorIndex := 30, attributes := #[] }, { accessFlags := 74, nameIndex := 154, descriptorIndex := 155, attributes := #[] }, { accessFlags := 10, nameIndex := 217, descriptorIndex := 218, attributes := #[] }, { accessFlags := 10, nameIndex := 221, descriptorIndex := 222, attributes := #[] }, { accessFlags := 8, nameIndex := 562, descriptorIndex := 563, attributes := #[] }])
  fields := #[{ name := "in", type := (.object "java/io/InputStream"), accessFlags := 25, slot := 0, constantValue := 0 }, { name := "out", type := (.object "java/io/PrintStream"), accessFlags := 25, slot := 1, constantValue := 0 }, { name := "err", type := (.object "java/io/PrintStream"), accessFlags := 25, slot := 2, constantValue := 0 }, { name := "initialIn", type := (.object "java/io/InputStream"), accessFlags := 10, slot := 3, constantValue := 0 }, { name := "NEVER", type := .int, accessFlags := 26, slot := 4, constantValue := 0 }, { name := "MAYBE", type := .int, accessFlags := 26, slot := 5, constantValue := 0 }, { name := "allowSecurityManager", type := .int, accessFlags := 10, slot := 6, constantValue := 0 }, { name := "security", type := (.object "java/lang/SecurityManager"), accessFlags := 74, slot := 7, constantValue := 0 }, { name := "notSupportedJnuEncoding", type := (.object "java/lang/String"), accessFlags := 10, slot := 8, constantValue := 0 }, { name := "cons", type := (.object "java/io/Console"), accessFlags := 74, slot := 9, constantValue := 0 }, { name := "initialErrStream", type := (.object "java/io/PrintStream"), accessFlags := 74, slot := 10, constantValue := 0 }, { name := "props", type := (.object "java/util/Properties"), accessFlags := 10, slot := 11, constantValue := 0 }, { name := "lineSeparator", type := (.object "java/lang/String"), accessFlags := 10, slot := 12, constantValue := 0 }, { name := "bootLayer", type := (.object "java/lang/ModuleLayer"), accessFlags := 8, slot := 13, constantValue := 0 }]
  methods := #[k12m0, k12m1]
  instanceTypes := #[]
  staticTypes := #[(.object "java/io/InputStream"), (.object "java/io/PrintStream"), (.object "java/io/PrintStream"), (.object "java/io/InputStream"), .int, .int, .int, (.object "java/lang/SecurityManager"), (.object "java/lang/String"), (.object "java/io/Console"), (.object "java/io/PrintStream"), (.object "java/util/Properties"), (.object "java/lang/String"), (.object "java/lang/ModuleLayer")]
  resolved := Array.replicate 834 none
  statics := none }

def pool13 : Array CpInfo := pool [(2, .class_ 4), (1, u "java/lang/Object"), (0, u "<init>"), (0, u "()V"), (6, .methodref 14 15), (0, .class_ 16), (0, .nameAndType 17 18), (0, u "java/util/Arrays"), (0, u "rangeCheck"), (0, u "(III)V"), (55, .class_ 76), (1, u "java/util/Arrays$NaturalOrder"), (36, .class_ 115), (1, u "java/util/Arrays$LegacyMergeSort"), (1, u "Z"), (89, u "binarySearch0"), (1, .methodref 14 210), (0, .nameAndType 207 211), (0, u "([IIII)I"), (163, .class_ 376), (0, u "java/util/Arrays$ArrayList"), (68, u "$assertionsDisabled"), (269, u "MIN_ARRAY_SORT_GRAN"), (0, u "I"), (2, u "INSERTIONSORT_THRESHOLD"), (74, u "binarySearch"), (180, .class_ 976), (0, u "java/util/Arrays$ArrayItr")] 52

def k13m0 : Method := { name := "<init>", desc := "()V", sig := { parameters := [], returnType := none }, accessFlags := 2, code := none }
def k13c1 : Code := { maxStack := 4, maxLocals := 3, code := jdk_65_method_30_code, exceptionTable := #[], attributes := #[] }
def k13m1 : Method := { name := "rangeCheck", desc := "(III)V", sig := { parameters := [.int, .int, .int], returnType := none }, accessFlags := 8, code := some k13c1 }
def k13c2 : Code := { maxStack := 4, maxLocals := 4, code := jdk_65_method_58_code, exceptionTable := #[], attributes := #[] }
def k13m2 : Method := { name := "binarySearch", desc := "([IIII)I", sig := { parameters := [(.array .int), .int, .int, .int], returnType := some .int }, accessFlags := 9, code := some k13c2 }
def k13c3 : Code := { maxStack := 2, maxLocals := 8, code := jdk_65_method_59_code, exceptionTable := #[], attributes := #[] }
def k13m3 : Method := { name := "binarySearch0", desc := "([IIII)I", sig := { parameters := [(.array .int), .int, .int, .int], returnType := some .int }, accessFlags := 10, code := some k13c3 }
/-- java/util/Arrays -/
def k13 : Class := { plain "java/util/Arrays" (some 0) with
  accessFlags := 49
  interfaces := #[]
  cf := some (fileOf pool13 14 #[.nestMembers #[975, 375, 113, 74]] #[{ accessFlags := 2, nameIndex := 5, descriptorIndex := 6, attributes := #[] }, { accessFlags := 8, nameIndex := 17, descriptorIndex := 18, attributes := #[] }, { accessFlags := 9, nameIndex := 794, descriptorIndex := 211, attributes := #[] }, { accessFlags := 10, nameIndex := 207, descriptorIndex := 211, attributes := #[] }] 49 2 #[] #[{ accessFlags := 26, nameIndex := 715, descriptorIndex := 716, attributes := #[] }, { accessFlags := 26, nameIndex := 719, descriptorIndex := 716, attributes := #[] }, { accessFlags := 4120, nameIndex := 445, descriptorIndex := 117, attributes := #[] }])
  fields := #[{ name := "MIN_ARRAY_SORT_GRAN", type := .int, accessFlags := 26, slot := 0, constantValue := 0 }, { name := "INSERTIONSORT_THRESHOLD", type := .int, accessFlags := 26, slot := 1, constantValue := 0 }, { name := "$assertionsDisabled", type := .boolean, accessFlags := 4120, slot := 2, constantValue := 0 }]
  methods := #[k13m0, k13m1, k13m2, k13m3]
  instanceTypes := #[]
  staticTypes := #[.int, .int, .boolean]
  resolved := Array.replicate 1029 none
  statics := none }

def pool14 : Array CpInfo := pool [(1, .class_ 2), (0, u "java/lang/Math"), (1, .class_ 6), (1, u "java/lang/Object"), (0, u "<init>"), (0, u "()V"), (89, .class_ 100), (1, u "java/lang/Math$RandomNumberGeneratorHolder"), (20, u "(JJ)J"), (50, u "negativeZeroFloatBits"), (0, u "J"), (2, u "negativeZeroDoubleBits"), (21, u "max"), (2, u "min"), (43, u "$assertionsDisabled"), (0, u "Z"), (88, u "(II)I"), (2, u "twoToTheDoubleScaleDown"), (0, u "D"), (4, u "twoToTheDoubleScaleUp"), (9, u "E"), (3, u "PI"), (2, u "TAU"), (2, u "DEGREES_TO_RADIANS"), (0, u "RADIANS_TO_DEGREES")] 94

def k14m0 : Method := { name := "<init>", desc := "()V", sig := { parameters := [], returnType := none }, accessFlags := 2, code := none }
def k14c1 : Code := { maxStack := 2, maxLocals := 2, code := jdk_29_method_65_code, exceptionTable := #[], attributes := #[] }
def k14m1 : Method := { name := "max", desc := "(II)I", sig := { parameters := [.int, .int], returnType := some .int }, accessFlags := 9, code := some k14c1 }
def k14c2 : Code := { maxStack := 4, maxLocals := 4, code := jdk_29_method_70_code, exceptionTable := #[], attributes := #[] }
def k14m2 : Method := { name := "min", desc := "(JJ)J", sig := { parameters := [.long, .long], returnType := some .long }, accessFlags := 9, code := some k14c2 }
/-- java/lang/Math -/
def k14 : Class := { plain "java/lang/Math" (some 0) with
  accessFlags := 49
  interfaces := #[]
  cf := some (fileOf pool14 1 #[.nestMembers #[98]] #[{ accessFlags := 2, nameIndex := 7, descriptorIndex := 8, attributes := #[] }, { accessFlags := 9, nameIndex := 198, descriptorIndex := 335, attributes := #[] }, { accessFlags := 9, nameIndex := 201, descriptorIndex := 121, attributes := #[] }] 49 4 #[] #[{ accessFlags := 25, nameIndex := 354, descriptorIndex := 339, attributes := #[] }, { accessFlags := 25, nameIndex := 358, descriptorIndex := 339, attributes := #[] }, { accessFlags := 25, nameIndex := 361, descriptorIndex := 339, attributes := #[] }, { accessFlags := 26, nameIndex := 364, descriptorIndex := 339, attributes := #[] }, { accessFlags := 26, nameIndex := 365, descriptorIndex := 339, attributes := #[] }, { accessFlags := 26, nameIndex := 172, descriptorIndex := 173, attributes := #[] }, { accessFlags := 26, nameIndex := 176, descriptorIndex := 173, attributes := #[] }, { accessFlags := 8, nameIndex := 344, descriptorIndex := 339, attributes := #[] }, { accessFlags := 8, nameIndex := 338, descriptorIndex := 339, attributes := #[] }, { accessFlags := 4120, nameIndex := 245, descriptorIndex := 246, attributes := #[] }])
  fields := #[{ name := "E", type := .double, accessFlags := 25, slot := 0, constantValue := 0 }, { name := "PI", type := .double, accessFlags := 25, slot := 1, constantValue := 0 }, { name := "TAU", type := .double, accessFlags := 25, slot := 2, constantValue := 0 }, { name := "DEGREES_TO_RADIANS", type := .double, accessFlags := 26, slot := 3, constantValue := 0 }, { name := "RADIANS_TO_DEGREES", type := .double, accessFlags := 26, slot := 4, constantValue := 0 }, { name := "negativeZeroFloatBits", type := .long, accessFlags := 26, slot := 5, constantValue := 0 }, { name := "negativeZeroDoubleBits", type := .long, accessFlags := 26, slot := 6, constantValue := 0 }, { name := "twoToTheDoubleScaleUp", type := .double, accessFlags := 8, slot := 7, constantValue := 0 }, { name := "twoToTheDoubleScaleDown", type := .double, accessFlags := 8, slot := 8, constantValue := 0 }, { name := "$assertionsDisabled", type := .boolean, accessFlags := 4120, slot := 9, constantValue := 0 }]
  methods := #[k14m0, k14m1, k14m2]
  instanceTypes := #[]
  staticTypes := #[.double, .double, .double, .double, .double, .long, .long, .double, .double, .boolean]
  resolved := Array.replicate 460 none
  statics := none }

def pool15 : Array CpInfo := pool [(1, u "java/lang/Cloneable"), (0, .class_ 1), (0, u "java/lang/Object"), (0, .class_ 3)] 3

/-- java/lang/Cloneable -/
def k15 : Class := { plain "java/lang/Cloneable" (some 0) with
  accessFlags := 1537
  interfaces := #[]
  cf := some (fileOf pool15 2 #[] #[] 1537 4 #[] #[])
  fields := #[]
  methods := #[]
  instanceTypes := #[]
  staticTypes := #[]
  resolved := Array.replicate 8 none
  statics := none }

/-- the primitive byte -/
def k16 : Class := { plain "byte" none with kind := .primitive 'B', accessFlags := 0x411 }
/-- [B -/
def k17 : Class := { plain "[B" (some 0) with kind := .array 16 .byte, interfaces := #[15, 5], accessFlags := 1041 }

/-- the primitive int -/
def k18 : Class := { plain "int" none with kind := .primitive 'I', accessFlags := 0x411 }
/-- [I -/
def k19 : Class := { plain "[I" (some 0) with kind := .array 18 .int, interfaces := #[15, 5], accessFlags := 1041 }

/-- [Lcom/example/theuth/theuth/io/Followed$Chunk; -/
def k20 : Class := { plain "[Lcom/example/theuth/theuth/io/Followed$Chunk;" (some 0) with kind := .array 4 (.object "com/example/theuth/theuth/io/Followed$Chunk"), interfaces := #[15, 5], accessFlags := 1041 }

/-- [Ljava/lang/Integer; -/
def k21 : Class := { plain "[Ljava/lang/Integer;" (some 0) with kind := .array 10 (.object "java/lang/Integer"), interfaces := #[15, 5], accessFlags := 1041 }

/-- [Ljava/lang/Object; -/
def k22 : Class := { plain "[Ljava/lang/Object;" (some 0) with kind := .array 0 (.object "java/lang/Object"), interfaces := #[15, 5], accessFlags := 1041 }

def heap : Heap := #[{ cls := 11, slots := #[.int 0, .int 127, .ref 1, .null, .int 0], vm := .statics 11 },
  { cls := 21, slots := #[.ref 2, .ref 3, .ref 4, .ref 5, .ref 6, .ref 7, .ref 8, .ref 9, .ref 10, .ref 11, .ref 12, .ref 13, .ref 14, .ref 15, .ref 16, .ref 17, .ref 18, .ref 19, .ref 20, .ref 21, .ref 22, .ref 23, .ref 24, .ref 25, .ref 26, .ref 27, .ref 28, .ref 29, .ref 30, .ref 31, .ref 32, .ref 33, .ref 34, .ref 35, .ref 36, .ref 37, .ref 38, .ref 39, .ref 40, .ref 41, .ref 42, .ref 43, .ref 44, .ref 45, .ref 46, .ref 47, .ref 48, .ref 49, .ref 50, .ref 51, .ref 52, .ref 53, .ref 54, .ref 55, .ref 56, .ref 57, .ref 58, .ref 59, .ref 60, .ref 61, .ref 62, .ref 63, .ref 64, .ref 65, .ref 66, .ref 67, .ref 68, .ref 69, .ref 70, .ref 71, .ref 72, .ref 73, .ref 74, .ref 75, .ref 76, .ref 77, .ref 78, .ref 79, .ref 80, .ref 81, .ref 82, .ref 83, .ref 84, .ref 85, .ref 86, .ref 87, .ref 88, .ref 89, .ref 90, .ref 91, .ref 92, .ref 93, .ref 94, .ref 95, .ref 96, .ref 97, .ref 98, .ref 99, .ref 100, .ref 101, .ref 102, .ref 103, .ref 104, .ref 105, .ref 106, .ref 107, .ref 108, .ref 109, .ref 110, .ref 111, .ref 112, .ref 113, .ref 114, .ref 115, .ref 116, .ref 117, .ref 118, .ref 119, .ref 120, .ref 121, .ref 122, .ref 123, .ref 124, .ref 125, .ref 126, .ref 127, .ref 128, .ref 129, .ref 130, .ref 131, .ref 132, .ref 133, .ref 134, .ref 135, .ref 136, .ref 137, .ref 138, .ref 139, .ref 140, .ref 141, .ref 142, .ref 143, .ref 144, .ref 145, .ref 146, .ref 147, .ref 148, .ref 149, .ref 150, .ref 151, .ref 152, .ref 153, .ref 154, .ref 155, .ref 156, .ref 157, .ref 158, .ref 159, .ref 160, .ref 161, .ref 162, .ref 163, .ref 164, .ref 165, .ref 166, .ref 167, .ref 168, .ref 169, .ref 170, .ref 171, .ref 172, .ref 173, .ref 174, .ref 175, .ref 176, .ref 177, .ref 178, .ref 179, .ref 180, .ref 181, .ref 182, .ref 183, .ref 184, .ref 185, .ref 186, .ref 187, .ref 188, .ref 189, .ref 190, .ref 191, .ref 192, .ref 193, .ref 194, .ref 195, .ref 196, .ref 197, .ref 198, .ref 199, .ref 200, .ref 201, .ref 202, .ref 203, .ref 204, .ref 205, .ref 206, .ref 207, .ref 208, .ref 209, .ref 210, .ref 211, .ref 212, .ref 213, .ref 214, .ref 215, .ref 216, .ref 217, .ref 218, .ref 219, .ref 220, .ref 221, .ref 222, .ref 223, .ref 224, .ref 225, .ref 226, .ref 227, .ref 228, .ref 229, .ref 230, .ref 231, .ref 232, .ref 233, .ref 234, .ref 235, .ref 236, .ref 237, .ref 238, .ref 239, .ref 240, .ref 241, .ref 242, .ref 243, .ref 244, .ref 245, .ref 246, .ref 247, .ref 248, .ref 249, .ref 250, .ref 251, .ref 252, .ref 253, .ref 254, .ref 255, .ref 256, .ref 257], vm := .none },
  { cls := 10, slots := #[.int (-128)], vm := .none },
  { cls := 10, slots := #[.int (-127)], vm := .none },
  { cls := 10, slots := #[.int (-126)], vm := .none },
  { cls := 10, slots := #[.int (-125)], vm := .none },
  { cls := 10, slots := #[.int (-124)], vm := .none },
  { cls := 10, slots := #[.int (-123)], vm := .none },
  { cls := 10, slots := #[.int (-122)], vm := .none },
  { cls := 10, slots := #[.int (-121)], vm := .none },
  { cls := 10, slots := #[.int (-120)], vm := .none },
  { cls := 10, slots := #[.int (-119)], vm := .none },
  { cls := 10, slots := #[.int (-118)], vm := .none },
  { cls := 10, slots := #[.int (-117)], vm := .none },
  { cls := 10, slots := #[.int (-116)], vm := .none },
  { cls := 10, slots := #[.int (-115)], vm := .none },
  { cls := 10, slots := #[.int (-114)], vm := .none },
  { cls := 10, slots := #[.int (-113)], vm := .none },
  { cls := 10, slots := #[.int (-112)], vm := .none },
  { cls := 10, slots := #[.int (-111)], vm := .none },
  { cls := 10, slots := #[.int (-110)], vm := .none },
  { cls := 10, slots := #[.int (-109)], vm := .none },
  { cls := 10, slots := #[.int (-108)], vm := .none },
  { cls := 10, slots := #[.int (-107)], vm := .none },
  { cls := 10, slots := #[.int (-106)], vm := .none },
  { cls := 10, slots := #[.int (-105)], vm := .none },
  { cls := 10, slots := #[.int (-104)], vm := .none },
  { cls := 10, slots := #[.int (-103)], vm := .none },
  { cls := 10, slots := #[.int (-102)], vm := .none },
  { cls := 10, slots := #[.int (-101)], vm := .none },
  { cls := 10, slots := #[.int (-100)], vm := .none },
  { cls := 10, slots := #[.int (-99)], vm := .none },
  { cls := 10, slots := #[.int (-98)], vm := .none },
  { cls := 10, slots := #[.int (-97)], vm := .none },
  { cls := 10, slots := #[.int (-96)], vm := .none },
  { cls := 10, slots := #[.int (-95)], vm := .none },
  { cls := 10, slots := #[.int (-94)], vm := .none },
  { cls := 10, slots := #[.int (-93)], vm := .none },
  { cls := 10, slots := #[.int (-92)], vm := .none },
  { cls := 10, slots := #[.int (-91)], vm := .none },
  { cls := 10, slots := #[.int (-90)], vm := .none },
  { cls := 10, slots := #[.int (-89)], vm := .none },
  { cls := 10, slots := #[.int (-88)], vm := .none },
  { cls := 10, slots := #[.int (-87)], vm := .none },
  { cls := 10, slots := #[.int (-86)], vm := .none },
  { cls := 10, slots := #[.int (-85)], vm := .none },
  { cls := 10, slots := #[.int (-84)], vm := .none },
  { cls := 10, slots := #[.int (-83)], vm := .none },
  { cls := 10, slots := #[.int (-82)], vm := .none },
  { cls := 10, slots := #[.int (-81)], vm := .none },
  { cls := 10, slots := #[.int (-80)], vm := .none },
  { cls := 10, slots := #[.int (-79)], vm := .none },
  { cls := 10, slots := #[.int (-78)], vm := .none },
  { cls := 10, slots := #[.int (-77)], vm := .none },
  { cls := 10, slots := #[.int (-76)], vm := .none },
  { cls := 10, slots := #[.int (-75)], vm := .none },
  { cls := 10, slots := #[.int (-74)], vm := .none },
  { cls := 10, slots := #[.int (-73)], vm := .none },
  { cls := 10, slots := #[.int (-72)], vm := .none },
  { cls := 10, slots := #[.int (-71)], vm := .none },
  { cls := 10, slots := #[.int (-70)], vm := .none },
  { cls := 10, slots := #[.int (-69)], vm := .none },
  { cls := 10, slots := #[.int (-68)], vm := .none },
  { cls := 10, slots := #[.int (-67)], vm := .none },
  { cls := 10, slots := #[.int (-66)], vm := .none },
  { cls := 10, slots := #[.int (-65)], vm := .none },
  { cls := 10, slots := #[.int (-64)], vm := .none },
  { cls := 10, slots := #[.int (-63)], vm := .none },
  { cls := 10, slots := #[.int (-62)], vm := .none },
  { cls := 10, slots := #[.int (-61)], vm := .none },
  { cls := 10, slots := #[.int (-60)], vm := .none },
  { cls := 10, slots := #[.int (-59)], vm := .none },
  { cls := 10, slots := #[.int (-58)], vm := .none },
  { cls := 10, slots := #[.int (-57)], vm := .none },
  { cls := 10, slots := #[.int (-56)], vm := .none },
  { cls := 10, slots := #[.int (-55)], vm := .none },
  { cls := 10, slots := #[.int (-54)], vm := .none },
  { cls := 10, slots := #[.int (-53)], vm := .none },
  { cls := 10, slots := #[.int (-52)], vm := .none },
  { cls := 10, slots := #[.int (-51)], vm := .none },
  { cls := 10, slots := #[.int (-50)], vm := .none },
  { cls := 10, slots := #[.int (-49)], vm := .none },
  { cls := 10, slots := #[.int (-48)], vm := .none },
  { cls := 10, slots := #[.int (-47)], vm := .none },
  { cls := 10, slots := #[.int (-46)], vm := .none },
  { cls := 10, slots := #[.int (-45)], vm := .none },
  { cls := 10, slots := #[.int (-44)], vm := .none },
  { cls := 10, slots := #[.int (-43)], vm := .none },
  { cls := 10, slots := #[.int (-42)], vm := .none },
  { cls := 10, slots := #[.int (-41)], vm := .none },
  { cls := 10, slots := #[.int (-40)], vm := .none },
  { cls := 10, slots := #[.int (-39)], vm := .none },
  { cls := 10, slots := #[.int (-38)], vm := .none },
  { cls := 10, slots := #[.int (-37)], vm := .none },
  { cls := 10, slots := #[.int (-36)], vm := .none },
  { cls := 10, slots := #[.int (-35)], vm := .none },
  { cls := 10, slots := #[.int (-34)], vm := .none },
  { cls := 10, slots := #[.int (-33)], vm := .none },
  { cls := 10, slots := #[.int (-32)], vm := .none },
  { cls := 10, slots := #[.int (-31)], vm := .none },
  { cls := 10, slots := #[.int (-30)], vm := .none },
  { cls := 10, slots := #[.int (-29)], vm := .none },
  { cls := 10, slots := #[.int (-28)], vm := .none },
  { cls := 10, slots := #[.int (-27)], vm := .none },
  { cls := 10, slots := #[.int (-26)], vm := .none },
  { cls := 10, slots := #[.int (-25)], vm := .none },
  { cls := 10, slots := #[.int (-24)], vm := .none },
  { cls := 10, slots := #[.int (-23)], vm := .none },
  { cls := 10, slots := #[.int (-22)], vm := .none },
  { cls := 10, slots := #[.int (-21)], vm := .none },
  { cls := 10, slots := #[.int (-20)], vm := .none },
  { cls := 10, slots := #[.int (-19)], vm := .none },
  { cls := 10, slots := #[.int (-18)], vm := .none },
  { cls := 10, slots := #[.int (-17)], vm := .none },
  { cls := 10, slots := #[.int (-16)], vm := .none },
  { cls := 10, slots := #[.int (-15)], vm := .none },
  { cls := 10, slots := #[.int (-14)], vm := .none },
  { cls := 10, slots := #[.int (-13)], vm := .none },
  { cls := 10, slots := #[.int (-12)], vm := .none },
  { cls := 10, slots := #[.int (-11)], vm := .none },
  { cls := 10, slots := #[.int (-10)], vm := .none },
  { cls := 10, slots := #[.int (-9)], vm := .none },
  { cls := 10, slots := #[.int (-8)], vm := .none },
  { cls := 10, slots := #[.int (-7)], vm := .none },
  { cls := 10, slots := #[.int (-6)], vm := .none },
  { cls := 10, slots := #[.int (-5)], vm := .none },
  { cls := 10, slots := #[.int (-4)], vm := .none },
  { cls := 10, slots := #[.int (-3)], vm := .none },
  { cls := 10, slots := #[.int (-2)], vm := .none },
  { cls := 10, slots := #[.int (-1)], vm := .none },
  { cls := 10, slots := #[.int 0], vm := .none },
  { cls := 10, slots := #[.int 1], vm := .none },
  { cls := 10, slots := #[.int 2], vm := .none },
  { cls := 10, slots := #[.int 3], vm := .none },
  { cls := 10, slots := #[.int 4], vm := .none },
  { cls := 10, slots := #[.int 5], vm := .none },
  { cls := 10, slots := #[.int 6], vm := .none },
  { cls := 10, slots := #[.int 7], vm := .none },
  { cls := 10, slots := #[.int 8], vm := .none },
  { cls := 10, slots := #[.int 9], vm := .none },
  { cls := 10, slots := #[.int 10], vm := .none },
  { cls := 10, slots := #[.int 11], vm := .none },
  { cls := 10, slots := #[.int 12], vm := .none },
  { cls := 10, slots := #[.int 13], vm := .none },
  { cls := 10, slots := #[.int 14], vm := .none },
  { cls := 10, slots := #[.int 15], vm := .none },
  { cls := 10, slots := #[.int 16], vm := .none },
  { cls := 10, slots := #[.int 17], vm := .none },
  { cls := 10, slots := #[.int 18], vm := .none },
  { cls := 10, slots := #[.int 19], vm := .none },
  { cls := 10, slots := #[.int 20], vm := .none },
  { cls := 10, slots := #[.int 21], vm := .none },
  { cls := 10, slots := #[.int 22], vm := .none },
  { cls := 10, slots := #[.int 23], vm := .none },
  { cls := 10, slots := #[.int 24], vm := .none },
  { cls := 10, slots := #[.int 25], vm := .none },
  { cls := 10, slots := #[.int 26], vm := .none },
  { cls := 10, slots := #[.int 27], vm := .none },
  { cls := 10, slots := #[.int 28], vm := .none },
  { cls := 10, slots := #[.int 29], vm := .none },
  { cls := 10, slots := #[.int 30], vm := .none },
  { cls := 10, slots := #[.int 31], vm := .none },
  { cls := 10, slots := #[.int 32], vm := .none },
  { cls := 10, slots := #[.int 33], vm := .none },
  { cls := 10, slots := #[.int 34], vm := .none },
  { cls := 10, slots := #[.int 35], vm := .none },
  { cls := 10, slots := #[.int 36], vm := .none },
  { cls := 10, slots := #[.int 37], vm := .none },
  { cls := 10, slots := #[.int 38], vm := .none },
  { cls := 10, slots := #[.int 39], vm := .none },
  { cls := 10, slots := #[.int 40], vm := .none },
  { cls := 10, slots := #[.int 41], vm := .none },
  { cls := 10, slots := #[.int 42], vm := .none },
  { cls := 10, slots := #[.int 43], vm := .none },
  { cls := 10, slots := #[.int 44], vm := .none },
  { cls := 10, slots := #[.int 45], vm := .none },
  { cls := 10, slots := #[.int 46], vm := .none },
  { cls := 10, slots := #[.int 47], vm := .none },
  { cls := 10, slots := #[.int 48], vm := .none },
  { cls := 10, slots := #[.int 49], vm := .none },
  { cls := 10, slots := #[.int 50], vm := .none },
  { cls := 10, slots := #[.int 51], vm := .none },
  { cls := 10, slots := #[.int 52], vm := .none },
  { cls := 10, slots := #[.int 53], vm := .none },
  { cls := 10, slots := #[.int 54], vm := .none },
  { cls := 10, slots := #[.int 55], vm := .none },
  { cls := 10, slots := #[.int 56], vm := .none },
  { cls := 10, slots := #[.int 57], vm := .none },
  { cls := 10, slots := #[.int 58], vm := .none },
  { cls := 10, slots := #[.int 59], vm := .none },
  { cls := 10, slots := #[.int 60], vm := .none },
  { cls := 10, slots := #[.int 61], vm := .none },
  { cls := 10, slots := #[.int 62], vm := .none },
  { cls := 10, slots := #[.int 63], vm := .none },
  { cls := 10, slots := #[.int 64], vm := .none },
  { cls := 10, slots := #[.int 65], vm := .none },
  { cls := 10, slots := #[.int 66], vm := .none },
  { cls := 10, slots := #[.int 67], vm := .none },
  { cls := 10, slots := #[.int 68], vm := .none },
  { cls := 10, slots := #[.int 69], vm := .none },
  { cls := 10, slots := #[.int 70], vm := .none },
  { cls := 10, slots := #[.int 71], vm := .none },
  { cls := 10, slots := #[.int 72], vm := .none },
  { cls := 10, slots := #[.int 73], vm := .none },
  { cls := 10, slots := #[.int 74], vm := .none },
  { cls := 10, slots := #[.int 75], vm := .none },
  { cls := 10, slots := #[.int 76], vm := .none },
  { cls := 10, slots := #[.int 77], vm := .none },
  { cls := 10, slots := #[.int 78], vm := .none },
  { cls := 10, slots := #[.int 79], vm := .none },
  { cls := 10, slots := #[.int 80], vm := .none },
  { cls := 10, slots := #[.int 81], vm := .none },
  { cls := 10, slots := #[.int 82], vm := .none },
  { cls := 10, slots := #[.int 83], vm := .none },
  { cls := 10, slots := #[.int 84], vm := .none },
  { cls := 10, slots := #[.int 85], vm := .none },
  { cls := 10, slots := #[.int 86], vm := .none },
  { cls := 10, slots := #[.int 87], vm := .none },
  { cls := 10, slots := #[.int 88], vm := .none },
  { cls := 10, slots := #[.int 89], vm := .none },
  { cls := 10, slots := #[.int 90], vm := .none },
  { cls := 10, slots := #[.int 91], vm := .none },
  { cls := 10, slots := #[.int 92], vm := .none },
  { cls := 10, slots := #[.int 93], vm := .none },
  { cls := 10, slots := #[.int 94], vm := .none },
  { cls := 10, slots := #[.int 95], vm := .none },
  { cls := 10, slots := #[.int 96], vm := .none },
  { cls := 10, slots := #[.int 97], vm := .none },
  { cls := 10, slots := #[.int 98], vm := .none },
  { cls := 10, slots := #[.int 99], vm := .none },
  { cls := 10, slots := #[.int 100], vm := .none },
  { cls := 10, slots := #[.int 101], vm := .none },
  { cls := 10, slots := #[.int 102], vm := .none },
  { cls := 10, slots := #[.int 103], vm := .none },
  { cls := 10, slots := #[.int 104], vm := .none },
  { cls := 10, slots := #[.int 105], vm := .none },
  { cls := 10, slots := #[.int 106], vm := .none },
  { cls := 10, slots := #[.int 107], vm := .none },
  { cls := 10, slots := #[.int 108], vm := .none },
  { cls := 10, slots := #[.int 109], vm := .none },
  { cls := 10, slots := #[.int 110], vm := .none },
  { cls := 10, slots := #[.int 111], vm := .none },
  { cls := 10, slots := #[.int 112], vm := .none },
  { cls := 10, slots := #[.int 113], vm := .none },
  { cls := 10, slots := #[.int 114], vm := .none },
  { cls := 10, slots := #[.int 115], vm := .none },
  { cls := 10, slots := #[.int 116], vm := .none },
  { cls := 10, slots := #[.int 117], vm := .none },
  { cls := 10, slots := #[.int 118], vm := .none },
  { cls := 10, slots := #[.int 119], vm := .none },
  { cls := 10, slots := #[.int 120], vm := .none },
  { cls := 10, slots := #[.int 121], vm := .none },
  { cls := 10, slots := #[.int 122], vm := .none },
  { cls := 10, slots := #[.int 123], vm := .none },
  { cls := 10, slots := #[.int 124], vm := .none },
  { cls := 10, slots := #[.int 125], vm := .none },
  { cls := 10, slots := #[.int 126], vm := .none },
  { cls := 10, slots := #[.int 127], vm := .none }]
def classes : Array Class := #[k0, k1, k2, k3, k4, k5, k6, k7, k8, k9, k10, k11, k12, k13, k14, k15, k16, k17, k18, k19, k20, k21, k22]
def interned : List (Array UInt16 × Addr) := []
def slotsUsed : Nat := 517
def theMethod : MethodId := ⟨1, 2⟩
def args0 : Array Value := #[.int 9, .int 9, .int 9, .int 9, .int 9, .int 9]
def aboutOver (below : List Frame) : State where
  vm := { classes := classes, interned := interned.toArray }
  heap := heap
  slotsUsed := slotsUsed
  threads := #[{ frames := .invoking theMethod args0 :: below }]
def below0 : List Frame := [.native { method := ⟨0, 0⟩, args := #[] }]
def about1 : State := aboutOver below0
def p0 : Program := .bare "" "" ""
def e0 : Env := launch0.env 0 0 0
theorem w_frames : about1.frames = Frame.invoking theMethod args0 :: below0 := rfl
set_option maxRecDepth 65536 in
theorem w_args : argsFit about1.vm theMethod args0 = true := by decide +kernel
set_option maxRecDepth 65536 in
theorem w_heap : heapFits about1 = true := by decide +kernel
set_option maxRecDepth 65536 in
theorem w_runnable : about1.curStatus? = some .runnable := by decide +kernel
set_option maxRecDepth 65536 in
theorem w_alone : about1.alone = true := by decide +kernel
set_option maxRecDepth 65536 in
theorem w_named : about1.methodNamed? x = some theMethod := by decide +kernel
set_option maxRecDepth 65536 in
theorem w_hears : about1.hears theMethod below0 = true := by decide +kernel
set_option maxRecDepth 65536 in
theorem w_ripe : about1.ripe theMethod args0 below0 = true := by decide +kernel
theorem w_running : about1.status = .running := rfl
set_option maxRecDepth 65536 in
theorem w_room : about1.hasRoom e0.platform room_1 = true :=
  launch0.hasRoom_least _ room_1 (by decide +kernel) (by decide +kernel) (by decide +kernel) (by decide +kernel) (by decide +kernel) (by decide +kernel)
theorem allAtoms_all (ts : List Jvm.Cond) (a : Array Jvm.Value) (st : Jvm.State) : (allAtoms ts).before a st = ts.all (fun c => c.before a st) := by
  induction ts with
  | nil => rfl
  | cons c t ih =>
    show (Jvm.Cond.and c (allAtoms t)).before a st = _
    rw [Jvm.Cond.before_and, ih, List.all_cons]
def words1 : List Jvm.Cond := Jvm.Cond.code x code maxLocals ret :: tables_1
/-- a 'code' word, met by the world's own term for the bytes: nothing is compared byte by byte -/
theorem code_word {y : MethodName} {bytes : ByteArray} {mx : Nat} {rt : Option FieldType} {a : Array Value} {s : State} {m : MethodId} {meth : Method} {c : Code} (h1 : s.methodNamed? y = some m) (h2 : s.vm.method? m = some meth) (h3 : meth.code = some c) (h4 : c.code = bytes)
    (h5 : (c.maxLocals == mx && c.exceptionTable.isEmpty && decide (c.maxStack ≤ mostOperands) && decide (meth.sig.returnType = rt) && !meth.locks && decide (parseMethodDescriptor y.desc = some meth.sig)) = true) : (Jvm.Cond.code y bytes mx rt).before a s = true := by
  simp only [Bool.and_eq_true, beq_iff_eq, Bool.not_eq_true', decide_eq_true_eq] at h5
  obtain ⟨⟨⟨⟨⟨g1, g2⟩, g3⟩, g4⟩, g5⟩, g6⟩ := h5
  simp [Cond.before, Cond.holds, Cond.value, h1, h2, h3, h4, g1, g2, g3, g4, g5, g6]
def isCode : Jvm.Cond → Bool
  | .code _ _ _ _ => true
  | _ => false
theorem all_split {L : List Jvm.Cond} {P : Jvm.Cond → Bool} (h1 : L.all (fun c => isCode c || P c) = true) (h2 : ∀ c ∈ L.filter isCode, P c = true) : L.all P = true := by
  refine List.all_eq_true.mpr fun c hc => ?_
  have h := List.all_eq_true.mp h1 c hc
  rcases Bool.eq_false_or_eq_true (isCode c) with hi | hi
  · exact h2 c (List.mem_filter.mpr ⟨hc, hi⟩)
  · simpa [hi] using h
set_option maxRecDepth 65536 in
theorem w_c0 : (Jvm.Cond.code x code maxLocals ret).before args0 about1 = true := code_word (m := ⟨1, 2⟩) (meth := k1m2) (c := k1c2) (by decide +kernel) rfl rfl rfl (by decide +kernel)
set_option maxRecDepth 65536 in
theorem w_c1 : (Jvm.Cond.code ({ cls := "com/example/theuth/theuth/io/Followed", name := "<init>", desc := "()V" } : Jvm.MethodName) prog_116_method_1_code (1 : Nat) (Option.none : Option Jvm.ClassFile.FieldType)).before args0 about1 = true := code_word (m := ⟨2, 0⟩) (meth := k2m0) (c := k2c0) (by decide +kernel) rfl rfl rfl (by decide +kernel)
set_option maxRecDepth 65536 in
theorem w_c2 : (Jvm.Cond.code ({ cls := "java/lang/Object", name := "<init>", desc := "()V" } : Jvm.MethodName) object_method_1_code (1 : Nat) (Option.none : Option Jvm.ClassFile.FieldType)).before args0 about1 = true := code_word (m := ⟨0, 0⟩) (meth := k0m0) (c := k0c0) (by decide +kernel) rfl rfl rfl (by decide +kernel)
set_option maxRecDepth 65536 in
theorem w_c3 : (Jvm.Cond.code ({ cls := "com/example/theuth/theuth/io/Followed$Offsets", name := "<init>", desc := "(Z)V" } : Jvm.MethodName) prog_118_method_1_code (2 : Nat) (Option.none : Option Jvm.ClassFile.FieldType)).before args0 about1 = true := code_word (m := ⟨3, 0⟩) (meth := k3m0) (c := k3c0) (by decide +kernel) rfl rfl rfl (by decide +kernel)
set_option maxRecDepth 65536 in
theorem w_c4 : (Jvm.Cond.code ({ cls := "com/example/theuth/theuth/io/Followed$Chunk", name := "<init>", desc := "(Z)V" } : Jvm.MethodName) prog_117_method_1_code (2 : Nat) (Option.none : Option Jvm.ClassFile.FieldType)).before args0 about1 = true := code_word (m := ⟨4, 0⟩) (meth := k4m0) (c := k4c0) (by decide +kernel) rfl rfl rfl (by decide +kernel)
set_option maxRecDepth 65536 in
theorem w_c5 : (Jvm.Cond.code ({ cls := "java/lang/Integer", name := "valueOf", desc := "(I)Ljava/lang/Integer;" } : Jvm.MethodName) jdk_33_method_22_code (1 : Nat) (Option.some (Jvm.ClassFile.FieldType.object "java/lang/Integer"))).before args0 about1 = true := code_word (m := ⟨10, 0⟩) (meth := k10m0) (c := k10c0) (by decide +kernel) rfl rfl rfl (by decide +kernel)
set_option maxRecDepth 65536 in
theorem w_c6 : (Jvm.Cond.code ({ cls := "com/example/theuth/theuth/io/Followed", name := "find", desc := "(I)J" } : Jvm.MethodName) prog_116_method_2_code (4 : Nat) (Option.some Jvm.ClassFile.FieldType.long)).before args0 about1 = true := code_word (m := ⟨2, 1⟩) (meth := k2m1) (c := k2c1) (by decide +kernel) rfl rfl rfl (by decide +kernel)
set_option maxRecDepth 65536 in
theorem w_c7 : (Jvm.Cond.code ({ cls := "com/example/theuth/theuth/io/Followed$Offsets", name := "find", desc := "(I)J" } : Jvm.MethodName) prog_118_method_2_code (6 : Nat) (Option.some Jvm.ClassFile.FieldType.long)).before args0 about1 = true := code_word (m := ⟨3, 1⟩) (meth := k3m1) (c := k3c1) (by decide +kernel) rfl rfl rfl (by decide +kernel)
set_option maxRecDepth 65536 in
theorem w_c8 : (Jvm.Cond.code ({ cls := "com/example/theuth/theuth/io/Followed$Offsets", name := "isEmpty", desc := "()Z" } : Jvm.MethodName) prog_118_method_9_code (1 : Nat) (Option.some Jvm.ClassFile.FieldType.boolean)).before args0 about1 = true := code_word (m := ⟨3, 5⟩) (meth := k3m5) (c := k3c5) (by decide +kernel) rfl rfl rfl (by decide +kernel)
set_option maxRecDepth 65536 in
theorem w_c9 : (Jvm.Cond.code ({ cls := "com/example/theuth/theuth/io/Followed", name := "isFollowed", desc := "(J)Z" } : Jvm.MethodName) prog_116_method_3_code (3 : Nat) (Option.some Jvm.ClassFile.FieldType.boolean)).before args0 about1 = true := code_word (m := ⟨2, 2⟩) (meth := k2m2) (c := k2c2) (by decide +kernel) rfl rfl rfl (by decide +kernel)
set_option maxRecDepth 65536 in
theorem w_c10 : (Jvm.Cond.code ({ cls := "com/example/theuth/theuth/io/FollowedFirstReadWithinPinLaw", name := "after", desc := "(ZIIJ)J" } : Jvm.MethodName) method_2_code (5 : Nat) (Option.some Jvm.ClassFile.FieldType.long)).before args0 about1 = true := code_word (m := ⟨1, 1⟩) (meth := k1m1) (c := k1c1) (by decide +kernel) rfl rfl rfl (by decide +kernel)
set_option maxRecDepth 65536 in
theorem w_c11 : (Jvm.Cond.code ({ cls := "com/example/theuth/theuth/io/Followed", name := "firstReadWithin", desc := "(JI)I" } : Jvm.MethodName) prog_116_method_8_code (7 : Nat) (Option.some Jvm.ClassFile.FieldType.int)).before args0 about1 = true := code_word (m := ⟨2, 3⟩) (meth := k2m3) (c := k2c3) (by decide +kernel) rfl rfl rfl (by decide +kernel)
set_option maxRecDepth 65536 in
theorem w_c12 : (Jvm.Cond.code ({ cls := "com/example/theuth/theuth/io/Followed", name := "add", desc := "(JIILjava/lang/Object;)V" } : Jvm.MethodName) prog_116_method_9_code (6 : Nat) (Option.none : Option Jvm.ClassFile.FieldType)).before args0 about1 = true := code_word (m := ⟨2, 4⟩) (meth := k2m4) (c := k2c4) (by decide +kernel) rfl rfl rfl (by decide +kernel)
set_option maxRecDepth 65536 in
theorem w_c13 : (Jvm.Cond.code ({ cls := "com/example/theuth/theuth/io/Followed", name := "insert", desc := "(JIILjava/lang/Object;)V" } : Jvm.MethodName) prog_116_method_10_code (6 : Nat) (Option.none : Option Jvm.ClassFile.FieldType)).before args0 about1 = true := code_word (m := ⟨2, 5⟩) (meth := k2m5) (c := k2c5) (by decide +kernel) rfl rfl rfl (by decide +kernel)
set_option maxRecDepth 65536 in
theorem w_c14 : (Jvm.Cond.code ({ cls := "com/example/theuth/theuth/io/Followed$Offsets", name := "holds", desc := "(JI)Z" } : Jvm.MethodName) prog_118_method_4_code (9 : Nat) (Option.some Jvm.ClassFile.FieldType.boolean)).before args0 about1 = true := code_word (m := ⟨3, 2⟩) (meth := k3m2) (c := k3c2) (by decide +kernel) rfl rfl rfl (by decide +kernel)
set_option maxRecDepth 65536 in
theorem w_c15 : (Jvm.Cond.code ({ cls := "com/example/theuth/theuth/io/Followed$Offsets", name := "insert", desc := "(JIILjava/lang/Object;)V" } : Jvm.MethodName) prog_118_method_6_code (10 : Nat) (Option.none : Option Jvm.ClassFile.FieldType)).before args0 about1 = true := code_word (m := ⟨3, 4⟩) (meth := k3m4) (c := k3c4) (by decide +kernel) rfl rfl rfl (by decide +kernel)
set_option maxRecDepth 65536 in
theorem w_c16 : (Jvm.Cond.code ({ cls := "java/util/Arrays", name := "binarySearch", desc := "([IIII)I" } : Jvm.MethodName) jdk_65_method_58_code (4 : Nat) (Option.some Jvm.ClassFile.FieldType.int)).before args0 about1 = true := code_word (m := ⟨13, 2⟩) (meth := k13m2) (c := k13c2) (by decide +kernel) rfl rfl rfl (by decide +kernel)
set_option maxRecDepth 65536 in
theorem w_c17 : (Jvm.Cond.code ({ cls := "java/util/Arrays", name := "rangeCheck", desc := "(III)V" } : Jvm.MethodName) jdk_65_method_30_code (3 : Nat) (Option.none : Option Jvm.ClassFile.FieldType)).before args0 about1 = true := code_word (m := ⟨13, 1⟩) (meth := k13m1) (c := k13c1) (by decide +kernel) rfl rfl rfl (by decide +kernel)
set_option maxRecDepth 65536 in
theorem w_c18 : (Jvm.Cond.code ({ cls := "java/util/Arrays", name := "binarySearch0", desc := "([IIII)I" } : Jvm.MethodName) jdk_65_method_59_code (8 : Nat) (Option.some Jvm.ClassFile.FieldType.int)).before args0 about1 = true := code_word (m := ⟨13, 3⟩) (meth := k13m3) (c := k13c3) (by decide +kernel) rfl rfl rfl (by decide +kernel)
set_option maxRecDepth 65536 in
theorem w_c19 : (Jvm.Cond.code ({ cls := "java/lang/Math", name := "max", desc := "(II)I" } : Jvm.MethodName) jdk_29_method_65_code (2 : Nat) (Option.some Jvm.ClassFile.FieldType.int)).before args0 about1 = true := code_word (m := ⟨14, 1⟩) (meth := k14m1) (c := k14c1) (by decide +kernel) rfl rfl rfl (by decide +kernel)
set_option maxRecDepth 65536 in
theorem w_c20 : (Jvm.Cond.code ({ cls := "com/example/theuth/theuth/io/Followed$Offsets", name := "append", desc := "(IILjava/lang/Object;)Z" } : Jvm.MethodName) prog_118_method_5_code (6 : Nat) (Option.some Jvm.ClassFile.FieldType.boolean)).before args0 about1 = true := code_word (m := ⟨3, 3⟩) (meth := k3m3) (c := k3c3) (by decide +kernel) rfl rfl rfl (by decide +kernel)
set_option maxRecDepth 65536 in
theorem w_c21 : (Jvm.Cond.code ({ cls := "java/lang/Math", name := "min", desc := "(JJ)J" } : Jvm.MethodName) jdk_29_method_70_code (4 : Nat) (Option.some Jvm.ClassFile.FieldType.long)).before args0 about1 = true := code_word (m := ⟨14, 2⟩) (meth := k14m2) (c := k14c2) (by decide +kernel) rfl rfl rfl (by decide +kernel)
def codes1 : List Jvm.Cond := [Jvm.Cond.code x code maxLocals ret, Jvm.Cond.code ({ cls := "com/example/theuth/theuth/io/Followed", name := "<init>", desc := "()V" } : Jvm.MethodName) prog_116_method_1_code (1 : Nat) (Option.none : Option Jvm.ClassFile.FieldType), Jvm.Cond.code ({ cls := "java/lang/Object", name := "<init>", desc := "()V" } : Jvm.MethodName) object_method_1_code (1 : Nat) (Option.none : Option Jvm.ClassFile.FieldType), Jvm.Cond.code ({ cls := "com/example/theuth/theuth/io/Followed$Offsets", name := "<init>", desc := "(Z)V" } : Jvm.MethodName) prog_118_method_1_code (2 : Nat) (Option.none : Option Jvm.ClassFile.FieldType), Jvm.Cond.code ({ cls := "com/example/theuth/theuth/io/Followed$Chunk", name := "<init>", desc := "(Z)V" } : Jvm.MethodName) prog_117_method_1_code (2 : Nat) (Option.none : Option Jvm.ClassFile.FieldType), Jvm.Cond.code ({ cls := "java/lang/Integer", name := "valueOf", desc := "(I)Ljava/lang/Integer;" } : Jvm.MethodName) jdk_33_method_22_code (1 : Nat) (Option.some (Jvm.ClassFile.FieldType.object "java/lang/Integer")), Jvm.Cond.code ({ cls := "com/example/theuth/theuth/io/Followed", name := "find", desc := "(I)J" } : Jvm.MethodName) prog_116_method_2_code (4 : Nat) (Option.some Jvm.ClassFile.FieldType.long), Jvm.Cond.code ({ cls := "com/example/theuth/theuth/io/Followed$Offsets", name := "find", desc := "(I)J" } : Jvm.MethodName) prog_118_method_2_code (6 : Nat) (Option.some Jvm.ClassFile.FieldType.long), Jvm.Cond.code ({ cls := "com/example/theuth/theuth/io/Followed$Offsets", name := "isEmpty", desc := "()Z" } : Jvm.MethodName) prog_118_method_9_code (1 : Nat) (Option.some Jvm.ClassFile.FieldType.boolean), Jvm.Cond.code ({ cls := "com/example/theuth/theuth/io/Followed", name := "isFollowed", desc := "(J)Z" } : Jvm.MethodName) prog_116_method_3_code (3 : Nat) (Option.some Jvm.ClassFile.FieldType.boolean), Jvm.Cond.code ({ cls := "com/example/theuth/theuth/io/FollowedFirstReadWithinPinLaw", name := "after", desc := "(ZIIJ)J" } : Jvm.MethodName) method_2_code (5 : Nat) (Option.some Jvm.ClassFile.FieldType.long), Jvm.Cond.code ({ cls := "com/example/theuth/theuth/io/Followed", name := "firstReadWithin", desc := "(JI)I" } : Jvm.MethodName) prog_116_method_8_code (7 : Nat) (Option.some Jvm.ClassFile.FieldType.int), Jvm.Cond.code ({ cls := "com/example/theuth/theuth/io/Followed", name := "add", desc := "(JIILjava/lang/Object;)V" } : Jvm.MethodName) prog_116_method_9_code (6 : Nat) (Option.none : Option Jvm.ClassFile.FieldType), Jvm.Cond.code ({ cls := "com/example/theuth/theuth/io/Followed", name := "insert", desc := "(JIILjava/lang/Object;)V" } : Jvm.MethodName) prog_116_method_10_code (6 : Nat) (Option.none : Option Jvm.ClassFile.FieldType), Jvm.Cond.code ({ cls := "com/example/theuth/theuth/io/Followed$Offsets", name := "holds", desc := "(JI)Z" } : Jvm.MethodName) prog_118_method_4_code (9 : Nat) (Option.some Jvm.ClassFile.FieldType.boolean), Jvm.Cond.code ({ cls := "com/example/theuth/theuth/io/Followed$Offsets", name := "insert", desc := "(JIILjava/lang/Object;)V" } : Jvm.MethodName) prog_118_method_6_code (10 : Nat) (Option.none : Option Jvm.ClassFile.FieldType), Jvm.Cond.code ({ cls := "java/util/Arrays", name := "binarySearch", desc := "([IIII)I" } : Jvm.MethodName) jdk_65_method_58_code (4 : Nat) (Option.some Jvm.ClassFile.FieldType.int), Jvm.Cond.code ({ cls := "java/util/Arrays", name := "rangeCheck", desc := "(III)V" } : Jvm.MethodName) jdk_65_method_30_code (3 : Nat) (Option.none : Option Jvm.ClassFile.FieldType), Jvm.Cond.code ({ cls := "java/util/Arrays", name := "binarySearch0", desc := "([IIII)I" } : Jvm.MethodName) jdk_65_method_59_code (8 : Nat) (Option.some Jvm.ClassFile.FieldType.int), Jvm.Cond.code ({ cls := "java/lang/Math", name := "max", desc := "(II)I" } : Jvm.MethodName) jdk_29_method_65_code (2 : Nat) (Option.some Jvm.ClassFile.FieldType.int), Jvm.Cond.code ({ cls := "com/example/theuth/theuth/io/Followed$Offsets", name := "append", desc := "(IILjava/lang/Object;)Z" } : Jvm.MethodName) prog_118_method_5_code (6 : Nat) (Option.some Jvm.ClassFile.FieldType.boolean), Jvm.Cond.code ({ cls := "java/lang/Math", name := "min", desc := "(JJ)J" } : Jvm.MethodName) jdk_29_method_70_code (4 : Nat) (Option.some Jvm.ClassFile.FieldType.long)]
set_option maxRecDepth 65536 in
theorem codes_eq : words1.filter isCode = codes1 := rfl
theorem w_codes : ∀ c ∈ words1.filter isCode, c.before args0 about1 = true := by
  rw [codes_eq]
  intro c hc
  simp only [codes1, List.mem_cons, List.not_mem_nil, or_false] at hc
  rcases hc with rfl | rfl | rfl | rfl | rfl | rfl | rfl | rfl | rfl | rfl | rfl | rfl | rfl | rfl | rfl | rfl | rfl | rfl | rfl | rfl | rfl | rfl
  · exact w_c0
  · exact w_c1
  · exact w_c2
  · exact w_c3
  · exact w_c4
  · exact w_c5
  · exact w_c6
  · exact w_c7
  · exact w_c8
  · exact w_c9
  · exact w_c10
  · exact w_c11
  · exact w_c12
  · exact w_c13
  · exact w_c14
  · exact w_c15
  · exact w_c16
  · exact w_c17
  · exact w_c18
  · exact w_c19
  · exact w_c20
  · exact w_c21
set_option maxRecDepth 65536 in
theorem w_t1 : (words1.take 24).all (fun c => isCode c || c.before args0 about1) = true := by decide +kernel
set_option maxRecDepth 65536 in
theorem w_t2 : ((words1.drop 24).take 24).all (fun c => isCode c || c.before args0 about1) = true := by decide +kernel
set_option maxRecDepth 65536 in
theorem w_t3 : (((words1.drop 24).drop 24).take 24).all (fun c => isCode c || c.before args0 about1) = true := by decide +kernel
set_option maxRecDepth 65536 in
theorem w_t4 : ((((words1.drop 24).drop 24).drop 24).take 24).all (fun c => isCode c || c.before args0 about1) = true := by decide +kernel
set_option maxRecDepth 65536 in
theorem w_t5 : (((((words1.drop 24).drop 24).drop 24).drop 24).take 24).all (fun c => isCode c || c.before args0 about1) = true := by decide +kernel
set_option maxRecDepth 65536 in
theorem w_t6 : (((((words1.drop 24).drop 24).drop 24).drop 24).drop 24).all (fun c => isCode c || c.before args0 about1) = true := by decide +kernel
theorem w_tables : (allAtoms (Jvm.Cond.code x code maxLocals ret :: tables_1)).before args0 about1 = true := by
  rw [allAtoms_all]
  show words1.all (fun c => c.before args0 about1) = true
  refine all_split ?_ w_codes
  rw [← List.take_append_drop 24 words1, List.all_append, w_t1, ← List.take_append_drop 24 (words1.drop 24), List.all_append, w_t2, ← List.take_append_drop 24 ((words1.drop 24).drop 24), List.all_append, w_t3, ← List.take_append_drop 24 (((words1.drop 24).drop 24).drop 24), List.all_append, w_t4, ← List.take_append_drop 24 ((((words1.drop 24).drop 24).drop 24).drop 24), List.all_append, w_t5, w_t6]
  rfl
set_option maxRecDepth 65536 in
theorem w_rest : rest_1_c.before args0 about1 = true := by decide +kernel
set_option maxRecDepth 65536 in
theorem w_case : (Jvm.Cond.and given_1 narrow_1).before args0 about1 = true := by decide +kernel
theorem w_applies : (headSpec (Jvm.Cond.code x code maxLocals ret :: tables_1) room_1).applies x e0.platform about1 = true :=
  (Spec.applies_iff w_frames).mpr ⟨w_running, w_runnable, w_alone, w_named, w_hears, w_ripe, w_room, w_tables⟩
theorem atStart : AtStart classFile x code maxLocals ret World_1 tables_1 room_1 Calls_1 rest_1 Pre_1 launch0 p0 e0 about1 theMethod args0 below0 :=
  ⟨lists_1, trivial, launch0.admits_env _ _ _, launch0.least_env, fairChoices_fair.cas, fairChoices_fair.clock, w_frames, w_args, w_heap, w_applies, trivial, w_rest, w_case⟩
end start1
theorem witness_1 : WitnessClaimed_1 := ⟨start1.p0, start1.e0, start1.about1, start1.theMethod, start1.args0, start1.below0, start1.atStart⟩
end Jvm.Pilot.@@N@@
