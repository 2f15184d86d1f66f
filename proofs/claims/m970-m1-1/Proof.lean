import JvmDerived
import JvmDerived.Pilot.@@N@@Statement
import JvmDerived.Pilot.@@N@@Code
set_option linter.unusedVariables false
set_option linter.unusedSimpArgs false
namespace Jvm.RoadKit
open Sem ClassFile Op Lib Jvm.Stand Jvm.Free Jvm.LawKit
section New
variable {p : Program} {l : Launch} {e : Env} {R : Room} {s : State} {m : MethodId} {args : Array Value} {below : List Frame} {meth : Method} {c : Code} {T : State} {locs : List Loc} {cells slots : Nat}
theorem retI (X : Stand p l e R s m args below meth c T locs cells slots) (hx : p.tables.exec = Jvm.exec) {pc : Nat} {Ls : Array Slot} {z : Int32} {rest : List Value} (hret : meth.sig.returnType = some .int) (hd : decode c.code pc = .ok (.ireturn, 1)) {fs : List Frame}
    (hl : ∀ (f : JFrame) (acts : List Action), f.method = m → f.locked = none → f.entered = [] → (doReturn e (T.setTop f) acts (some (.int z))).1 = T.setFrames fs) : Steps p.tables e below (T.setTop (mkF m pc Ls (.int z :: rest))) (T.setFrames fs) :=
  retOut X hx hret rfl (Or.inl ⟨rfl, Or.inl rfl, _, rfl⟩) hd hl
theorem own_sta_keep {Z : State} {h h' : Heap} {C n d : String} {w : Value} {ws : List Addr} (F : Sta Z h C n d w) (K : Keep h h' ws) (ns : ∀ x ∈ ws, ∀ cell : Cell, h[x]? = some cell → cell.vm.isStatics = false) : Sta Z h' C n d w := by
  obtain ⟨cf, i, k, f, st, cell, h1, h2, h3, h4, h5, h6, h7⟩ := F
  refine ⟨cf, i, k, f, st, cell, h1, h2, h3, h4, K.2.1 st cell h5 (fun hm => ?_), h6, h7⟩
  rw [ns st hm cell h5] at h6
  cases h6
theorem own_selp {s : State} {args : Array Value} {w y : MethodName} (hs : (Cond.selects w.cls w w).before args s = true) (e : w.cls = y.cls) (hp : s.PrivateAt y) (hi : (Cond.instanceMethod y).before args s = true) (hy : y.cls ≠ "java/lang/invoke/MethodHandle" ∧ y.cls ≠ "java/lang/invoke/VarHandle") : (Cond.selects y.cls y y).before args s = true := by
  obtain ⟨c2, r2, m2, q1, q2, q3, q4, kP, hkP, hkPi⟩ := Cond.selects_spec hs
  exact selects_self_of_private (c := m2.cls) (by rw [← e]; exact findClass_of_methodNamed q3) hkP hkPi hp hi hy
end New
end Jvm.RoadKit
namespace Jvm.Pilot.@@N@@
open Jvm Jvm.ClassFile Sem Op Lib Jvm.Free Jvm.Stand Jvm.LawKit Jvm.RoadKit Bundle Jvm.Pilot.@@N@@.Jvm.D
theorem d1_0 : decode prog_4_method_4_code 0 = .ok (.aload_n 0, 1) := by decide +kernel
theorem d1_1 : decode prog_4_method_4_code 1 = .ok (.getfield 32, 3) := by decide +kernel
theorem d1_4 : decode prog_4_method_4_code 4 = .ok (.areturn, 1) := by decide +kernel
theorem d2_0 : decode jdk_42_method_54_code 0 = .ok (.aload_n 0, 1) := by decide +kernel
theorem d2_1 : decode jdk_42_method_54_code 1 = .ok (.getfield 9, 3) := by decide +kernel
theorem d2_4 : decode jdk_42_method_54_code 4 = .ok (.arraylength, 1) := by decide +kernel
theorem d2_5 : decode jdk_42_method_54_code 5 = .ok (.aload_n 0, 1) := by decide +kernel
theorem d2_6 : decode jdk_42_method_54_code 6 = .ok (.invokevirtual 335, 3) := by decide +kernel
theorem d2_9 : decode jdk_42_method_54_code 9 = .ok (.ishr, 1) := by decide +kernel
theorem d2_10 : decode jdk_42_method_54_code 10 = .ok (.ireturn, 1) := by decide +kernel
theorem d3_0 : decode jdk_42_method_152_code 0 = .ok (.getstatic 38, 3) := by decide +kernel
theorem d3_3 : decode jdk_42_method_152_code 3 = .ok (.ifCond .eq 10, 3) := by decide +kernel
theorem d3_6 : decode jdk_42_method_152_code 6 = .ok (.aload_n 0, 1) := by decide +kernel
theorem d3_7 : decode jdk_42_method_152_code 7 = .ok (.getfield 15, 3) := by decide +kernel
theorem d3_10 : decode jdk_42_method_152_code 10 = .ok (.goto 4, 3) := by decide +kernel
theorem d3_14 : decode jdk_42_method_152_code 14 = .ok (.ireturn, 1) := by decide +kernel
theorem d4_0 : decode jdk_42_method_56_code 0 = .ok (.aload_n 0, 1) := by decide +kernel
theorem d4_1 : decode jdk_42_method_56_code 1 = .ok (.invokevirtual 492, 3) := by decide +kernel
theorem d4_4 : decode jdk_42_method_56_code 4 = .ok (.ifCond .eq 12, 3) := by decide +kernel
theorem d4_7 : decode jdk_42_method_56_code 7 = .ok (.aload_n 0, 1) := by decide +kernel
theorem d4_8 : decode jdk_42_method_56_code 8 = .ok (.getfield 9, 3) := by decide +kernel
theorem d4_11 : decode jdk_42_method_56_code 11 = .ok (.iload_n 1, 1) := by decide +kernel
theorem d4_12 : decode jdk_42_method_56_code 12 = .ok (.invokestatic 495, 3) := by decide +kernel
theorem d4_15 : decode jdk_42_method_56_code 15 = .ok (.ireturn, 1) := by decide +kernel
theorem d5_0 : decode jdk_42_method_154_code 0 = .ok (.getstatic 38, 3) := by decide +kernel
theorem d5_3 : decode jdk_42_method_154_code 3 = .ok (.ifCond .eq 14, 3) := by decide +kernel
theorem d5_6 : decode jdk_42_method_154_code 6 = .ok (.aload_n 0, 1) := by decide +kernel
theorem d5_7 : decode jdk_42_method_154_code 7 = .ok (.getfield 15, 3) := by decide +kernel
theorem d5_10 : decode jdk_42_method_154_code 10 = .ok (.ifCond .ne 7, 3) := by decide +kernel
theorem d5_13 : decode jdk_42_method_154_code 13 = .ok (.iconst 1, 1) := by decide +kernel
theorem d5_14 : decode jdk_42_method_154_code 14 = .ok (.goto 4, 3) := by decide +kernel
theorem d5_18 : decode jdk_42_method_154_code 18 = .ok (.ireturn, 1) := by decide +kernel
theorem d6_0 : decode jdk_43_method_2_code 0 = .ok (.iload_n 1, 1) := by decide +kernel
theorem d6_1 : decode jdk_43_method_2_code 1 = .ok (.aload_n 0, 1) := by decide +kernel
theorem d6_2 : decode jdk_43_method_2_code 2 = .ok (.arraylength, 1) := by decide +kernel
theorem d6_3 : decode jdk_43_method_2_code 3 = .ok (.invokestatic 9, 3) := by decide +kernel
theorem d6_6 : decode jdk_43_method_2_code 6 = .ok (.aload_n 0, 1) := by decide +kernel
theorem d6_7 : decode jdk_43_method_2_code 7 = .ok (.iload_n 1, 1) := by decide +kernel
theorem d6_8 : decode jdk_43_method_2_code 8 = .ok (.baload, 1) := by decide +kernel
theorem d6_9 : decode jdk_43_method_2_code 9 = .ok (.sipush 255, 3) := by decide +kernel
theorem d6_12 : decode jdk_43_method_2_code 12 = .ok (.iand, 1) := by decide +kernel
theorem d6_13 : decode jdk_43_method_2_code 13 = .ok (.i2c, 1) := by decide +kernel
theorem d6_14 : decode jdk_43_method_2_code 14 = .ok (.ireturn, 1) := by decide +kernel
theorem d7_0 : decode jdk_42_method_155_code 0 = .ok (.iload_n 0, 1) := by decide +kernel
theorem d7_1 : decode jdk_42_method_155_code 1 = .ok (.iload_n 1, 1) := by decide +kernel
theorem d7_2 : decode jdk_42_method_155_code 2 = .ok (.getstatic 1053, 3) := by decide +kernel
theorem d7_5 : decode jdk_42_method_155_code 5 = .ok (.invokestatic 1059, 3) := by decide +kernel
theorem d7_8 : decode jdk_42_method_155_code 8 = .ok (.pop, 1) := by decide +kernel
theorem d7_9 : decode jdk_42_method_155_code 9 = .ok (.return_, 1) := by decide +kernel
theorem d8_0 : decode jdk_41_method_11_code 0 = .ok (.iload_n 0, 1) := by decide +kernel
theorem d8_1 : decode jdk_41_method_11_code 1 = .ok (.ifCond .lt 8, 3) := by decide +kernel
theorem d8_4 : decode jdk_41_method_11_code 4 = .ok (.iload_n 0, 1) := by decide +kernel
theorem d8_5 : decode jdk_41_method_11_code 5 = .ok (.iload_n 1, 1) := by decide +kernel
theorem d8_6 : decode jdk_41_method_11_code 6 = .ok (.if_icmp .lt 10, 3) := by decide +kernel
theorem d8_16 : decode jdk_41_method_11_code 16 = .ok (.iload_n 0, 1) := by decide +kernel
theorem d8_17 : decode jdk_41_method_11_code 17 = .ok (.ireturn, 1) := by decide +kernel
theorem d9_0 : decode prog_4_method_7_code 0 = .ok (.aload_n 0, 1) := by decide +kernel
theorem d9_1 : decode prog_4_method_7_code 1 = .ok (.getstatic 3, 3) := by decide +kernel
theorem d9_4 : decode prog_4_method_7_code 4 = .ok (.if_acmp .eq 7, 3) := by decide +kernel
theorem d9_7 : decode prog_4_method_7_code 7 = .ok (.iconst 1, 1) := by decide +kernel
theorem d9_8 : decode prog_4_method_7_code 8 = .ok (.goto 4, 3) := by decide +kernel
theorem d9_11 : decode prog_4_method_7_code 11 = .ok (.iconst 0, 1) := by decide +kernel
theorem d9_12 : decode prog_4_method_7_code 12 = .ok (.ireturn, 1) := by decide +kernel
theorem pn_0 : plainName "java/lang/String" = true := by first | (simp [plainName, overriddenIn]; done) | decide +kernel
theorem pd_1 : parseMethodDescriptor "()B" = some ⟨[], some .byte⟩ := by decide +kernel
theorem pn_2 : plainName "jdk/internal/util/Preconditions" = true := by first | (simp [plainName, overriddenIn]; done) | decide +kernel
theorem pd_3 : parseMethodDescriptor "(IILjava/util/function/BiFunction;)I" = some ⟨[.int, .int, (.object "java/util/function/BiFunction")], some .int⟩ := by decide +kernel
theorem pn_4 : plainName "java/lang/StringLatin1" = true := by first | (simp [plainName, overriddenIn]; done) | decide +kernel
theorem pd_5 : parseMethodDescriptor "(II)V" = some ⟨[.int, .int], none⟩ := by decide +kernel
theorem pd_6 : parseMethodDescriptor "()Z" = some ⟨[], some .boolean⟩ := by decide +kernel
theorem pd_7 : parseMethodDescriptor "([BI)C" = some ⟨[(.array .byte), .int], some .char⟩ := by decide +kernel
theorem pn_8 : plainName "com/example/cartwright/cartwright/core/AddressType" = true := by first | (simp [plainName, overriddenIn]; done) | decide +kernel
theorem pn_9 : plainName "com/example/cartwright/cartwright/core/AddressTypeBillsPinLaw" = true := by first | (simp [plainName, overriddenIn]; done) | decide +kernel
theorem pd_10 : parseMethodDescriptor "()Ljava/lang/String;" = some ⟨[], some (.object "java/lang/String")⟩ := by decide +kernel
theorem pd_11 : parseMethodDescriptor "()I" = some ⟨[], some .int⟩ := by decide +kernel
theorem pd_12 : parseMethodDescriptor "(I)C" = some ⟨[.int], some .char⟩ := by decide +kernel
def own_b (P : Prop) [Decidable P] : Int32 := if P then 1 else 0
theorem own_ncs {args : Array Value} {s : State} {t : Term} {x : Int32} (h : t.eval args s none [] s = some (.int x)) (n : (Cond.eq t (.int 0)).value args s none s [] = some (!true)) : ¬ x = (0 : Int32) := by
  rintro rfl
  rw [eq_i h (Term.int_eval 0) rfl] at n
  cases n
def own_ch (x : Int32) : Int32 := nar .char ((x &&& (255 : Int32)).toUInt32.toUInt16.toUInt32.toInt32)
theorem own_chn (x : Int32) : nar .char (own_ch x) = own_ch x := by
  have h : ∀ y : Int32, nar .char (nar .char y) = nar .char y := fun y => by
    have a := c_i2c y
    have b := c_i2c (y.toUInt32.toUInt16.toUInt32.toInt32)
    rw [← Int32.toInt_inj]
    show (y.toUInt32.toUInt16.toUInt32.toInt32.toUInt32.toUInt16.toUInt32.toInt32).toInt = (y.toUInt32.toUInt16.toUInt32.toInt32).toInt
    omega
  exact h _
theorem own_len {args : Array Value} {Z : State} {t : Term} {x : Addr} {cl : Cell} {ty : FieldType} {v : Int32} (ht : t.eval args Z none [] Z = some (.ref x)) (ha : Arr Z Z.heap x cl ty) (h : (Term.length t).eval args Z none [] Z = some (.int v)) : cl.slots.size < 2 ^ 31 ∧ cl.slots.size.toInt32 = v := by
  have q := ha.fin (Vm.Alike.refl _)
  simpa [Term.eval, ht, q] using h
abbrev sN0 : String := "com/example/cartwright/cartwright/core/AddressType"
abbrev sN1 : String := "jdk/internal/util/Preconditions"
theorem ef_rmCoder (m : MethodId) (x0 : Addr) : entryFrame m #[(.ref x0)] 1 = mkF m 0 #[rv x0] [] := by first | (simp [entryFrame, mkF, argsToLocals, Value.category]; done) | rfl
def Q_rmCoder (Z : State) (a1 : Addr) (cs : Int32) (h0 : Heap) (n0 : Nat) (v : Option Value) (h : Heap) (L : List Loc) : Prop := v = some (.int (0 : Int32)) ∧ Fr n0 L ∧ h = h0
set_option maxRecDepth 65536 in
set_option maxHeartbeats 40000000 in
theorem rmCoder (l : Launch) (Z : State) (a0 : Array Value) (hw : ∀ d ∈ tables_1, d.before a0 Z = true) (ws : List Jvm.Cond) (a1 : Addr) (cs : Int32) (h0 : Heap) (n0 : Nat) (Z0 : n0 ≤ h0.size) (S_String_COMPACT_STRINGS : Sta Z h0 "java/lang/String" "COMPACT_STRINGS" "Z" (.int cs)) (hcs : ¬ cs = (0 : Int32)) (F_coder_a1 : Fld Z h0 a1 "java/lang/String" "coder" "B" (.int (0 : Int32))) :
    MetFree l (⟨"java/lang/String", "coder", "()B"⟩ : MethodName) (head1 (Jvm.Cond.code (⟨"java/lang/String", "coder", "()B"⟩ : MethodName) jdk_42_method_152_code 1 (some .byte) :: ws) ({ frames := 0, cells := 0, slots := 0, locals := 0 } : Room)) (fun a U => a = #[(.ref a1)] ∧ Z.Warmed39 U.vm ∧ U.heap = h0) (fun _ _ _ _ _ => True) (fun _ U o U' => ∃ v L, o = .returned v ∧ Q_rmCoder Z a1 cs h0 n0 v U'.heap L ∧ FrameEnd U o U' L ({ frames := 0, cells := 0, slots := 0, locals := 0 } : Room).cells ({ frames := 0, cells := 0, slots := 0, locals := 0 } : Room).slots) := by
  refine MetFree.of_bodySF (plainFor_of_name pn_0) hisR ?_
  intro p e s m args below meth c s₁ Bd hml0 hP hK
  obtain ⟨rfl, hZ, hh⟩ := hP
  have hx := Bd.exec
  have hby := Bd.bytes
  have hml : c.maxLocals = 1 := hml0
  have hown : s.vm.findClass "java/lang/String" = some m.cls := findClass_of_methodNamed Bd.named
  have hnm := (name_of_methodNamed Bd.named Bd.method).1
  have X0 : Stand p l e ({ frames := 0, cells := 0, slots := 0, locals := 0 } : Room) s m #[(.ref a1)] below meth c s₁ [] 0 0 := Stand.of_body Bd
  have e0 : s₁.heap = h0 := by rw [← hh, Bd.state]; rfl
  have N0 := Fr.nil n0
  obtain ⟨f0, hf0⟩ : ∃ f : JFrame, f = mkF m 0 #[rv a1] [] := ⟨_, rfl⟩
  have pre0 : ∀ t, Steps p.tables e below (s₁.setTop f0) t → Steps p.tables e below (s₁.setTop (entryFrame m #[(.ref a1)] 1)) t := fun t k => castTop ((ef_rmCoder m a1).trans hf0.symm) k
  have R0 : ∀ t, Steps p.tables e below (s₁.setTop (mkF m 0 #[rv a1] [])) t → Steps p.tables e below (s₁.setTop f0) t := by rw [hf0]; exact fun t k => k
  obtain ⟨T1, X1, e1, st1⟩ := getS2 X0 hx hZ hown (host := "") (Or.inl (hw _ (List.mem_of_getElem? (i := 24) rfl))) Via.refl e0 S_String_COMPACT_STRINGS (g := (mkF m 0 #[rv a1] [])) rfl (hb hby d3_0)
  have R2 : ∀ t, Steps p.tables e below (T1.setTop (mkF m 3 #[rv a1] [(.int cs)])) t → Steps p.tables e below (s₁.setTop f0) t := fun t k => R0 t (st1 t k)
  have R3 : ∀ t, Steps p.tables e below (T1.setTop (mkF m 7 #[rv a1] [(.ref a1)])) t → Steps p.tables e below (s₁.setTop f0) t := fun t k => R2 t (by
    show Steps p.tables e below (T1.setTop (mkF m 3 #[rv a1] [(.int cs)])) _
    refine XS.ifNo X1.here hx rfl (hb hby d3_3) rfl ((if0 _ _).trans (feq hcs).1) ?_
    show Steps p.tables e below (T1.setTop (mkF m 6 #[rv a1] [])) _
    refine XS.aloadN X1.here hx rfl (hb hby d3_6) rfl rfl ?_
    exact k)
  obtain ⟨T4, X4, e4, st4⟩ := getF X1 hx hZ hown (host := "") (Or.inl (hw _ (List.mem_of_getElem? (i := 25) rfl))) Via.refl e1 F_coder_a1 (g := (mkF m 7 #[rv a1] [(.ref a1)])) rfl rfl (hb hby d3_7)
  have R5 : ∀ t, Steps p.tables e below (T4.setTop (mkF m 10 #[rv a1] [(.int (0 : Int32))])) t → Steps p.tables e below (s₁.setTop f0) t := fun t k => R3 t (st4 t k)
  have R6 : ∀ t, Steps p.tables e below (T4.setTop (mkF m 14 #[rv a1] [(.int (0 : Int32))])) t → Steps p.tables e below (s₁.setTop f0) t := fun t k => R5 t (by
    show Steps p.tables e below (T4.setTop (mkF m 10 #[rv a1] [(.int (0 : Int32))])) _
    refine XS.goto X4.here hx rfl (pc0 := 10) (pc' := 14) rfl (hb hby d3_10) (by decide) (by decide) ?_
    exact k)
  obtain ⟨fs, hr, hrun, hended, hW, hsame⟩ := X4.leave (v := some (.int (0 : Int32))) (fun h => by rw [Bd.returns] at h; cases h)
  refine ⟨_, _, pre0 _ (R6 _ ?_), hrun, hended, _, _, rfl, ?_, ⟨_, rfl⟩, hW, hsame.mono (by decide) (by decide)⟩
  · show Steps p.tables e below (T4.setTop (mkF m 14 #[rv a1] [(.int (0 : Int32))])) _
    exact retN X4 hx (t := .byte) Bd.returns (by simp) (hb hby d3_14) hr
  · show Q_rmCoder Z a1 cs h0 n0 _ T4.heap _
    rw [e4]
    exact ⟨rfl, N0, rfl⟩
theorem ef_rmLat (m : MethodId) (x0 : Addr) : entryFrame m #[(.ref x0)] 1 = mkF m 0 #[rv x0] [] := by first | (simp [entryFrame, mkF, argsToLocals, Value.category]; done) | rfl
def Q_rmLat (Z : State) (a1 : Addr) (cs : Int32) (h0 : Heap) (n0 : Nat) (v : Option Value) (h : Heap) (L : List Loc) : Prop := v = some (.int (1 : Int32)) ∧ Fr n0 L ∧ h = h0
set_option maxRecDepth 65536 in
set_option maxHeartbeats 40000000 in
theorem rmLat (l : Launch) (Z : State) (a0 : Array Value) (hw : ∀ d ∈ tables_1, d.before a0 Z = true) (ws : List Jvm.Cond) (a1 : Addr) (cs : Int32) (h0 : Heap) (n0 : Nat) (Z0 : n0 ≤ h0.size) (S_String_COMPACT_STRINGS : Sta Z h0 "java/lang/String" "COMPACT_STRINGS" "Z" (.int cs)) (hcs : ¬ cs = (0 : Int32)) (F_coder_a1 : Fld Z h0 a1 "java/lang/String" "coder" "B" (.int (0 : Int32))) :
    MetFree l (⟨"java/lang/String", "isLatin1", "()Z"⟩ : MethodName) (head1 (Jvm.Cond.code (⟨"java/lang/String", "isLatin1", "()Z"⟩ : MethodName) jdk_42_method_154_code 1 (some .boolean) :: ws) ({ frames := 0, cells := 0, slots := 0, locals := 0 } : Room)) (fun a U => a = #[(.ref a1)] ∧ Z.Warmed39 U.vm ∧ U.heap = h0) (fun _ _ _ _ _ => True) (fun _ U o U' => ∃ v L, o = .returned v ∧ Q_rmLat Z a1 cs h0 n0 v U'.heap L ∧ FrameEnd U o U' L ({ frames := 0, cells := 0, slots := 0, locals := 0 } : Room).cells ({ frames := 0, cells := 0, slots := 0, locals := 0 } : Room).slots) := by
  refine MetFree.of_bodySF (plainFor_of_name pn_0) hisR ?_
  intro p e s m args below meth c s₁ Bd hml0 hP hK
  obtain ⟨rfl, hZ, hh⟩ := hP
  have hx := Bd.exec
  have hby := Bd.bytes
  have hml : c.maxLocals = 1 := hml0
  have hown : s.vm.findClass "java/lang/String" = some m.cls := findClass_of_methodNamed Bd.named
  have hnm := (name_of_methodNamed Bd.named Bd.method).1
  have X0 : Stand p l e ({ frames := 0, cells := 0, slots := 0, locals := 0 } : Room) s m #[(.ref a1)] below meth c s₁ [] 0 0 := Stand.of_body Bd
  have e0 : s₁.heap = h0 := by rw [← hh, Bd.state]; rfl
  have N0 := Fr.nil n0
  obtain ⟨f0, hf0⟩ : ∃ f : JFrame, f = mkF m 0 #[rv a1] [] := ⟨_, rfl⟩
  have pre0 : ∀ t, Steps p.tables e below (s₁.setTop f0) t → Steps p.tables e below (s₁.setTop (entryFrame m #[(.ref a1)] 1)) t := fun t k => castTop ((ef_rmLat m a1).trans hf0.symm) k
  have R0 : ∀ t, Steps p.tables e below (s₁.setTop (mkF m 0 #[rv a1] [])) t → Steps p.tables e below (s₁.setTop f0) t := by rw [hf0]; exact fun t k => k
  obtain ⟨T1, X1, e1, st1⟩ := getS2 X0 hx hZ hown (host := "") (Or.inl (hw _ (List.mem_of_getElem? (i := 24) rfl))) Via.refl e0 S_String_COMPACT_STRINGS (g := (mkF m 0 #[rv a1] [])) rfl (hb hby d5_0)
  have R2 : ∀ t, Steps p.tables e below (T1.setTop (mkF m 3 #[rv a1] [(.int cs)])) t → Steps p.tables e below (s₁.setTop f0) t := fun t k => R0 t (st1 t k)
  have R3 : ∀ t, Steps p.tables e below (T1.setTop (mkF m 7 #[rv a1] [(.ref a1)])) t → Steps p.tables e below (s₁.setTop f0) t := fun t k => R2 t (by
    show Steps p.tables e below (T1.setTop (mkF m 3 #[rv a1] [(.int cs)])) _
    refine XS.ifNo X1.here hx rfl (hb hby d5_3) rfl ((if0 _ _).trans (feq hcs).1) ?_
    show Steps p.tables e below (T1.setTop (mkF m 6 #[rv a1] [])) _
    refine XS.aloadN X1.here hx rfl (hb hby d5_6) rfl rfl ?_
    exact k)
  obtain ⟨T4, X4, e4, st4⟩ := getF X1 hx hZ hown (host := "") (Or.inl (hw _ (List.mem_of_getElem? (i := 25) rfl))) Via.refl e1 F_coder_a1 (g := (mkF m 7 #[rv a1] [(.ref a1)])) rfl rfl (hb hby d5_7)
  have R5 : ∀ t, Steps p.tables e below (T4.setTop (mkF m 10 #[rv a1] [(.int (0 : Int32))])) t → Steps p.tables e below (s₁.setTop f0) t := fun t k => R3 t (st4 t k)
  have R6 : ∀ t, Steps p.tables e below (T4.setTop (mkF m 18 #[rv a1] [(.int (1 : Int32))])) t → Steps p.tables e below (s₁.setTop f0) t := fun t k => R5 t (by
    show Steps p.tables e below (T4.setTop (mkF m 10 #[rv a1] [(.int (0 : Int32))])) _
    refine XS.ifNo X4.here hx rfl (hb hby d5_10) rfl ((if0 _ _).trans (teq (by decide : (0 : Int32) = (0 : Int32))).2) ?_
    show Steps p.tables e below (T4.setTop (mkF m 13 #[rv a1] [])) _
    refine XS.iconst X4.here hx rfl (hb hby d5_13) ?_
    show Steps p.tables e below (T4.setTop (mkF m 14 #[rv a1] [(.int (1 : Int32))])) _
    refine XS.goto X4.here hx rfl (pc0 := 14) (pc' := 18) rfl (hb hby d5_14) (by decide) (by decide) ?_
    exact k)
  obtain ⟨fs, hr, hrun, hended, hW, hsame⟩ := X4.leave (v := some (.int (1 : Int32))) (fun h => by rw [Bd.returns] at h; cases h)
  refine ⟨_, _, pre0 _ (R6 _ ?_), hrun, hended, _, _, rfl, ?_, ⟨_, rfl⟩, hW, hsame.mono (by decide) (by decide)⟩
  · show Steps p.tables e below (T4.setTop (mkF m 18 #[rv a1] [(.int (1 : Int32))])) _
    exact retN X4 hx (t := .boolean) Bd.returns (by simp) (hb hby d5_18) hr
  · show Q_rmLat Z a1 cs h0 n0 _ T4.heap _
    rw [e4]
    exact ⟨rfl, N0, rfl⟩
theorem ef_rmLen (m : MethodId) (x0 : Addr) : entryFrame m #[(.ref x0)] 1 = mkF m 0 #[rv x0] [] := by first | (simp [entryFrame, mkF, argsToLocals, Value.category]; done) | rfl
def Q_rmLen (Z : State) (a1 : Addr) (b : Addr) (k : ClassId) (z : Int32) (vs : List Value) (dv : Value) (cs : Int32) (h0 : Heap) (n0 : Nat) (v : Option Value) (h : Heap) (L : List Loc) : Prop := v = some (.int (z >>> ((0 : Int32) &&& 31))) ∧ Fr n0 L ∧ h = h0
set_option maxRecDepth 65536 in
set_option maxHeartbeats 40000000 in
theorem rmLen (l : Launch) (Z : State) (a0 : Array Value) (hw : ∀ d ∈ tables_1, d.before a0 Z = true) (ws : List Jvm.Cond) (a1 : Addr) (b : Addr) (k : ClassId) (z : Int32) (vs : List Value) (dv : Value) (cs : Int32) (h0 : Heap) (n0 : Nat) (Z0 : n0 ≤ h0.size) (E_a1 : Exa Z h0 a1 "java/lang/String") (F_coder_a1 : Fld Z h0 a1 "java/lang/String" "coder" "B" (.int (0 : Int32))) (F_value_a1 : Fld Z h0 a1 "java/lang/String" "value" "[B" (.ref b)) (A_b : Arv Z h0 b k .byte z vs dv) (S_String_COMPACT_STRINGS : Sta Z h0 "java/lang/String" "COMPACT_STRINGS" "Z" (.int cs)) (hcs : ¬ cs = (0 : Int32)) :
    MetFree l (⟨"java/lang/String", "length", "()I"⟩ : MethodName) (head1 (Jvm.Cond.code (⟨"java/lang/String", "length", "()I"⟩ : MethodName) jdk_42_method_54_code 1 (some .int) :: ws) ({ frames := 1, cells := 0, slots := 0, locals := 13 } : Room)) (fun a U => a = #[(.ref a1)] ∧ Z.Warmed39 U.vm ∧ U.heap = h0) (fun _ _ _ _ _ => True) (fun _ U o U' => ∃ v L, o = .returned v ∧ Q_rmLen Z a1 b k z vs dv cs h0 n0 v U'.heap L ∧ FrameEnd U o U' L ({ frames := 1, cells := 0, slots := 0, locals := 13 } : Room).cells ({ frames := 1, cells := 0, slots := 0, locals := 13 } : Room).slots) := by
  refine MetFree.of_bodySF (plainFor_of_name pn_0) hisR ?_
  intro p e s m args below meth c s₁ Bd hml0 hP hK
  obtain ⟨rfl, hZ, hh⟩ := hP
  have hx := Bd.exec
  have hby := Bd.bytes
  have hml : c.maxLocals = 1 := hml0
  have hown : s.vm.findClass "java/lang/String" = some m.cls := findClass_of_methodNamed Bd.named
  have hnm := (name_of_methodNamed Bd.named Bd.method).1
  have X0 : Stand p l e ({ frames := 1, cells := 0, slots := 0, locals := 13 } : Room) s m #[(.ref a1)] below meth c s₁ [] 0 0 := Stand.of_body Bd
  have e0 : s₁.heap = h0 := by rw [← hh, Bd.state]; rfl
  have N0 := Fr.nil n0
  obtain ⟨f0, hf0⟩ : ∃ f : JFrame, f = mkF m 0 #[rv a1] [] := ⟨_, rfl⟩
  have pre0 : ∀ t, Steps p.tables e below (s₁.setTop f0) t → Steps p.tables e below (s₁.setTop (entryFrame m #[(.ref a1)] 1)) t := fun t k => castTop ((ef_rmLen m a1).trans hf0.symm) k
  have R0 : ∀ t, Steps p.tables e below (s₁.setTop (mkF m 0 #[rv a1] [])) t → Steps p.tables e below (s₁.setTop f0) t := by rw [hf0]; exact fun t k => k
  have R1 : ∀ t, Steps p.tables e below (s₁.setTop (mkF m 1 #[rv a1] [(.ref a1)])) t → Steps p.tables e below (s₁.setTop f0) t := fun t k => R0 t (by
    show Steps p.tables e below (s₁.setTop (mkF m 0 #[rv a1] [])) _
    refine XS.aloadN X0.here hx rfl (hb hby d2_0) rfl rfl ?_
    exact k)
  obtain ⟨T2, X2, e2, st2⟩ := getF X0 hx hZ hown (host := "") (Or.inl (hw _ (List.mem_of_getElem? (i := 17) rfl))) Via.refl e0 F_value_a1 (g := (mkF m 1 #[rv a1] [(.ref a1)])) rfl rfl (hb hby d2_1)
  have R3 : ∀ t, Steps p.tables e below (T2.setTop (mkF m 4 #[rv a1] [(.ref b)])) t → Steps p.tables e below (s₁.setTop f0) t := fun t k => R1 t (st2 t k)
  obtain ⟨cl4, Ar4, -, S4, N4_, -, -⟩ := id A_b
  have R5 : ∀ t, Steps p.tables e below (T2.setTop (mkF m 5 #[rv a1] [(.int z)])) t → Steps p.tables e below (s₁.setTop f0) t := fun t k => R3 t (X2.arraylength hx (by rw [e2]; exact Ar4.1) (State.isArrayOf_alike hZ.alike Ar4.2.1) (g := (mkF m 4 #[rv a1] [(.ref b)])) rfl rfl (hb hby d2_4) _ (by rw [len_of S4 N4_]; exact k))
  have R6 : ∀ t, Steps p.tables e below (T2.setTop (mkF m 6 #[rv a1] [(.ref a1), (.int z)])) t → Steps p.tables e below (s₁.setTop f0) t := fun t k => R5 t (by
    show Steps p.tables e below (T2.setTop (mkF m 5 #[rv a1] [(.int z)])) _
    refine XS.aloadN X2.here hx rfl (hb hby d2_5) rfl rfl ?_
    exact k)
  obtain ⟨cq7, kq7, q7a, q7b, q7c⟩ := isOf hZ e2 E_a1
  obtain ⟨_, _, ⟨T7, L7, k7, n7⟩, -, X7, ⟨Lc7, hQ7, l7, y7, z7⟩, st7⟩ := X2.virtualBack hx (y := (⟨"java/lang/String", "coder", "()B"⟩ : MethodName)) (z := (⟨"java/lang/String", "coder", "()B"⟩ : MethodName)) hown (mvT hZ (hw _ (List.mem_of_getElem? (i := 19) rfl))) (mvT hZ (hw _ (List.mem_of_getElem? (i := 20) rfl))) (notFace_of_selects (args := #[]) (mvT hZ (hw _ (List.mem_of_getElem? (i := 22) rfl)))) (mvT hZ (hw _ (List.mem_of_getElem? (i := 22) rfl))) (mvT hZ (hw _ (List.mem_of_getElem? (i := 21) rfl))) (by decide) (backOf (W := 1) (rmCoder l Z a0 hw [] a1 cs h0 n0 Z0 S_String_COMPACT_STRINGS hcs F_coder_a1) hZ (hw _ (List.mem_of_getElem? (i := 23) rfl)) (hw _ (List.mem_of_getElem? (i := 15) rfl)) (by decide) (by decide)) q7a q7c (g := (mkF m 6 #[rv a1] [(.ref a1), (.int z)])) rfl (by rw [hml]; rfl) (Steps.refl _) (argsL := []) (rest := [(.int z)]) (lenOf pd_1 rfl) rfl (by show 2 * 0 + _ ≤ _; exact Nat.le_of_eq rfl) (hb hby d2_6) (fun _ _ => ⟨rfl, e2, (by decide : 0 + 0 ≤ _), (by decide : 0 + 0 ≤ _)⟩)
  dsimp only [Pt.U, Pt.locs, Pt.cells, Pt.slots] at X7 l7 y7 z7 st7 hQ7
  subst l7 y7 z7
  obtain ⟨rfl, N7q, p7_0⟩ := hQ7
  have N7 := Fr.app N0 N7q
  have R8 : ∀ t, Steps p.tables e below (T7.setTop (mkF m 9 #[rv a1] [(.int (0 : Int32)), (.int z)])) t → Steps p.tables e below (s₁.setTop f0) t := fun t k => R6 t (st7.trans k)
  have R9 : ∀ t, Steps p.tables e below (T7.setTop (mkF m 10 #[rv a1] [(.int (z >>> ((0 : Int32) &&& 31)))])) t → Steps p.tables e below (s₁.setTop f0) t := fun t k => R8 t (by
    show Steps p.tables e below (T7.setTop (mkF m 9 #[rv a1] [(.int (0 : Int32)), (.int z)])) _
    refine XS.ishr X7.here hx rfl (hb hby d2_9) rfl ?_
    exact k)
  obtain ⟨fs, hr, hrun, hended, hW, hsame⟩ := X7.leave (v := some (.int (z >>> ((0 : Int32) &&& 31)))) (fun h => by rw [Bd.returns] at h; cases h)
  refine ⟨_, _, pre0 _ (R9 _ ?_), hrun, hended, _, _, rfl, ?_, ⟨_, rfl⟩, hW, hsame.mono (by decide) (by decide)⟩
  · show Steps p.tables e below (T7.setTop (mkF m 10 #[rv a1] [(.int (z >>> ((0 : Int32) &&& 31)))])) _
    exact retI X7 hx Bd.returns (hb hby d2_10) hr
  · show Q_rmLen Z a1 b k z vs dv cs h0 n0 _ T7.heap _
    rw [p7_0]
    exact ⟨rfl, N7, rfl⟩
theorem ef_rmPreN (m : MethodId) (x0 : Int32) (x1 : Int32) : entryFrame m #[(.int x0), (.int x1), .null] 3 = mkF m 0 #[iv x0, iv x1, .val .null] [] := by first | (simp [entryFrame, mkF, argsToLocals, Value.category]; done) | rfl
def Q_rmPreN (Z : State) (p1 : Int32) (p2 : Int32) (h0 : Heap) (n0 : Nat) (v : Option Value) (h : Heap) (L : List Loc) : Prop := v = some (.int p1) ∧ Fr n0 L ∧ h = h0
set_option maxRecDepth 65536 in
set_option maxHeartbeats 40000000 in
theorem rmPreN (l : Launch) (Z : State) (a0 : Array Value) (hw : ∀ d ∈ tables_1, d.before a0 Z = true) (ws : List Jvm.Cond) (p1 : Int32) (p2 : Int32) (h0 : Heap) (n0 : Nat) (Z0 : n0 ≤ h0.size) (hlo : ¬ p1 < (0 : Int32)) (hhi : p1 < p2) :
    MetFree l (⟨sN1, "checkIndex", "(IILjava/util/function/BiFunction;)I"⟩ : MethodName) (head1 (Jvm.Cond.code (⟨sN1, "checkIndex", "(IILjava/util/function/BiFunction;)I"⟩ : MethodName) jdk_41_method_11_code 3 (some .int) :: ws) ({ frames := 0, cells := 0, slots := 0, locals := 0 } : Room)) (fun a U => a = #[(.int p1), (.int p2), .null] ∧ Z.Warmed39 U.vm ∧ U.heap = h0) (fun _ _ _ _ _ => True) (fun _ U o U' => ∃ v L, o = .returned v ∧ Q_rmPreN Z p1 p2 h0 n0 v U'.heap L ∧ FrameEnd U o U' L ({ frames := 0, cells := 0, slots := 0, locals := 0 } : Room).cells ({ frames := 0, cells := 0, slots := 0, locals := 0 } : Room).slots) := by
  refine MetFree.of_bodySF (plainFor_of_name pn_2) hisR ?_
  intro p e s m args below meth c s₁ Bd hml0 hP hK
  obtain ⟨rfl, hZ, hh⟩ := hP
  have hx := Bd.exec
  have hby := Bd.bytes
  have hml : c.maxLocals = 3 := hml0
  have hown : s.vm.findClass sN1 = some m.cls := findClass_of_methodNamed Bd.named
  have hnm := (name_of_methodNamed Bd.named Bd.method).1
  have X0 : Stand p l e ({ frames := 0, cells := 0, slots := 0, locals := 0 } : Room) s m #[(.int p1), (.int p2), .null] below meth c s₁ [] 0 0 := Stand.of_body Bd
  have e0 : s₁.heap = h0 := by rw [← hh, Bd.state]; rfl
  have N0 := Fr.nil n0
  obtain ⟨f0, hf0⟩ : ∃ f : JFrame, f = mkF m 0 #[iv p1, iv p2, .val .null] [] := ⟨_, rfl⟩
  have pre0 : ∀ t, Steps p.tables e below (s₁.setTop f0) t → Steps p.tables e below (s₁.setTop (entryFrame m #[(.int p1), (.int p2), .null] 3)) t := fun t k => castTop ((ef_rmPreN m p1 p2).trans hf0.symm) k
  have R0 : ∀ t, Steps p.tables e below (s₁.setTop (mkF m 0 #[iv p1, iv p2, .val .null] [])) t → Steps p.tables e below (s₁.setTop f0) t := by rw [hf0]; exact fun t k => k
  have R1 : ∀ t, Steps p.tables e below (s₁.setTop (mkF m 17 #[iv p1, iv p2, .val .null] [(.int p1)])) t → Steps p.tables e below (s₁.setTop f0) t := fun t k => R0 t (by
    show Steps p.tables e below (s₁.setTop (mkF m 0 #[iv p1, iv p2, .val .null] [])) _
    refine XS.iloadN X0.here hx rfl (hb hby d8_0) rfl  ?_
    show Steps p.tables e below (s₁.setTop (mkF m 1 #[iv p1, iv p2, .val .null] [(.int p1)])) _
    refine XS.ifNo X0.here hx rfl (hb hby d8_1) rfl ((if0 _ _).trans (flt hlo).1) ?_
    show Steps p.tables e below (s₁.setTop (mkF m 4 #[iv p1, iv p2, .val .null] [])) _
    refine XS.iloadN X0.here hx rfl (hb hby d8_4) rfl  ?_
    show Steps p.tables e below (s₁.setTop (mkF m 5 #[iv p1, iv p2, .val .null] [(.int p1)])) _
    refine XS.iloadN X0.here hx rfl (hb hby d8_5) rfl  ?_
    show Steps p.tables e below (s₁.setTop (mkF m 6 #[iv p1, iv p2, .val .null] [(.int p2), (.int p1)])) _
    refine XS.icmpYes X0.here hx rfl (pc0 := 6) (pc' := 16) rfl (hb hby d8_6) rfl (tlt hhi).1 (by decide) (by decide) ?_
    show Steps p.tables e below (s₁.setTop (mkF m 16 #[iv p1, iv p2, .val .null] [])) _
    refine XS.iloadN X0.here hx rfl (hb hby d8_16) rfl  ?_
    exact k)
  obtain ⟨fs, hr, hrun, hended, hW, hsame⟩ := X0.leave (v := some (.int p1)) (fun h => by rw [Bd.returns] at h; cases h)
  refine ⟨_, _, pre0 _ (R1 _ ?_), hrun, hended, _, _, rfl, ?_, ⟨_, rfl⟩, hW, hsame.mono (by decide) (by decide)⟩
  · show Steps p.tables e below (s₁.setTop (mkF m 17 #[iv p1, iv p2, .val .null] [(.int p1)])) _
    exact retI X0 hx Bd.returns (hb hby d8_17) hr
  · show Q_rmPreN Z p1 p2 h0 n0 _ s₁.heap _
    rw [e0]
    exact ⟨rfl, N0, rfl⟩
theorem ef_rmPreR (m : MethodId) (x0 : Int32) (x1 : Int32) (x2 : Addr) : entryFrame m #[(.int x0), (.int x1), (.ref x2)] 3 = mkF m 0 #[iv x0, iv x1, rv x2] [] := by first | (simp [entryFrame, mkF, argsToLocals, Value.category]; done) | rfl
def Q_rmPreR (Z : State) (p1 : Int32) (p2 : Int32) (a3 : Addr) (h0 : Heap) (n0 : Nat) (v : Option Value) (h : Heap) (L : List Loc) : Prop := v = some (.int p1) ∧ Fr n0 L ∧ h = h0
set_option maxRecDepth 65536 in
set_option maxHeartbeats 40000000 in
theorem rmPreR (l : Launch) (Z : State) (a0 : Array Value) (hw : ∀ d ∈ tables_1, d.before a0 Z = true) (ws : List Jvm.Cond) (p1 : Int32) (p2 : Int32) (a3 : Addr) (h0 : Heap) (n0 : Nat) (Z0 : n0 ≤ h0.size) (hlo : ¬ p1 < (0 : Int32)) (hhi : p1 < p2) :
    MetFree l (⟨sN1, "checkIndex", "(IILjava/util/function/BiFunction;)I"⟩ : MethodName) (head1 (Jvm.Cond.code (⟨sN1, "checkIndex", "(IILjava/util/function/BiFunction;)I"⟩ : MethodName) jdk_41_method_11_code 3 (some .int) :: ws) ({ frames := 0, cells := 0, slots := 0, locals := 0 } : Room)) (fun a U => a = #[(.int p1), (.int p2), (.ref a3)] ∧ Z.Warmed39 U.vm ∧ U.heap = h0) (fun _ _ _ _ _ => True) (fun _ U o U' => ∃ v L, o = .returned v ∧ Q_rmPreR Z p1 p2 a3 h0 n0 v U'.heap L ∧ FrameEnd U o U' L ({ frames := 0, cells := 0, slots := 0, locals := 0 } : Room).cells ({ frames := 0, cells := 0, slots := 0, locals := 0 } : Room).slots) := by
  refine MetFree.of_bodySF (plainFor_of_name pn_2) hisR ?_
  intro p e s m args below meth c s₁ Bd hml0 hP hK
  obtain ⟨rfl, hZ, hh⟩ := hP
  have hx := Bd.exec
  have hby := Bd.bytes
  have hml : c.maxLocals = 3 := hml0
  have hown : s.vm.findClass sN1 = some m.cls := findClass_of_methodNamed Bd.named
  have hnm := (name_of_methodNamed Bd.named Bd.method).1
  have X0 : Stand p l e ({ frames := 0, cells := 0, slots := 0, locals := 0 } : Room) s m #[(.int p1), (.int p2), (.ref a3)] below meth c s₁ [] 0 0 := Stand.of_body Bd
  have e0 : s₁.heap = h0 := by rw [← hh, Bd.state]; rfl
  have N0 := Fr.nil n0
  obtain ⟨f0, hf0⟩ : ∃ f : JFrame, f = mkF m 0 #[iv p1, iv p2, rv a3] [] := ⟨_, rfl⟩
  have pre0 : ∀ t, Steps p.tables e below (s₁.setTop f0) t → Steps p.tables e below (s₁.setTop (entryFrame m #[(.int p1), (.int p2), (.ref a3)] 3)) t := fun t k => castTop ((ef_rmPreR m p1 p2 a3).trans hf0.symm) k
  have R0 : ∀ t, Steps p.tables e below (s₁.setTop (mkF m 0 #[iv p1, iv p2, rv a3] [])) t → Steps p.tables e below (s₁.setTop f0) t := by rw [hf0]; exact fun t k => k
  have R1 : ∀ t, Steps p.tables e below (s₁.setTop (mkF m 17 #[iv p1, iv p2, rv a3] [(.int p1)])) t → Steps p.tables e below (s₁.setTop f0) t := fun t k => R0 t (by
    show Steps p.tables e below (s₁.setTop (mkF m 0 #[iv p1, iv p2, rv a3] [])) _
    refine XS.iloadN X0.here hx rfl (hb hby d8_0) rfl  ?_
    show Steps p.tables e below (s₁.setTop (mkF m 1 #[iv p1, iv p2, rv a3] [(.int p1)])) _
    refine XS.ifNo X0.here hx rfl (hb hby d8_1) rfl ((if0 _ _).trans (flt hlo).1) ?_
    show Steps p.tables e below (s₁.setTop (mkF m 4 #[iv p1, iv p2, rv a3] [])) _
    refine XS.iloadN X0.here hx rfl (hb hby d8_4) rfl  ?_
    show Steps p.tables e below (s₁.setTop (mkF m 5 #[iv p1, iv p2, rv a3] [(.int p1)])) _
    refine XS.iloadN X0.here hx rfl (hb hby d8_5) rfl  ?_
    show Steps p.tables e below (s₁.setTop (mkF m 6 #[iv p1, iv p2, rv a3] [(.int p2), (.int p1)])) _
    refine XS.icmpYes X0.here hx rfl (pc0 := 6) (pc' := 16) rfl (hb hby d8_6) rfl (tlt hhi).1 (by decide) (by decide) ?_
    show Steps p.tables e below (s₁.setTop (mkF m 16 #[iv p1, iv p2, rv a3] [])) _
    refine XS.iloadN X0.here hx rfl (hb hby d8_16) rfl  ?_
    exact k)
  obtain ⟨fs, hr, hrun, hended, hW, hsame⟩ := X0.leave (v := some (.int p1)) (fun h => by rw [Bd.returns] at h; cases h)
  refine ⟨_, _, pre0 _ (R1 _ ?_), hrun, hended, _, _, rfl, ?_, ⟨_, rfl⟩, hW, hsame.mono (by decide) (by decide)⟩
  · show Steps p.tables e below (s₁.setTop (mkF m 17 #[iv p1, iv p2, rv a3] [(.int p1)])) _
    exact retI X0 hx Bd.returns (hb hby d8_17) hr
  · show Q_rmPreR Z p1 p2 a3 h0 n0 _ s₁.heap _
    rw [e0]
    exact ⟨rfl, N0, rfl⟩
theorem ef_rmChk (m : MethodId) (x0 : Int32) (x1 : Int32) : entryFrame m #[(.int x0), (.int x1)] 2 = mkF m 0 #[iv x0, iv x1] [] := by first | (simp [entryFrame, mkF, argsToLocals, Value.category]; done) | rfl
def Q_rmChk (Z : State) (p1 : Int32) (p2 : Int32) (sf : Value) (h0 : Heap) (n0 : Nat) (v : Option Value) (h : Heap) (L : List Loc) : Prop := v = none ∧ Fr n0 L ∧ h = h0
set_option maxRecDepth 65536 in
set_option maxHeartbeats 40000000 in
theorem rmChk (l : Launch) (Z : State) (a0 : Array Value) (hw : ∀ d ∈ tables_1, d.before a0 Z = true) (ws : List Jvm.Cond) (p1 : Int32) (p2 : Int32) (sf : Value) (h0 : Heap) (n0 : Nat) (Z0 : n0 ≤ h0.size) (S_Preconditions_SIOOBE_FORMATTER : Sta Z h0 sN1 "SIOOBE_FORMATTER" "Ljava/util/function/BiFunction;" sf) (hsf : sf.isRef = true) (hlo : ¬ p1 < (0 : Int32)) (hhi : p1 < p2) :
    MetFree l (⟨"java/lang/String", "checkIndex", "(II)V"⟩ : MethodName) (head1 (Jvm.Cond.code (⟨"java/lang/String", "checkIndex", "(II)V"⟩ : MethodName) jdk_42_method_155_code 2 none :: ws) ({ frames := 1, cells := 0, slots := 0, locals := 14 } : Room)) (fun a U => a = #[(.int p1), (.int p2)] ∧ Z.Warmed39 U.vm ∧ U.heap = h0) (fun _ _ _ _ _ => True) (fun _ U o U' => ∃ v L, o = .returned v ∧ Q_rmChk Z p1 p2 sf h0 n0 v U'.heap L ∧ FrameEnd U o U' L ({ frames := 1, cells := 0, slots := 0, locals := 14 } : Room).cells ({ frames := 1, cells := 0, slots := 0, locals := 14 } : Room).slots) := by
  refine MetFree.of_bodySF (plainFor_of_name pn_0) hisR ?_
  intro p e s m args below meth c s₁ Bd hml0 hP hK
  obtain ⟨rfl, hZ, hh⟩ := hP
  have hx := Bd.exec
  have hby := Bd.bytes
  have hml : c.maxLocals = 2 := hml0
  have hown : s.vm.findClass "java/lang/String" = some m.cls := findClass_of_methodNamed Bd.named
  have hnm := (name_of_methodNamed Bd.named Bd.method).1
  have X0 : Stand p l e ({ frames := 1, cells := 0, slots := 0, locals := 14 } : Room) s m #[(.int p1), (.int p2)] below meth c s₁ [] 0 0 := Stand.of_body Bd
  have e0 : s₁.heap = h0 := by rw [← hh, Bd.state]; rfl
  have N0 := Fr.nil n0
  obtain ⟨f0, hf0⟩ : ∃ f : JFrame, f = mkF m 0 #[iv p1, iv p2] [] := ⟨_, rfl⟩
  have pre0 : ∀ t, Steps p.tables e below (s₁.setTop f0) t → Steps p.tables e below (s₁.setTop (entryFrame m #[(.int p1), (.int p2)] 2)) t := fun t k => castTop ((ef_rmChk m p1 p2).trans hf0.symm) k
  have R0 : ∀ t, Steps p.tables e below (s₁.setTop (mkF m 0 #[iv p1, iv p2] [])) t → Steps p.tables e below (s₁.setTop f0) t := by rw [hf0]; exact fun t k => k
  rcases ref_cases hsf with rfl | ⟨sfa, rfl⟩
  · skip
    have R1 : ∀ t, Steps p.tables e below (s₁.setTop (mkF m 2 #[iv p1, iv p2] [(.int p2), (.int p1)])) t → Steps p.tables e below (s₁.setTop f0) t := fun t k => R0 t (by
      show Steps p.tables e below (s₁.setTop (mkF m 0 #[iv p1, iv p2] [])) _
      refine XS.iloadN X0.here hx rfl (hb hby d7_0) rfl  ?_
      show Steps p.tables e below (s₁.setTop (mkF m 1 #[iv p1, iv p2] [(.int p1)])) _
      refine XS.iloadN X0.here hx rfl (hb hby d7_1) rfl  ?_
      exact k)
    obtain ⟨T2, X2, e2, st2⟩ := getS2 X0 hx hZ hown (host := "") (Or.inl (hw _ (List.mem_of_getElem? (i := 44) rfl))) Via.refl e0 S_Preconditions_SIOOBE_FORMATTER (g := (mkF m 2 #[iv p1, iv p2] [(.int p2), (.int p1)])) rfl (hb hby d7_2)
    have R3 : ∀ t, Steps p.tables e below (T2.setTop (mkF m 5 #[iv p1, iv p2] [.null, (.int p2), (.int p1)])) t → Steps p.tables e below (s₁.setTop f0) t := fun t k => R1 t (st2 t k)
    obtain ⟨_, _, ⟨T4, L4, k4, n4⟩, -, X4, ⟨Lc4, hQ4, l4, y4, z4⟩, st4⟩ := Jvm.LawKit.callS X2 hx (y := (⟨sN1, "checkIndex", "(IILjava/util/function/BiFunction;)I"⟩ : MethodName)) hown (mvT hZ (hw _ (List.mem_of_getElem? (i := 46) rfl))) (mvT hZ (hw _ (List.mem_of_getElem? (i := 47) rfl))) (mvT hZ (hw _ (List.mem_of_getElem? (i := 45) rfl))) (mvT hZ (hw _ (List.mem_of_getElem? (i := 48) rfl))) (by decide) (backOf (W := 0) (rmPreN l Z a0 hw [] p1 p2 h0 n0 Z0 hlo hhi) hZ (hw _ (List.mem_of_getElem? (i := 48) rfl)) (hw _ (List.mem_of_getElem? (i := 45) rfl)) (by decide) (by decide)) (g := (mkF m 5 #[iv p1, iv p2] [.null, (.int p2), (.int p1)])) rfl (by rw [hml]; rfl) (argsL := [(.int p1), (.int p2), .null]) (rest := []) (lenOf pd_3 rfl) rfl (by show 2 * 0 + _ ≤ _; exact Nat.le_of_eq rfl) (hb hby d7_5) (fun _ _ => ⟨rfl, e2, (by decide : 0 + 0 ≤ _), (by decide : 0 + 0 ≤ _)⟩)
    dsimp only [Pt.U, Pt.locs, Pt.cells, Pt.slots] at X4 l4 y4 z4 st4 hQ4
    subst l4 y4 z4
    obtain ⟨rfl, N4q, p4_0⟩ := hQ4
    have N4 := Fr.app N0 N4q
    have R5 : ∀ t, Steps p.tables e below (T4.setTop (mkF m 8 #[iv p1, iv p2] [(.int p1)])) t → Steps p.tables e below (s₁.setTop f0) t := fun t k => R3 t (st4 t k)
    have R6 : ∀ t, Steps p.tables e below (T4.setTop (mkF m 9 #[iv p1, iv p2] [])) t → Steps p.tables e below (s₁.setTop f0) t := fun t k => R5 t (by
      show Steps p.tables e below (T4.setTop (mkF m 8 #[iv p1, iv p2] [(.int p1)])) _
      refine XS.pop X4.here hx rfl (hb hby d7_8) rfl rfl ?_
      exact k)
    obtain ⟨fs, hr, hrun, hended, hW, hsame⟩ := X4.leave (v := none) (fun _ => rfl)
    refine ⟨_, _, pre0 _ (R6 _ ?_), hrun, hended, _, _, rfl, ?_, ⟨_, rfl⟩, hW, hsame.mono (by decide) (by decide)⟩
    · show Steps p.tables e below (T4.setTop (mkF m 9 #[iv p1, iv p2] [])) _
      exact X4.returnOut hx Bd.returns (hb hby d7_9) hr
    · show Q_rmChk Z p1 p2 .null h0 n0 _ T4.heap _
      rw [p4_0]
      exact ⟨rfl, N4, rfl⟩
  · skip
    have R7 : ∀ t, Steps p.tables e below (s₁.setTop (mkF m 2 #[iv p1, iv p2] [(.int p2), (.int p1)])) t → Steps p.tables e below (s₁.setTop f0) t := fun t k => R0 t (by
      show Steps p.tables e below (s₁.setTop (mkF m 0 #[iv p1, iv p2] [])) _
      refine XS.iloadN X0.here hx rfl (hb hby d7_0) rfl  ?_
      show Steps p.tables e below (s₁.setTop (mkF m 1 #[iv p1, iv p2] [(.int p1)])) _
      refine XS.iloadN X0.here hx rfl (hb hby d7_1) rfl  ?_
      exact k)
    obtain ⟨T8, X8, e8, st8⟩ := getS2 X0 hx hZ hown (host := "") (Or.inl (hw _ (List.mem_of_getElem? (i := 44) rfl))) Via.refl e0 S_Preconditions_SIOOBE_FORMATTER (g := (mkF m 2 #[iv p1, iv p2] [(.int p2), (.int p1)])) rfl (hb hby d7_2)
    have R9 : ∀ t, Steps p.tables e below (T8.setTop (mkF m 5 #[iv p1, iv p2] [(.ref sfa), (.int p2), (.int p1)])) t → Steps p.tables e below (s₁.setTop f0) t := fun t k => R7 t (st8 t k)
    obtain ⟨_, _, ⟨T10, L10, k10, n10⟩, -, X10, ⟨Lc10, hQ10, l10, y10, z10⟩, st10⟩ := Jvm.LawKit.callS X8 hx (y := (⟨sN1, "checkIndex", "(IILjava/util/function/BiFunction;)I"⟩ : MethodName)) hown (mvT hZ (hw _ (List.mem_of_getElem? (i := 46) rfl))) (mvT hZ (hw _ (List.mem_of_getElem? (i := 47) rfl))) (mvT hZ (hw _ (List.mem_of_getElem? (i := 45) rfl))) (mvT hZ (hw _ (List.mem_of_getElem? (i := 48) rfl))) (by decide) (backOf (W := 0) (rmPreR l Z a0 hw [] p1 p2 sfa h0 n0 Z0 hlo hhi) hZ (hw _ (List.mem_of_getElem? (i := 48) rfl)) (hw _ (List.mem_of_getElem? (i := 45) rfl)) (by decide) (by decide)) (g := (mkF m 5 #[iv p1, iv p2] [(.ref sfa), (.int p2), (.int p1)])) rfl (by rw [hml]; rfl) (argsL := [(.int p1), (.int p2), (.ref sfa)]) (rest := []) (lenOf pd_3 rfl) rfl (by show 2 * 0 + _ ≤ _; exact Nat.le_of_eq rfl) (hb hby d7_5) (fun _ _ => ⟨rfl, e8, (by decide : 0 + 0 ≤ _), (by decide : 0 + 0 ≤ _)⟩)
    dsimp only [Pt.U, Pt.locs, Pt.cells, Pt.slots] at X10 l10 y10 z10 st10 hQ10
    subst l10 y10 z10
    obtain ⟨rfl, N10q, p10_0⟩ := hQ10
    have N10 := Fr.app N0 N10q
    have R11 : ∀ t, Steps p.tables e below (T10.setTop (mkF m 8 #[iv p1, iv p2] [(.int p1)])) t → Steps p.tables e below (s₁.setTop f0) t := fun t k => R9 t (st10 t k)
    have R12 : ∀ t, Steps p.tables e below (T10.setTop (mkF m 9 #[iv p1, iv p2] [])) t → Steps p.tables e below (s₁.setTop f0) t := fun t k => R11 t (by
      show Steps p.tables e below (T10.setTop (mkF m 8 #[iv p1, iv p2] [(.int p1)])) _
      refine XS.pop X10.here hx rfl (hb hby d7_8) rfl rfl ?_
      exact k)
    obtain ⟨fs, hr, hrun, hended, hW, hsame⟩ := X10.leave (v := none) (fun _ => rfl)
    refine ⟨_, _, pre0 _ (R12 _ ?_), hrun, hended, _, _, rfl, ?_, ⟨_, rfl⟩, hW, hsame.mono (by decide) (by decide)⟩
    · show Steps p.tables e below (T10.setTop (mkF m 9 #[iv p1, iv p2] [])) _
      exact X10.returnOut hx Bd.returns (hb hby d7_9) hr
    · show Q_rmChk Z p1 p2 (.ref sfa) h0 n0 _ T10.heap _
      rw [p10_0]
      exact ⟨rfl, N10, rfl⟩
theorem ef_rmLca (m : MethodId) (x0 : Addr) (x1 : Int32) : entryFrame m #[(.ref x0), (.int x1)] 2 = mkF m 0 #[rv x0, iv x1] [] := by first | (simp [entryFrame, mkF, argsToLocals, Value.category]; done) | rfl
def Q_rmLca (Z : State) (b : Addr) (p2 : Int32) (k : ClassId) (z : Int32) (vs : List Value) (dv : Value) (x : Int32) (sf : Value) (h0 : Heap) (n0 : Nat) (v : Option Value) (h : Heap) (L : List Loc) : Prop := v = some (.int (own_ch x)) ∧ Fr n0 L ∧ h = h0
set_option maxRecDepth 65536 in
set_option maxHeartbeats 40000000 in
theorem rmLca (l : Launch) (Z : State) (a0 : Array Value) (hw : ∀ d ∈ tables_1, d.before a0 Z = true) (ws : List Jvm.Cond) (b : Addr) (p2 : Int32) (k : ClassId) (z : Int32) (vs : List Value) (dv : Value) (x : Int32) (sf : Value) (h0 : Heap) (n0 : Nat) (Z0 : n0 ≤ h0.size) (A_b : Arv Z h0 b k .byte z vs dv) (S_Preconditions_SIOOBE_FORMATTER : Sta Z h0 sN1 "SIOOBE_FORMATTER" "Ljava/util/function/BiFunction;" sf) (hsf : sf.isRef = true) (hlo : ¬ p2 < (0 : Int32)) (hhi : p2 < z) (hat : vs.getD (p2).toNatClampNeg dv = .int x) :
    MetFree l (⟨"java/lang/StringLatin1", "charAt", "([BI)C"⟩ : MethodName) (head1 (Jvm.Cond.code (⟨"java/lang/StringLatin1", "charAt", "([BI)C"⟩ : MethodName) jdk_43_method_2_code 2 (some .char) :: ws) ({ frames := 2, cells := 0, slots := 0, locals := 27 } : Room)) (fun a U => a = #[(.ref b), (.int p2)] ∧ Z.Warmed39 U.vm ∧ U.heap = h0) (fun _ _ _ _ _ => True) (fun _ U o U' => ∃ v L, o = .returned v ∧ Q_rmLca Z b p2 k z vs dv x sf h0 n0 v U'.heap L ∧ FrameEnd U o U' L ({ frames := 2, cells := 0, slots := 0, locals := 27 } : Room).cells ({ frames := 2, cells := 0, slots := 0, locals := 27 } : Room).slots) := by
  refine MetFree.of_bodySF (plainFor_of_name pn_4) hisR ?_
  intro p e s m args below meth c s₁ Bd hml0 hP hK
  obtain ⟨rfl, hZ, hh⟩ := hP
  have hx := Bd.exec
  have hby := Bd.bytes
  have hml : c.maxLocals = 2 := hml0
  have hown : s.vm.findClass "java/lang/StringLatin1" = some m.cls := findClass_of_methodNamed Bd.named
  have hnm := (name_of_methodNamed Bd.named Bd.method).1
  have X0 : Stand p l e ({ frames := 2, cells := 0, slots := 0, locals := 27 } : Room) s m #[(.ref b), (.int p2)] below meth c s₁ [] 0 0 := Stand.of_body Bd
  have e0 : s₁.heap = h0 := by rw [← hh, Bd.state]; rfl
  have N0 := Fr.nil n0
  obtain ⟨f0, hf0⟩ : ∃ f : JFrame, f = mkF m 0 #[rv b, iv p2] [] := ⟨_, rfl⟩
  have pre0 : ∀ t, Steps p.tables e below (s₁.setTop f0) t → Steps p.tables e below (s₁.setTop (entryFrame m #[(.ref b), (.int p2)] 2)) t := fun t k => castTop ((ef_rmLca m b p2).trans hf0.symm) k
  have R0 : ∀ t, Steps p.tables e below (s₁.setTop (mkF m 0 #[rv b, iv p2] [])) t → Steps p.tables e below (s₁.setTop f0) t := by rw [hf0]; exact fun t k => k
  have R1 : ∀ t, Steps p.tables e below (s₁.setTop (mkF m 2 #[rv b, iv p2] [(.ref b), (.int p2)])) t → Steps p.tables e below (s₁.setTop f0) t := fun t k => R0 t (by
    show Steps p.tables e below (s₁.setTop (mkF m 0 #[rv b, iv p2] [])) _
    refine XS.iloadN X0.here hx rfl (hb hby d6_0) rfl  ?_
    show Steps p.tables e below (s₁.setTop (mkF m 1 #[rv b, iv p2] [(.int p2)])) _
    refine XS.aloadN X0.here hx rfl (hb hby d6_1) rfl rfl ?_
    exact k)
  obtain ⟨cl2, Ar2, -, S2, N2_, -, -⟩ := id A_b
  have R3 : ∀ t, Steps p.tables e below (s₁.setTop (mkF m 3 #[rv b, iv p2] [(.int z), (.int p2)])) t → Steps p.tables e below (s₁.setTop f0) t := fun t k => R1 t (X0.arraylength hx (by rw [e0]; exact Ar2.1) (State.isArrayOf_alike hZ.alike Ar2.2.1) (g := (mkF m 2 #[rv b, iv p2] [(.ref b), (.int p2)])) rfl rfl (hb hby d6_2) _ (by rw [len_of S2 N2_]; exact k))
  obtain ⟨_, _, ⟨T4, L4, k4, n4⟩, -, X4, ⟨Lc4, hQ4, l4, y4, z4⟩, st4⟩ := Jvm.LawKit.callS X0 hx (y := (⟨"java/lang/String", "checkIndex", "(II)V"⟩ : MethodName)) hown (mvT hZ (hw _ (List.mem_of_getElem? (i := 41) rfl))) (mvT hZ (hw _ (List.mem_of_getElem? (i := 42) rfl))) (mvT hZ (hw _ (List.mem_of_getElem? (i := 15) rfl))) (mvT hZ (hw _ (List.mem_of_getElem? (i := 43) rfl))) (by decide) (backOf (W := 0) (rmChk l Z a0 hw [] p2 z sf h0 n0 Z0 S_Preconditions_SIOOBE_FORMATTER hsf hlo hhi) hZ (hw _ (List.mem_of_getElem? (i := 43) rfl)) (hw _ (List.mem_of_getElem? (i := 15) rfl)) (by decide) (by decide)) (g := (mkF m 3 #[rv b, iv p2] [(.int z), (.int p2)])) rfl (by rw [hml]; rfl) (argsL := [(.int p2), (.int z)]) (rest := []) (lenOf pd_5 rfl) rfl (by show 2 * 0 + _ ≤ _; exact Nat.le_of_eq rfl) (hb hby d6_3) (fun _ _ => ⟨rfl, e0, (by decide : 0 + 0 ≤ _), (by decide : 0 + 0 ≤ _)⟩)
  dsimp only [Pt.U, Pt.locs, Pt.cells, Pt.slots] at X4 l4 y4 z4 st4 hQ4
  subst l4 y4 z4
  obtain ⟨rfl, N4q, p4_0⟩ := hQ4
  have N4 := Fr.app N0 N4q
  have R5 : ∀ t, Steps p.tables e below (T4.setTop (mkF m 6 #[rv b, iv p2] [])) t → Steps p.tables e below (s₁.setTop f0) t := fun t k => R3 t (st4 t k)
  have R6 : ∀ t, Steps p.tables e below (T4.setTop (mkF m 8 #[rv b, iv p2] [(.int p2), (.ref b)])) t → Steps p.tables e below (s₁.setTop f0) t := fun t k => R5 t (by
    show Steps p.tables e below (T4.setTop (mkF m 6 #[rv b, iv p2] [])) _
    refine XS.aloadN X4.here hx rfl (hb hby d6_6) rfl rfl ?_
    show Steps p.tables e below (T4.setTop (mkF m 7 #[rv b, iv p2] [(.ref b)])) _
    refine XS.iloadN X4.here hx rfl (hb hby d6_7) rfl  ?_
    exact k)
  obtain ⟨cl7, Ar7, q7, S7, n7_, H7, G7⟩ := id A_b
  have hin7 : ¬ (p2 < 0 ∨ cl7.slots.size ≤ (p2).toNatClampNeg) := inb_of S7 ⟨hlo, hhi⟩
  have hat7 : cl7.slots[(p2).toNatClampNeg]? = some (.int x) := Has.at H7 hin7 hat
  have R8 : ∀ t, Steps p.tables e below (T4.setTop (mkF m 9 #[rv b, iv p2] [(.int x)])) t → Steps p.tables e below (s₁.setTop f0) t := fun t k => R6 t (X4.baloadBytes hx (j := p2) (v := (.int x)) (by rw [p4_0]; exact Ar7.1) (State.isArrayOf_alike hZ.alike Ar7.2.1) Ar7.2.2 hin7 hat7 (g := (mkF m 8 #[rv b, iv p2] [(.int p2), (.ref b)])) rfl rfl (hb hby d6_8) _ k)
  have R9 : ∀ t, Steps p.tables e below (T4.setTop (mkF m 14 #[rv b, iv p2] [(.int ((x &&& (255 : Int32)).toUInt32.toUInt16.toUInt32.toInt32))])) t → Steps p.tables e below (s₁.setTop f0) t := fun t k => R8 t (by
    show Steps p.tables e below (T4.setTop (mkF m 9 #[rv b, iv p2] [(.int x)])) _
    refine XS.sipush X4.here hx rfl (hb hby d6_9) ?_
    show Steps p.tables e below (T4.setTop (mkF m 12 #[rv b, iv p2] [(.int (255 : Int32)), (.int x)])) _
    refine XS.iand X4.here hx rfl (hb hby d6_12) rfl ?_
    show Steps p.tables e below (T4.setTop (mkF m 13 #[rv b, iv p2] [(.int (x &&& (255 : Int32)))])) _
    refine XS.i2c X4.here hx rfl (hb hby d6_13) rfl ?_
    exact k)
  obtain ⟨fs, hr, hrun, hended, hW, hsame⟩ := X4.leave (v := some (.int (nar .char ((x &&& (255 : Int32)).toUInt32.toUInt16.toUInt32.toInt32)))) (fun h => by rw [Bd.returns] at h; cases h)
  refine ⟨_, _, pre0 _ (R9 _ ?_), hrun, hended, _, _, rfl, ?_, ⟨_, rfl⟩, hW, hsame.mono (by decide) (by decide)⟩
  · show Steps p.tables e below (T4.setTop (mkF m 14 #[rv b, iv p2] [(.int ((x &&& (255 : Int32)).toUInt32.toUInt16.toUInt32.toInt32))])) _
    exact retN X4 hx (t := .char) Bd.returns (by simp) (hb hby d6_14) hr
  · show Q_rmLca Z b p2 k z vs dv x sf h0 n0 _ T4.heap _
    rw [p4_0]
    exact ⟨rfl, N4, rfl⟩
theorem ef_rmCa (m : MethodId) (x0 : Addr) (x1 : Int32) : entryFrame m #[(.ref x0), (.int x1)] 2 = mkF m 0 #[rv x0, iv x1] [] := by first | (simp [entryFrame, mkF, argsToLocals, Value.category]; done) | rfl
def Q_rmCa (Z : State) (a1 : Addr) (p2 : Int32) (b : Addr) (k : ClassId) (z : Int32) (vs : List Value) (dv : Value) (x : Int32) (cs : Int32) (sf : Value) (h0 : Heap) (n0 : Nat) (v : Option Value) (h : Heap) (L : List Loc) : Prop := v = some (.int (own_ch x)) ∧ Fr n0 L ∧ h = h0
set_option maxRecDepth 65536 in
set_option maxHeartbeats 40000000 in
theorem rmCa (l : Launch) (Z : State) (a0 : Array Value) (hw : ∀ d ∈ tables_1, d.before a0 Z = true) (ws : List Jvm.Cond) (a1 : Addr) (p2 : Int32) (b : Addr) (k : ClassId) (z : Int32) (vs : List Value) (dv : Value) (x : Int32) (cs : Int32) (sf : Value) (h0 : Heap) (n0 : Nat) (Z0 : n0 ≤ h0.size) (E_a1 : Exa Z h0 a1 "java/lang/String") (F_coder_a1 : Fld Z h0 a1 "java/lang/String" "coder" "B" (.int (0 : Int32))) (F_value_a1 : Fld Z h0 a1 "java/lang/String" "value" "[B" (.ref b)) (A_b : Arv Z h0 b k .byte z vs dv) (S_String_COMPACT_STRINGS : Sta Z h0 "java/lang/String" "COMPACT_STRINGS" "Z" (.int cs)) (hcs : ¬ cs = (0 : Int32)) (S_Preconditions_SIOOBE_FORMATTER : Sta Z h0 sN1 "SIOOBE_FORMATTER" "Ljava/util/function/BiFunction;" sf) (hsf : sf.isRef = true) (hlo : ¬ p2 < (0 : Int32)) (hhi : p2 < z) (hat : vs.getD (p2).toNatClampNeg dv = .int x) :
    MetFree l (⟨"java/lang/String", "charAt", "(I)C"⟩ : MethodName) (head1 (Jvm.Cond.code (⟨"java/lang/String", "charAt", "(I)C"⟩ : MethodName) jdk_42_method_56_code 2 (some .char) :: ws) ({ frames := 3, cells := 0, slots := 0, locals := 40 } : Room)) (fun a U => a = #[(.ref a1), (.int p2)] ∧ Z.Warmed39 U.vm ∧ U.heap = h0) (fun _ _ _ _ _ => True) (fun _ U o U' => ∃ v L, o = .returned v ∧ Q_rmCa Z a1 p2 b k z vs dv x cs sf h0 n0 v U'.heap L ∧ FrameEnd U o U' L ({ frames := 3, cells := 0, slots := 0, locals := 40 } : Room).cells ({ frames := 3, cells := 0, slots := 0, locals := 40 } : Room).slots) := by
  refine MetFree.of_bodySF (plainFor_of_name pn_0) hisR ?_
  intro p e s m args below meth c s₁ Bd hml0 hP hK
  obtain ⟨rfl, hZ, hh⟩ := hP
  have hx := Bd.exec
  have hby := Bd.bytes
  have hml : c.maxLocals = 2 := hml0
  have hown : s.vm.findClass "java/lang/String" = some m.cls := findClass_of_methodNamed Bd.named
  have hnm := (name_of_methodNamed Bd.named Bd.method).1
  have X0 : Stand p l e ({ frames := 3, cells := 0, slots := 0, locals := 40 } : Room) s m #[(.ref a1), (.int p2)] below meth c s₁ [] 0 0 := Stand.of_body Bd
  have e0 : s₁.heap = h0 := by rw [← hh, Bd.state]; rfl
  have N0 := Fr.nil n0
  obtain ⟨f0, hf0⟩ : ∃ f : JFrame, f = mkF m 0 #[rv a1, iv p2] [] := ⟨_, rfl⟩
  have pre0 : ∀ t, Steps p.tables e below (s₁.setTop f0) t → Steps p.tables e below (s₁.setTop (entryFrame m #[(.ref a1), (.int p2)] 2)) t := fun t k => castTop ((ef_rmCa m a1 p2).trans hf0.symm) k
  have R0 : ∀ t, Steps p.tables e below (s₁.setTop (mkF m 0 #[rv a1, iv p2] [])) t → Steps p.tables e below (s₁.setTop f0) t := by rw [hf0]; exact fun t k => k
  have R1 : ∀ t, Steps p.tables e below (s₁.setTop (mkF m 1 #[rv a1, iv p2] [(.ref a1)])) t → Steps p.tables e below (s₁.setTop f0) t := fun t k => R0 t (by
    show Steps p.tables e below (s₁.setTop (mkF m 0 #[rv a1, iv p2] [])) _
    refine XS.aloadN X0.here hx rfl (hb hby d4_0) rfl rfl ?_
    exact k)
  obtain ⟨cq2, kq2, q2a, q2b, q2c⟩ := isOf hZ e0 E_a1
  obtain ⟨_, _, ⟨T2, L2, k2, n2⟩, -, X2, ⟨Lc2, hQ2, l2, y2, z2⟩, st2⟩ := X0.virtualBack hx (y := (⟨"java/lang/String", "isLatin1", "()Z"⟩ : MethodName)) (z := (⟨"java/lang/String", "isLatin1", "()Z"⟩ : MethodName)) hown (mvT hZ (hw _ (List.mem_of_getElem? (i := 32) rfl))) (mvT hZ (hw _ (List.mem_of_getElem? (i := 33) rfl))) (notFace_of_selects (args := #[]) (mvT hZ (hw _ (List.mem_of_getElem? (i := 35) rfl)))) (mvT hZ (hw _ (List.mem_of_getElem? (i := 35) rfl))) (mvT hZ (hw _ (List.mem_of_getElem? (i := 34) rfl))) (by decide) (backOf (W := 0) (rmLat l Z a0 hw [] a1 cs h0 n0 Z0 S_String_COMPACT_STRINGS hcs F_coder_a1) hZ (hw _ (List.mem_of_getElem? (i := 36) rfl)) (hw _ (List.mem_of_getElem? (i := 15) rfl)) (by decide) (by decide)) q2a q2c (g := (mkF m 1 #[rv a1, iv p2] [(.ref a1)])) rfl (by rw [hml]; rfl) (Steps.refl _) (argsL := []) (rest := []) (lenOf pd_6 rfl) rfl (by show 2 * 0 + _ ≤ _; exact Nat.le_of_eq rfl) (hb hby d4_1) (fun _ _ => ⟨rfl, e0, (by decide : 0 + 0 ≤ _), (by decide : 0 + 0 ≤ _)⟩)
  dsimp only [Pt.U, Pt.locs, Pt.cells, Pt.slots] at X2 l2 y2 z2 st2 hQ2
  subst l2 y2 z2
  obtain ⟨rfl, N2q, p2_0⟩ := hQ2
  have N2 := Fr.app N0 N2q
  have R3 : ∀ t, Steps p.tables e below (T2.setTop (mkF m 4 #[rv a1, iv p2] [(.int (1 : Int32))])) t → Steps p.tables e below (s₁.setTop f0) t := fun t k => R1 t (st2.trans k)
  have R4 : ∀ t, Steps p.tables e below (T2.setTop (mkF m 8 #[rv a1, iv p2] [(.ref a1)])) t → Steps p.tables e below (s₁.setTop f0) t := fun t k => R3 t (by
    show Steps p.tables e below (T2.setTop (mkF m 4 #[rv a1, iv p2] [(.int (1 : Int32))])) _
    refine XS.ifNo X2.here hx rfl (hb hby d4_4) rfl ((if0 _ _).trans (feq (by decide : ¬ ((1 : Int32) = (0 : Int32)))).1) ?_
    show Steps p.tables e below (T2.setTop (mkF m 7 #[rv a1, iv p2] [])) _
    refine XS.aloadN X2.here hx rfl (hb hby d4_7) rfl rfl ?_
    exact k)
  obtain ⟨T5, X5, e5, st5⟩ := getF X2 hx hZ hown (host := "") (Or.inl (hw _ (List.mem_of_getElem? (i := 17) rfl))) Via.refl p2_0 F_value_a1 (g := (mkF m 8 #[rv a1, iv p2] [(.ref a1)])) rfl rfl (hb hby d4_8)
  have R6 : ∀ t, Steps p.tables e below (T5.setTop (mkF m 11 #[rv a1, iv p2] [(.ref b)])) t → Steps p.tables e below (s₁.setTop f0) t := fun t k => R4 t (st5 t k)
  have R7 : ∀ t, Steps p.tables e below (T5.setTop (mkF m 12 #[rv a1, iv p2] [(.int p2), (.ref b)])) t → Steps p.tables e below (s₁.setTop f0) t := fun t k => R6 t (by
    show Steps p.tables e below (T5.setTop (mkF m 11 #[rv a1, iv p2] [(.ref b)])) _
    refine XS.iloadN X5.here hx rfl (hb hby d4_11) rfl  ?_
    exact k)
  obtain ⟨_, _, ⟨T8, L8, k8, n8⟩, -, X8, ⟨Lc8, hQ8, l8, y8, z8⟩, st8⟩ := Jvm.LawKit.callS X5 hx (y := (⟨"java/lang/StringLatin1", "charAt", "([BI)C"⟩ : MethodName)) hown (mvT hZ (hw _ (List.mem_of_getElem? (i := 37) rfl))) (mvT hZ (hw _ (List.mem_of_getElem? (i := 38) rfl))) (mvT hZ (hw _ (List.mem_of_getElem? (i := 39) rfl))) (mvT hZ (hw _ (List.mem_of_getElem? (i := 40) rfl))) (by decide) (backOf (W := 0) (rmLca l Z a0 hw [] b p2 k z vs dv x sf h0 n0 Z0 A_b S_Preconditions_SIOOBE_FORMATTER hsf hlo hhi hat) hZ (hw _ (List.mem_of_getElem? (i := 40) rfl)) (hw _ (List.mem_of_getElem? (i := 39) rfl)) (by decide) (by decide)) (g := (mkF m 12 #[rv a1, iv p2] [(.int p2), (.ref b)])) rfl (by rw [hml]; rfl) (argsL := [(.ref b), (.int p2)]) (rest := []) (lenOf pd_7 rfl) rfl (by show 2 * 0 + _ ≤ _; exact Nat.le_of_eq rfl) (hb hby d4_12) (fun _ _ => ⟨rfl, e5, (by decide : 0 + 0 ≤ _), (by decide : 0 + 0 ≤ _)⟩)
  dsimp only [Pt.U, Pt.locs, Pt.cells, Pt.slots] at X8 l8 y8 z8 st8 hQ8
  subst l8 y8 z8
  obtain ⟨rfl, N8q, p8_0⟩ := hQ8
  have N8 := Fr.app N2 N8q
  have R9 : ∀ t, Steps p.tables e below (T8.setTop (mkF m 15 #[rv a1, iv p2] [(.int (own_ch x))])) t → Steps p.tables e below (s₁.setTop f0) t := fun t k => R7 t (st8 t k)
  obtain ⟨fs, hr, hrun, hended, hW, hsame⟩ := X8.leave (v := some (.int (nar .char (own_ch x)))) (fun h => by rw [Bd.returns] at h; cases h)
  refine ⟨_, _, pre0 _ (R9 _ ?_), hrun, hended, _, _, rfl, ?_, ⟨_, rfl⟩, hW, hsame.mono (by decide) (by decide)⟩
  · show Steps p.tables e below (T8.setTop (mkF m 15 #[rv a1, iv p2] [(.int (own_ch x))])) _
    exact retN X8 hx (t := .char) Bd.returns (by simp) (hb hby d4_15) hr
  · show Q_rmCa Z a1 p2 b k z vs dv x cs sf h0 n0 _ T8.heap _
    rw [p8_0]
    exact ⟨(by rw [own_chn]), N8, rfl⟩
theorem ef_rmCode (m : MethodId) (x0 : Addr) : entryFrame m #[(.ref x0)] 1 = mkF m 0 #[rv x0] [] := by first | (simp [entryFrame, mkF, argsToLocals, Value.category]; done) | rfl
def Q_rmCode (Z : State) (a1 : Addr) (cd : Addr) (h0 : Heap) (n0 : Nat) (v : Option Value) (h : Heap) (L : List Loc) : Prop := v = some (.ref cd) ∧ Fr n0 L ∧ h = h0
set_option maxRecDepth 65536 in
set_option maxHeartbeats 40000000 in
theorem rmCode (l : Launch) (Z : State) (a0 : Array Value) (hw : ∀ d ∈ tables_1, d.before a0 Z = true) (ws : List Jvm.Cond) (a1 : Addr) (cd : Addr) (h0 : Heap) (n0 : Nat) (Z0 : n0 ≤ h0.size) (F_code_a1 : Fld Z h0 a1 sN0 "code" "Ljava/lang/String;" (.ref cd)) :
    MetFree l (⟨sN0, "code", "()Ljava/lang/String;"⟩ : MethodName) (head1 (Jvm.Cond.code (⟨sN0, "code", "()Ljava/lang/String;"⟩ : MethodName) prog_4_method_4_code 1 (some (.object "java/lang/String")) :: ws) ({ frames := 0, cells := 0, slots := 0, locals := 0 } : Room)) (fun a U => a = #[(.ref a1)] ∧ Z.Warmed39 U.vm ∧ U.heap = h0) (fun _ _ _ _ _ => True) (fun _ U o U' => ∃ v L, o = .returned v ∧ Q_rmCode Z a1 cd h0 n0 v U'.heap L ∧ FrameEnd U o U' L ({ frames := 0, cells := 0, slots := 0, locals := 0 } : Room).cells ({ frames := 0, cells := 0, slots := 0, locals := 0 } : Room).slots) := by
  refine MetFree.of_bodySF (plainFor_of_name pn_8) hisR ?_
  intro p e s m args below meth c s₁ Bd hml0 hP hK
  obtain ⟨rfl, hZ, hh⟩ := hP
  have hx := Bd.exec
  have hby := Bd.bytes
  have hml : c.maxLocals = 1 := hml0
  have hown : s.vm.findClass sN0 = some m.cls := findClass_of_methodNamed Bd.named
  have hnm := (name_of_methodNamed Bd.named Bd.method).1
  have X0 : Stand p l e ({ frames := 0, cells := 0, slots := 0, locals := 0 } : Room) s m #[(.ref a1)] below meth c s₁ [] 0 0 := Stand.of_body Bd
  have e0 : s₁.heap = h0 := by rw [← hh, Bd.state]; rfl
  have N0 := Fr.nil n0
  obtain ⟨f0, hf0⟩ : ∃ f : JFrame, f = mkF m 0 #[rv a1] [] := ⟨_, rfl⟩
  have pre0 : ∀ t, Steps p.tables e below (s₁.setTop f0) t → Steps p.tables e below (s₁.setTop (entryFrame m #[(.ref a1)] 1)) t := fun t k => castTop ((ef_rmCode m a1).trans hf0.symm) k
  have R0 : ∀ t, Steps p.tables e below (s₁.setTop (mkF m 0 #[rv a1] [])) t → Steps p.tables e below (s₁.setTop f0) t := by rw [hf0]; exact fun t k => k
  have R1 : ∀ t, Steps p.tables e below (s₁.setTop (mkF m 1 #[rv a1] [(.ref a1)])) t → Steps p.tables e below (s₁.setTop f0) t := fun t k => R0 t (by
    show Steps p.tables e below (s₁.setTop (mkF m 0 #[rv a1] [])) _
    refine XS.aloadN X0.here hx rfl (hb hby d1_0) rfl rfl ?_
    exact k)
  obtain ⟨T2, X2, e2, st2⟩ := getF X0 hx hZ hown (host := "") (Or.inl (hw _ (List.mem_of_getElem? (i := 9) rfl))) Via.refl e0 F_code_a1 (g := (mkF m 1 #[rv a1] [(.ref a1)])) rfl rfl (hb hby d1_1)
  have R3 : ∀ t, Steps p.tables e below (T2.setTop (mkF m 4 #[rv a1] [(.ref cd)])) t → Steps p.tables e below (s₁.setTop f0) t := fun t k => R1 t (st2 t k)
  obtain ⟨fs, hr, hrun, hended, hW, hsame⟩ := X2.leave (v := some (.ref cd)) (fun h => by rw [Bd.returns] at h; cases h)
  refine ⟨_, _, pre0 _ (R3 _ ?_), hrun, hended, _, _, rfl, ?_, ⟨_, rfl⟩, hW, hsame.mono (by decide) (by decide)⟩
  · show Steps p.tables e below (T2.setTop (mkF m 4 #[rv a1] [(.ref cd)])) _
    exact retOut X2 hx (t := (.object "java/lang/String")) Bd.returns rfl (Or.inr (Or.inr (Or.inr (Or.inr ⟨rfl, rfl, rfl⟩)))) (hb hby d1_4) hr
  · show Q_rmCode Z a1 cd h0 n0 _ T2.heap _
    rw [e2]
    exact ⟨rfl, N0, rfl⟩
theorem ef_rmBills (m : MethodId) (x0 : Addr) : entryFrame m #[(.ref x0)] 1 = mkF m 0 #[rv x0] [] := by first | (simp [entryFrame, mkF, argsToLocals, Value.category]; done) | rfl
def Q_rmBills (Z : State) (a1 : Addr) (aS : Addr) (h0 : Heap) (n0 : Nat) (v : Option Value) (h : Heap) (L : List Loc) : Prop := v = some (.int (own_b (¬ (a1 = aS)))) ∧ Fr n0 L ∧ h = h0
set_option maxRecDepth 65536 in
set_option maxHeartbeats 40000000 in
theorem rmBills (l : Launch) (Z : State) (a0 : Array Value) (hw : ∀ d ∈ tables_1, d.before a0 Z = true) (ws : List Jvm.Cond) (a1 : Addr) (aS : Addr) (h0 : Heap) (n0 : Nat) (Z0 : n0 ≤ h0.size) (S_AddressType_SHIPPING : Sta Z h0 sN0 "SHIPPING" "Lcom/example/cartwright/cartwright/core/AddressType;" (.ref aS)) :
    MetFree l (⟨sN0, "bills", "()Z"⟩ : MethodName) (head1 (Jvm.Cond.code (⟨sN0, "bills", "()Z"⟩ : MethodName) prog_4_method_7_code 1 (some .boolean) :: ws) ({ frames := 0, cells := 0, slots := 0, locals := 0 } : Room)) (fun a U => a = #[(.ref a1)] ∧ Z.Warmed39 U.vm ∧ U.heap = h0) (fun _ _ _ _ _ => True) (fun _ U o U' => ∃ v L, o = .returned v ∧ Q_rmBills Z a1 aS h0 n0 v U'.heap L ∧ FrameEnd U o U' L ({ frames := 0, cells := 0, slots := 0, locals := 0 } : Room).cells ({ frames := 0, cells := 0, slots := 0, locals := 0 } : Room).slots) := by
  refine MetFree.of_bodySF (plainFor_of_name pn_8) hisR ?_
  intro p e s m args below meth c s₁ Bd hml0 hP hK
  obtain ⟨rfl, hZ, hh⟩ := hP
  have hx := Bd.exec
  have hby := Bd.bytes
  have hml : c.maxLocals = 1 := hml0
  have hown : s.vm.findClass sN0 = some m.cls := findClass_of_methodNamed Bd.named
  have hnm := (name_of_methodNamed Bd.named Bd.method).1
  have X0 : Stand p l e ({ frames := 0, cells := 0, slots := 0, locals := 0 } : Room) s m #[(.ref a1)] below meth c s₁ [] 0 0 := Stand.of_body Bd
  have e0 : s₁.heap = h0 := by rw [← hh, Bd.state]; rfl
  have N0 := Fr.nil n0
  obtain ⟨f0, hf0⟩ : ∃ f : JFrame, f = mkF m 0 #[rv a1] [] := ⟨_, rfl⟩
  have pre0 : ∀ t, Steps p.tables e below (s₁.setTop f0) t → Steps p.tables e below (s₁.setTop (entryFrame m #[(.ref a1)] 1)) t := fun t k => castTop ((ef_rmBills m a1).trans hf0.symm) k
  have R0 : ∀ t, Steps p.tables e below (s₁.setTop (mkF m 0 #[rv a1] [])) t → Steps p.tables e below (s₁.setTop f0) t := by rw [hf0]; exact fun t k => k
  have R1 : ∀ t, Steps p.tables e below (s₁.setTop (mkF m 1 #[rv a1] [(.ref a1)])) t → Steps p.tables e below (s₁.setTop f0) t := fun t k => R0 t (by
    show Steps p.tables e below (s₁.setTop (mkF m 0 #[rv a1] [])) _
    refine XS.aloadN X0.here hx rfl (hb hby d9_0) rfl rfl ?_
    exact k)
  obtain ⟨T2, X2, e2, st2⟩ := getS2 X0 hx hZ hown (host := "") (Or.inl (hw _ (List.mem_of_getElem? (i := 54) rfl))) Via.refl e0 S_AddressType_SHIPPING (g := (mkF m 1 #[rv a1] [(.ref a1)])) rfl (hb hby d9_1)
  have R3 : ∀ t, Steps p.tables e below (T2.setTop (mkF m 4 #[rv a1] [(.ref aS), (.ref a1)])) t → Steps p.tables e below (s₁.setTop f0) t := fun t k => R1 t (st2 t k)
  by_cases hs1 : a1 = aS
  · skip
    have R4 : ∀ t, Steps p.tables e below (T2.setTop (mkF m 12 #[rv a1] [(.int (0 : Int32))])) t → Steps p.tables e below (s₁.setTop f0) t := fun t k => R3 t (by
      show Steps p.tables e below (T2.setTop (mkF m 4 #[rv a1] [(.ref aS), (.ref a1)])) _
      refine Jvm.RoadKit.acmp (g := (mkF m 4 #[rv a1] [(.ref aS), (.ref a1)])) X2 hx rfl rfl rfl (pc0 := 4) (pc' := 11) (same := true) rfl (hb hby d9_4) rfl (decide_eq_true (congrArg Value.ref hs1)) (by decide) (by decide) ?_
      show Steps p.tables e below (T2.setTop (mkF m 11 #[rv a1] [])) _
      refine XS.iconst X2.here hx rfl (hb hby d9_11) ?_
      exact k)
    obtain ⟨fs, hr, hrun, hended, hW, hsame⟩ := X2.leave (v := some (.int (0 : Int32))) (fun h => by rw [Bd.returns] at h; cases h)
    refine ⟨_, _, pre0 _ (R4 _ ?_), hrun, hended, _, _, rfl, ?_, ⟨_, rfl⟩, hW, hsame.mono (by decide) (by decide)⟩
    · show Steps p.tables e below (T2.setTop (mkF m 12 #[rv a1] [(.int (0 : Int32))])) _
      exact retN X2 hx (t := .boolean) Bd.returns (by simp) (hb hby d9_12) hr
    · show Q_rmBills Z a1 aS h0 n0 _ T2.heap _
      rw [e2]
      exact ⟨(by (try simp only [lw_gt, lw_lt, lw_eq] at hs1); simp [own_b, hs1]), N0, rfl⟩
  · skip
    have R5 : ∀ t, Steps p.tables e below (T2.setTop (mkF m 12 #[rv a1] [(.int (1 : Int32))])) t → Steps p.tables e below (s₁.setTop f0) t := fun t k => R3 t (by
      show Steps p.tables e below (T2.setTop (mkF m 4 #[rv a1] [(.ref aS), (.ref a1)])) _
      refine Jvm.RoadKit.acmp (g := (mkF m 4 #[rv a1] [(.ref aS), (.ref a1)])) X2 hx rfl rfl rfl (pc0 := 4) (pc' := 7) (same := false) rfl (hb hby d9_4) rfl (decide_eq_false fun q => hs1 (Value.ref.inj q)) (by decide) (by decide) ?_
      show Steps p.tables e below (T2.setTop (mkF m 7 #[rv a1] [])) _
      refine XS.iconst X2.here hx rfl (hb hby d9_7) ?_
      show Steps p.tables e below (T2.setTop (mkF m 8 #[rv a1] [(.int (1 : Int32))])) _
      refine XS.goto X2.here hx rfl (pc0 := 8) (pc' := 12) rfl (hb hby d9_8) (by decide) (by decide) ?_
      exact k)
    obtain ⟨fs, hr, hrun, hended, hW, hsame⟩ := X2.leave (v := some (.int (1 : Int32))) (fun h => by rw [Bd.returns] at h; cases h)
    refine ⟨_, _, pre0 _ (R5 _ ?_), hrun, hended, _, _, rfl, ?_, ⟨_, rfl⟩, hW, hsame.mono (by decide) (by decide)⟩
    · show Steps p.tables e below (T2.setTop (mkF m 12 #[rv a1] [(.int (1 : Int32))])) _
      exact retN X2 hx (t := .boolean) Bd.returns (by simp) (hb hby d9_12) hr
    · show Q_rmBills Z a1 aS h0 n0 _ T2.heap _
      rw [e2]
      exact ⟨(by (try simp only [lw_gt, lw_lt, lw_eq] at hs1); simp [own_b, hs1]), N0, rfl⟩
theorem ef_rmLaw (m : MethodId) (x0 : Int32) : entryFrame m #[(.int x0)] maxLocals = mkF m 0 #[iv x0, .unset, .unset, .unset, .unset, .unset, .unset] [] := by first | (simp [entryFrame, mkF, argsToLocals, Value.category, maxLocals]; done) | rfl
def Q_rmLaw (Z : State) (p0 : Int32) (cs : Int32) (sf : Value) (aS : Addr) (cS : Addr) (bS : Addr) (kS : ClassId) (aB : Addr) (cB : Addr) (bB : Addr) (kB : ClassId) (aC : Addr) (cC : Addr) (bC : Addr) (kC : ClassId) (h0 : Heap) (n0 : Nat) (v : Option Value) (h : Heap) (L : List Loc) : Prop := v = some (.int (1 : Int32)) ∧ Fr n0 L
set_option maxRecDepth 65536 in
set_option maxHeartbeats 40000000 in
theorem rmLaw (l : Launch) (Z : State) (a0 : Array Value) (hw : ∀ d ∈ tables_1, d.before a0 Z = true) (ws : List Jvm.Cond) (p0 : Int32) (cs : Int32) (sf : Value) (aS : Addr) (cS : Addr) (bS : Addr) (kS : ClassId) (aB : Addr) (cB : Addr) (bB : Addr) (kB : ClassId) (aC : Addr) (cC : Addr) (bC : Addr) (kC : ClassId) (h0 : Heap) (n0 : Nat) (Z0 : n0 ≤ h0.size) (S_String_COMPACT_STRINGS : Sta Z h0 "java/lang/String" "COMPACT_STRINGS" "Z" (.int cs)) (hcs : ¬ cs = (0 : Int32)) (S_Preconditions_SIOOBE_FORMATTER : Sta Z h0 sN1 "SIOOBE_FORMATTER" "Ljava/util/function/BiFunction;" sf) (hsf : sf.isRef = true) (S_AddressType_SHIPPING : Sta Z h0 sN0 "SHIPPING" "Lcom/example/cartwright/cartwright/core/AddressType;" (.ref aS)) (E_aS : Exa Z h0 aS sN0) (F_code_aS : Fld Z h0 aS sN0 "code" "Ljava/lang/String;" (.ref cS)) (E_cS : Exa Z h0 cS "java/lang/String") (F_coder_cS : Fld Z h0 cS "java/lang/String" "coder" "B" (.int (0 : Int32))) (F_value_cS : Fld Z h0 cS "java/lang/String" "value" "[B" (.ref bS)) (A_bS : Arv Z h0 bS kS .byte (1 : Int32) [(.int (83 : Int32))] (.int (0 : Int32))) (S_AddressType_BILLING : Sta Z h0 sN0 "BILLING" "Lcom/example/cartwright/cartwright/core/AddressType;" (.ref aB)) (E_aB : Exa Z h0 aB sN0) (F_code_aB : Fld Z h0 aB sN0 "code" "Ljava/lang/String;" (.ref cB)) (E_cB : Exa Z h0 cB "java/lang/String") (F_coder_cB : Fld Z h0 cB "java/lang/String" "coder" "B" (.int (0 : Int32))) (F_value_cB : Fld Z h0 cB "java/lang/String" "value" "[B" (.ref bB)) (A_bB : Arv Z h0 bB kB .byte (1 : Int32) [(.int (66 : Int32))] (.int (0 : Int32))) (S_AddressType_SHIPPING_AND_BILLING : Sta Z h0 sN0 "SHIPPING_AND_BILLING" "Lcom/example/cartwright/cartwright/core/AddressType;" (.ref aC)) (E_aC : Exa Z h0 aC sN0) (F_code_aC : Fld Z h0 aC sN0 "code" "Ljava/lang/String;" (.ref cC)) (E_cC : Exa Z h0 cC "java/lang/String") (F_coder_cC : Fld Z h0 cC "java/lang/String" "coder" "B" (.int (0 : Int32))) (F_value_cC : Fld Z h0 cC "java/lang/String" "value" "[B" (.ref bC)) (A_bC : Arv Z h0 bC kC .byte (2 : Int32) [(.int (83 : Int32)), (.int (66 : Int32))] (.int (0 : Int32))) (ne_aB_aS : aB ≠ aS) (ne_aC_aS : aC ≠ aS) :
    MetFree l x (head1 (Jvm.Cond.code x code maxLocals ret :: ws) room_1) (fun a U => a = #[(.int p0)] ∧ Z.Warmed39 U.vm ∧ U.heap = h0) (fun _ _ _ _ _ => True) (fun _ U o U' => ∃ v L, o = .returned v ∧ Q_rmLaw Z p0 cs sf aS cS bS kS aB cB bB kB aC cC bC kC h0 n0 v U'.heap L ∧ FrameEnd U o U' L room_1.cells room_1.slots) := by
  refine MetFree.of_bodySF (plainFor_of_name pn_9) hisR ?_
  intro p e s m args below meth c s₁ Bd hml0 hP hK
  obtain ⟨rfl, hZ, hh⟩ := hP
  have hx := Bd.exec
  have hby := Bd.bytes
  have hml : c.maxLocals = 7 := hml0
  have hown : s.vm.findClass "com/example/cartwright/cartwright/core/AddressTypeBillsPinLaw" = some m.cls := findClass_of_methodNamed Bd.named
  have hnm := (name_of_methodNamed Bd.named Bd.method).1
  have X0 : Stand p l e room_1 s m #[(.int p0)] below meth c s₁ [] 0 0 := Stand.of_body Bd
  have e0 : s₁.heap = h0 := by rw [← hh, Bd.state]; rfl
  have N0 := Fr.nil n0
  obtain ⟨f0, hf0⟩ : ∃ f : JFrame, f = mkF m 0 #[iv p0, .unset, .unset, .unset, .unset, .unset, .unset] [] := ⟨_, rfl⟩
  have pre0 : ∀ t, Steps p.tables e below (s₁.setTop f0) t → Steps p.tables e below (s₁.setTop (entryFrame m #[(.int p0)] maxLocals)) t := fun t k => castTop ((ef_rmLaw m p0).trans hf0.symm) k
  have R0 : ∀ t, Steps p.tables e below (s₁.setTop (mkF m 0 #[iv p0, .unset, .unset, .unset, .unset, .unset, .unset] [])) t → Steps p.tables e below (s₁.setTop f0) t := by rw [hf0]; exact fun t k => k
  have R1 : ∀ t, Steps p.tables e below (s₁.setTop (mkF m 6 #[iv p0, .unset, .unset, .unset, .unset, .unset, .unset] [(.int ((p0 &&& (2147483647 : Int32)) % (3 : Int32)))])) t → Steps p.tables e below (s₁.setTop f0) t := fun t k => R0 t (by
    show Steps p.tables e below (s₁.setTop (mkF m 0 #[iv p0, .unset, .unset, .unset, .unset, .unset, .unset] [])) _
    refine XS.iloadN X0.here hx rfl (hb hby at_0) rfl  ?_
    show Steps p.tables e below (s₁.setTop (mkF m 1 #[iv p0, .unset, .unset, .unset, .unset, .unset, .unset] [(.int p0)])) _
    refine X0.ldcInt hx hown (mvT hZ (hw _ (List.mem_of_getElem? (i := 0) rfl))) (g := (mkF m 1 #[iv p0, .unset, .unset, .unset, .unset, .unset, .unset] [(.int p0)])) rfl (hb hby at_1) _ ?_
    show Steps p.tables e below (s₁.setTop (mkF m 3 #[iv p0, .unset, .unset, .unset, .unset, .unset, .unset] [(.int (2147483647 : Int32)), (.int p0)])) _
    refine XS.iand X0.here hx rfl (hb hby at_3) rfl ?_
    show Steps p.tables e below (s₁.setTop (mkF m 4 #[iv p0, .unset, .unset, .unset, .unset, .unset, .unset] [(.int (p0 &&& (2147483647 : Int32)))])) _
    refine XS.iconst X0.here hx rfl (hb hby at_4) ?_
    show Steps p.tables e below (s₁.setTop (mkF m 5 #[iv p0, .unset, .unset, .unset, .unset, .unset, .unset] [(.int (3 : Int32)), (.int (p0 &&& (2147483647 : Int32)))])) _
    refine iremM X0 hx rfl (hb hby at_5) rfl (by decide) ?_
    exact k)
  obtain ⟨i, e_i⟩ : ∃ z : Int32, z = ((p0 &&& (2147483647 : Int32)) % (3 : Int32)) := ⟨_, rfl⟩
  have R2 : ∀ t, Steps p.tables e below (s₁.setTop (mkF m 6 #[iv p0, .unset, .unset, .unset, .unset, .unset, .unset] [(.int i)])) t → Steps p.tables e below (s₁.setTop f0) t := by have q := R1; rw [← e_i] at q; exact q
  have R3 : ∀ t, Steps p.tables e below (s₁.setTop (mkF m 8 #[iv p0, iv i, .unset, .unset, .unset, .unset, .unset] [(.int i)])) t → Steps p.tables e below (s₁.setTop f0) t := fun t k => R2 t (by
    show Steps p.tables e below (s₁.setTop (mkF m 6 #[iv p0, .unset, .unset, .unset, .unset, .unset, .unset] [(.int i)])) _
    refine XS.istoreN X0.here hx rfl (hb hby at_6) rfl (l' := #[iv p0, iv i, .unset, .unset, .unset, .unset, .unset]) rfl ?_
    show Steps p.tables e below (s₁.setTop (mkF m 7 #[iv p0, iv i, .unset, .unset, .unset, .unset, .unset] [])) _
    refine XS.iloadN X0.here hx rfl (hb hby at_7) rfl  ?_
    exact k)
  by_cases hs1 : i = (0 : Int32)
  · skip
    have R4 : ∀ t, Steps p.tables e below (s₁.setTop (mkF m 11 #[iv p0, iv i, .unset, .unset, .unset, .unset, .unset] [])) t → Steps p.tables e below (s₁.setTop f0) t := fun t k => R3 t (by
      show Steps p.tables e below (s₁.setTop (mkF m 8 #[iv p0, iv i, .unset, .unset, .unset, .unset, .unset] [(.int i)])) _
      refine XS.ifNo X0.here hx rfl (hb hby at_8) rfl ((if0 _ _).trans (teq hs1).2) ?_
      exact k)
    obtain ⟨T5, X5, e5, st5⟩ := getS2 X0 hx hZ hown (host := "") (Or.inl (hw _ (List.mem_of_getElem? (i := 1) rfl))) Via.refl e0 S_AddressType_SHIPPING (g := (mkF m 11 #[iv p0, iv i, .unset, .unset, .unset, .unset, .unset] [])) rfl (hb hby at_11)
    have R6 : ∀ t, Steps p.tables e below (T5.setTop (mkF m 14 #[iv p0, iv i, .unset, .unset, .unset, .unset, .unset] [(.ref aS)])) t → Steps p.tables e below (s₁.setTop f0) t := fun t k => R4 t (st5 t k)
    have R7 : ∀ t, Steps p.tables e below (T5.setTop (mkF m 41 #[iv p0, iv i, rv aS, iv (0 : Int32), .unset, .unset, .unset] [(.ref aS)])) t → Steps p.tables e below (s₁.setTop f0) t := fun t k => R6 t (by
      show Steps p.tables e below (T5.setTop (mkF m 14 #[iv p0, iv i, .unset, .unset, .unset, .unset, .unset] [(.ref aS)])) _
      refine XS.astoreN X5.here hx rfl (hb hby at_14) rfl rfl (l' := #[iv p0, iv i, rv aS, .unset, .unset, .unset, .unset]) rfl ?_
      show Steps p.tables e below (T5.setTop (mkF m 15 #[iv p0, iv i, rv aS, .unset, .unset, .unset, .unset] [])) _
      refine XS.iconst X5.here hx rfl (hb hby at_15) ?_
      show Steps p.tables e below (T5.setTop (mkF m 16 #[iv p0, iv i, rv aS, .unset, .unset, .unset, .unset] [(.int (0 : Int32))])) _
      refine XS.istoreN X5.here hx rfl (hb hby at_16) rfl (l' := #[iv p0, iv i, rv aS, iv (0 : Int32), .unset, .unset, .unset]) rfl ?_
      show Steps p.tables e below (T5.setTop (mkF m 17 #[iv p0, iv i, rv aS, iv (0 : Int32), .unset, .unset, .unset] [])) _
      refine XS.goto X5.here hx rfl (pc0 := 17) (pc' := 40) rfl (hb hby at_17) (by decide) (by decide) ?_
      show Steps p.tables e below (T5.setTop (mkF m 40 #[iv p0, iv i, rv aS, iv (0 : Int32), .unset, .unset, .unset] [])) _
      refine XS.aloadN X5.here hx rfl (hb hby at_40) rfl rfl ?_
      exact k)
    obtain ⟨cq8, kq8, q8a, q8b, q8c⟩ := isOf hZ e5 E_aS
    obtain ⟨_, _, ⟨T8, L8, k8, n8⟩, -, X8, ⟨Lc8, hQ8, l8, y8, z8⟩, st8⟩ := X5.virtualBack hx (y := (⟨sN0, "code", "()Ljava/lang/String;"⟩ : MethodName)) (z := (⟨sN0, "code", "()Ljava/lang/String;"⟩ : MethodName)) hown (mvT hZ (hw _ (List.mem_of_getElem? (i := 4) rfl))) (mvT hZ (hw _ (List.mem_of_getElem? (i := 5) rfl))) (notFace_of_selects (args := #[]) (mvT hZ (hw _ (List.mem_of_getElem? (i := 7) rfl)))) (mvT hZ (hw _ (List.mem_of_getElem? (i := 7) rfl))) (mvT hZ (hw _ (List.mem_of_getElem? (i := 6) rfl))) (by decide) (backOf (W := 0) (rmCode l Z a0 hw [] aS cS h0 n0 Z0 F_code_aS) hZ (hw _ (List.mem_of_getElem? (i := 8) rfl)) (hw _ (List.mem_of_getElem? (i := 2) rfl)) (by decide) (by decide)) q8a q8c (g := (mkF m 41 #[iv p0, iv i, rv aS, iv (0 : Int32), .unset, .unset, .unset] [(.ref aS)])) rfl (by rw [hml]; rfl) (Steps.refl _) (argsL := []) (rest := []) (lenOf pd_10 rfl) rfl (by show 2 * 0 + _ ≤ _; exact Nat.le_of_eq rfl) (hb hby at_41) (fun _ _ => ⟨rfl, e5, (by decide : 0 + 0 ≤ _), (by decide : 0 + 0 ≤ _)⟩)
    dsimp only [Pt.U, Pt.locs, Pt.cells, Pt.slots] at X8 l8 y8 z8 st8 hQ8
    subst l8 y8 z8
    obtain ⟨rfl, N8q, p8_0⟩ := hQ8
    have N8 := Fr.app N0 N8q
    have R9 : ∀ t, Steps p.tables e below (T8.setTop (mkF m 44 #[iv p0, iv i, rv aS, iv (0 : Int32), .unset, .unset, .unset] [(.ref cS)])) t → Steps p.tables e below (s₁.setTop f0) t := fun t k => R7 t (st8.trans k)
    have R10 : ∀ t, Steps p.tables e below (T8.setTop (mkF m 48 #[iv p0, iv i, rv aS, iv (0 : Int32), rv cS, .unset, .unset] [(.ref cS)])) t → Steps p.tables e below (s₁.setTop f0) t := fun t k => R9 t (by
      show Steps p.tables e below (T8.setTop (mkF m 44 #[iv p0, iv i, rv aS, iv (0 : Int32), .unset, .unset, .unset] [(.ref cS)])) _
      refine XS.astore X8.here hx rfl (hb hby at_44) rfl rfl (l' := #[iv p0, iv i, rv aS, iv (0 : Int32), rv cS, .unset, .unset]) rfl ?_
      show Steps p.tables e below (T8.setTop (mkF m 46 #[iv p0, iv i, rv aS, iv (0 : Int32), rv cS, .unset, .unset] [])) _
      refine XS.aload X8.here hx rfl (hb hby at_46) rfl rfl ?_
      exact k)
    obtain ⟨cq11, kq11, q11a, q11b, q11c⟩ := isOf hZ p8_0 E_cS
    obtain ⟨_, _, ⟨T11, L11, k11, n11⟩, -, X11, ⟨Lc11, hQ11, l11, y11, z11⟩, st11⟩ := X8.virtualBack hx (y := (⟨"java/lang/String", "length", "()I"⟩ : MethodName)) (z := (⟨"java/lang/String", "length", "()I"⟩ : MethodName)) hown (mvT hZ (hw _ (List.mem_of_getElem? (i := 11) rfl))) (mvT hZ (hw _ (List.mem_of_getElem? (i := 12) rfl))) (notFace_of_selects (args := #[]) (mvT hZ (hw _ (List.mem_of_getElem? (i := 14) rfl)))) (mvT hZ (hw _ (List.mem_of_getElem? (i := 14) rfl))) (mvT hZ (hw _ (List.mem_of_getElem? (i := 13) rfl))) (by decide) (backOf (W := 0) (rmLen l Z a0 hw [] cS bS kS (1 : Int32) [(.int (83 : Int32))] (.int (0 : Int32)) cs h0 n0 Z0 E_cS F_coder_cS F_value_cS A_bS S_String_COMPACT_STRINGS hcs) hZ (hw _ (List.mem_of_getElem? (i := 16) rfl)) (hw _ (List.mem_of_getElem? (i := 15) rfl)) (by decide) (by decide)) q11a q11c (g := (mkF m 48 #[iv p0, iv i, rv aS, iv (0 : Int32), rv cS, .unset, .unset] [(.ref cS)])) rfl (by rw [hml]; rfl) (Steps.refl _) (argsL := []) (rest := []) (lenOf pd_11 rfl) rfl (by show 2 * 0 + _ ≤ _; exact Nat.le_of_eq rfl) (hb hby at_48) (fun _ _ => ⟨rfl, p8_0, (by decide : 0 + 0 ≤ _), (by decide : 0 + 0 ≤ _)⟩)
    dsimp only [Pt.U, Pt.locs, Pt.cells, Pt.slots] at X11 l11 y11 z11 st11 hQ11
    subst l11 y11 z11
    obtain ⟨rfl, N11q, p11_0⟩ := hQ11
    have N11 := Fr.app N8 N11q
    have R12 : ∀ t, Steps p.tables e below (T11.setTop (mkF m 51 #[iv p0, iv i, rv aS, iv (0 : Int32), rv cS, .unset, .unset] [(.int ((1 : Int32) >>> ((0 : Int32) &&& 31)))])) t → Steps p.tables e below (s₁.setTop f0) t := fun t k => R10 t (st11.trans k)
    have R13 : ∀ t, Steps p.tables e below (T11.setTop (mkF m 51 #[iv p0, iv i, rv aS, iv (0 : Int32), rv cS, .unset, .unset] [(.int (1 : Int32))])) t → Steps p.tables e below (s₁.setTop f0) t := by have q := R12; rw [((by decide) : ((1 : Int32) >>> ((0 : Int32) &&& 31)) = (1 : Int32))] at q; exact q
    have R14 : ∀ t, Steps p.tables e below (T11.setTop (mkF m 58 #[iv p0, iv i, rv aS, iv (0 : Int32), rv cS, .unset, .unset] [(.ref cS), (.ref cS)])) t → Steps p.tables e below (s₁.setTop f0) t := fun t k => R13 t (by
      show Steps p.tables e below (T11.setTop (mkF m 51 #[iv p0, iv i, rv aS, iv (0 : Int32), rv cS, .unset, .unset] [(.int (1 : Int32))])) _
      refine XS.ifNo X11.here hx rfl (hb hby at_51) rfl ((if0 _ _).trans (tlt (by decide : (0 : Int32) < (1 : Int32))).2.2.2) ?_
      show Steps p.tables e below (T11.setTop (mkF m 54 #[iv p0, iv i, rv aS, iv (0 : Int32), rv cS, .unset, .unset] [])) _
      refine XS.aload X11.here hx rfl (hb hby at_54) rfl rfl ?_
      show Steps p.tables e below (T11.setTop (mkF m 56 #[iv p0, iv i, rv aS, iv (0 : Int32), rv cS, .unset, .unset] [(.ref cS)])) _
      refine XS.aload X11.here hx rfl (hb hby at_56) rfl rfl ?_
      exact k)
    obtain ⟨cq15, kq15, q15a, q15b, q15c⟩ := isOf hZ p11_0 E_cS
    obtain ⟨_, _, ⟨T15, L15, k15, n15⟩, -, X15, ⟨Lc15, hQ15, l15, y15, z15⟩, st15⟩ := X11.virtualBack hx (y := (⟨"java/lang/String", "length", "()I"⟩ : MethodName)) (z := (⟨"java/lang/String", "length", "()I"⟩ : MethodName)) hown (mvT hZ (hw _ (List.mem_of_getElem? (i := 11) rfl))) (mvT hZ (hw _ (List.mem_of_getElem? (i := 12) rfl))) (notFace_of_selects (args := #[]) (mvT hZ (hw _ (List.mem_of_getElem? (i := 14) rfl)))) (mvT hZ (hw _ (List.mem_of_getElem? (i := 14) rfl))) (mvT hZ (hw _ (List.mem_of_getElem? (i := 13) rfl))) (by decide) (backOf (W := 1) (rmLen l Z a0 hw [] cS bS kS (1 : Int32) [(.int (83 : Int32))] (.int (0 : Int32)) cs h0 n0 Z0 E_cS F_coder_cS F_value_cS A_bS S_String_COMPACT_STRINGS hcs) hZ (hw _ (List.mem_of_getElem? (i := 16) rfl)) (hw _ (List.mem_of_getElem? (i := 15) rfl)) (by decide) (by decide)) q15a q15c (g := (mkF m 58 #[iv p0, iv i, rv aS, iv (0 : Int32), rv cS, .unset, .unset] [(.ref cS), (.ref cS)])) rfl (by rw [hml]; rfl) (Steps.refl _) (argsL := []) (rest := [(.ref cS)]) (lenOf pd_11 rfl) rfl (by show 2 * 0 + _ ≤ _; exact Nat.le_of_eq rfl) (hb hby at_58) (fun _ _ => ⟨rfl, p11_0, (by decide : 0 + 0 ≤ _), (by decide : 0 + 0 ≤ _)⟩)
    dsimp only [Pt.U, Pt.locs, Pt.cells, Pt.slots] at X15 l15 y15 z15 st15 hQ15
    subst l15 y15 z15
    obtain ⟨rfl, N15q, p15_0⟩ := hQ15
    have N15 := Fr.app N11 N15q
    have R16 : ∀ t, Steps p.tables e below (T15.setTop (mkF m 61 #[iv p0, iv i, rv aS, iv (0 : Int32), rv cS, .unset, .unset] [(.int ((1 : Int32) >>> ((0 : Int32) &&& 31))), (.ref cS)])) t → Steps p.tables e below (s₁.setTop f0) t := fun t k => R14 t (st15.trans k)
    have R17 : ∀ t, Steps p.tables e below (T15.setTop (mkF m 61 #[iv p0, iv i, rv aS, iv (0 : Int32), rv cS, .unset, .unset] [(.int (1 : Int32)), (.ref cS)])) t → Steps p.tables e below (s₁.setTop f0) t := by have q := R16; rw [((by decide) : ((1 : Int32) >>> ((0 : Int32) &&& 31)) = (1 : Int32))] at q; exact q
    have R18 : ∀ t, Steps p.tables e below (T15.setTop (mkF m 63 #[iv p0, iv i, rv aS, iv (0 : Int32), rv cS, .unset, .unset] [(.int (0 : Int32)), (.ref cS)])) t → Steps p.tables e below (s₁.setTop f0) t := fun t k => R17 t (by
      show Steps p.tables e below (T15.setTop (mkF m 61 #[iv p0, iv i, rv aS, iv (0 : Int32), rv cS, .unset, .unset] [(.int (1 : Int32)), (.ref cS)])) _
      refine XS.iconst X15.here hx rfl (hb hby at_61) ?_
      show Steps p.tables e below (T15.setTop (mkF m 62 #[iv p0, iv i, rv aS, iv (0 : Int32), rv cS, .unset, .unset] [(.int (1 : Int32)), (.int (1 : Int32)), (.ref cS)])) _
      refine XS.isub X15.here hx rfl (hb hby at_62) rfl ?_
      exact k)
    obtain ⟨cq19, kq19, q19a, q19b, q19c⟩ := isOf hZ p15_0 E_cS
    obtain ⟨_, _, ⟨T19, L19, k19, n19⟩, -, X19, ⟨Lc19, hQ19, l19, y19, z19⟩, st19⟩ := X15.virtualBack hx (y := (⟨"java/lang/String", "charAt", "(I)C"⟩ : MethodName)) (z := (⟨"java/lang/String", "charAt", "(I)C"⟩ : MethodName)) hown (mvT hZ (hw _ (List.mem_of_getElem? (i := 27) rfl))) (mvT hZ (hw _ (List.mem_of_getElem? (i := 28) rfl))) (notFace_of_selects (args := #[]) (mvT hZ (hw _ (List.mem_of_getElem? (i := 30) rfl)))) (mvT hZ (hw _ (List.mem_of_getElem? (i := 30) rfl))) (mvT hZ (hw _ (List.mem_of_getElem? (i := 29) rfl))) (by decide) (backOf (W := 0) (rmCa l Z a0 hw [] cS (0 : Int32) bS kS (1 : Int32) [(.int (83 : Int32))] (.int (0 : Int32)) (83 : Int32) cs sf h0 n0 Z0 E_cS F_coder_cS F_value_cS A_bS S_String_COMPACT_STRINGS hcs S_Preconditions_SIOOBE_FORMATTER hsf (by decide) (by decide) rfl) hZ (hw _ (List.mem_of_getElem? (i := 31) rfl)) (hw _ (List.mem_of_getElem? (i := 15) rfl)) (by decide) (by decide)) q19a q19c (g := (mkF m 63 #[iv p0, iv i, rv aS, iv (0 : Int32), rv cS, .unset, .unset] [(.int (0 : Int32)), (.ref cS)])) rfl (by rw [hml]; rfl) (Steps.refl _) (argsL := [(.int (0 : Int32))]) (rest := []) (lenOf pd_12 rfl) rfl (by show 2 * 0 + _ ≤ _; exact Nat.le_of_eq rfl) (hb hby at_63) (fun _ _ => ⟨rfl, p15_0, (by decide : 0 + 0 ≤ _), (by decide : 0 + 0 ≤ _)⟩)
    dsimp only [Pt.U, Pt.locs, Pt.cells, Pt.slots] at X19 l19 y19 z19 st19 hQ19
    subst l19 y19 z19
    obtain ⟨rfl, N19q, p19_0⟩ := hQ19
    have N19 := Fr.app N15 N19q
    have R20 : ∀ t, Steps p.tables e below (T19.setTop (mkF m 66 #[iv p0, iv i, rv aS, iv (0 : Int32), rv cS, .unset, .unset] [(.int (own_ch (83 : Int32)))])) t → Steps p.tables e below (s₁.setTop f0) t := fun t k => R18 t (st19.trans k)
    have R21 : ∀ t, Steps p.tables e below (T19.setTop (mkF m 66 #[iv p0, iv i, rv aS, iv (0 : Int32), rv cS, .unset, .unset] [(.int (83 : Int32))])) t → Steps p.tables e below (s₁.setTop f0) t := by have q := R20; rw [((by decide) : (own_ch (83 : Int32)) = (83 : Int32))] at q; exact q
    have R22 : ∀ t, Steps p.tables e below (T19.setTop (mkF m 79 #[iv p0, iv i, rv aS, iv (0 : Int32), rv cS, iv (0 : Int32), .unset] [(.ref aS)])) t → Steps p.tables e below (s₁.setTop f0) t := fun t k => R21 t (by
      show Steps p.tables e below (T19.setTop (mkF m 66 #[iv p0, iv i, rv aS, iv (0 : Int32), rv cS, .unset, .unset] [(.int (83 : Int32))])) _
      refine XS.bipush X19.here hx rfl (hb hby at_66) ?_
      show Steps p.tables e below (T19.setTop (mkF m 68 #[iv p0, iv i, rv aS, iv (0 : Int32), rv cS, .unset, .unset] [(.int (66 : Int32)), (.int (83 : Int32))])) _
      refine XS.icmpYes X19.here hx rfl (pc0 := 68) (pc' := 75) rfl (hb hby at_68) rfl (feq (by decide : ¬ ((83 : Int32) = (66 : Int32)))).2 (by decide) (by decide) ?_
      show Steps p.tables e below (T19.setTop (mkF m 75 #[iv p0, iv i, rv aS, iv (0 : Int32), rv cS, .unset, .unset] [])) _
      refine XS.iconst X19.here hx rfl (hb hby at_75) ?_
      show Steps p.tables e below (T19.setTop (mkF m 76 #[iv p0, iv i, rv aS, iv (0 : Int32), rv cS, .unset, .unset] [(.int (0 : Int32))])) _
      refine XS.istore X19.here hx rfl (hb hby at_76) rfl (l' := #[iv p0, iv i, rv aS, iv (0 : Int32), rv cS, iv (0 : Int32), .unset]) rfl ?_
      show Steps p.tables e below (T19.setTop (mkF m 78 #[iv p0, iv i, rv aS, iv (0 : Int32), rv cS, iv (0 : Int32), .unset] [])) _
      refine XS.aloadN X19.here hx rfl (hb hby at_78) rfl rfl ?_
      exact k)
    obtain ⟨cq23, kq23, q23a, q23b, q23c⟩ := isOf hZ p19_0 E_aS
    obtain ⟨_, _, ⟨T23, L23, k23, n23⟩, -, X23, ⟨Lc23, hQ23, l23, y23, z23⟩, st23⟩ := X19.virtualBack hx (y := (⟨sN0, "bills", "()Z"⟩ : MethodName)) (z := (⟨sN0, "bills", "()Z"⟩ : MethodName)) hown (mvT hZ (hw _ (List.mem_of_getElem? (i := 49) rfl))) (mvT hZ (hw _ (List.mem_of_getElem? (i := 50) rfl))) (notFace_of_selects (args := #[]) (mvT hZ (hw _ (List.mem_of_getElem? (i := 52) rfl)))) (mvT hZ (hw _ (List.mem_of_getElem? (i := 52) rfl))) (mvT hZ (hw _ (List.mem_of_getElem? (i := 51) rfl))) (by decide) (backOf (W := 0) (rmBills l Z a0 hw [] aS aS h0 n0 Z0 S_AddressType_SHIPPING) hZ (hw _ (List.mem_of_getElem? (i := 53) rfl)) (hw _ (List.mem_of_getElem? (i := 2) rfl)) (by decide) (by decide)) q23a q23c (g := (mkF m 79 #[iv p0, iv i, rv aS, iv (0 : Int32), rv cS, iv (0 : Int32), .unset] [(.ref aS)])) rfl (by rw [hml]; rfl) (Steps.refl _) (argsL := []) (rest := []) (lenOf pd_6 rfl) rfl (by show 2 * 0 + _ ≤ _; exact Nat.le_of_eq rfl) (hb hby at_79) (fun _ _ => ⟨rfl, p19_0, (by decide : 0 + 0 ≤ _), (by decide : 0 + 0 ≤ _)⟩)
    dsimp only [Pt.U, Pt.locs, Pt.cells, Pt.slots] at X23 l23 y23 z23 st23 hQ23
    subst l23 y23 z23
    obtain ⟨rfl, N23q, p23_0⟩ := hQ23
    have N23 := Fr.app N19 N23q
    have R24 : ∀ t, Steps p.tables e below (T23.setTop (mkF m 82 #[iv p0, iv i, rv aS, iv (0 : Int32), rv cS, iv (0 : Int32), .unset] [(.int (own_b (¬ (aS = aS))))])) t → Steps p.tables e below (s₁.setTop f0) t := fun t k => R22 t (st23.trans k)
    have R25 : ∀ t, Steps p.tables e below (T23.setTop (mkF m 82 #[iv p0, iv i, rv aS, iv (0 : Int32), rv cS, iv (0 : Int32), .unset] [(.int (0 : Int32))])) t → Steps p.tables e below (s₁.setTop f0) t := by have q := R24; rw [((by simp [own_b]) : (own_b (¬ (aS = aS))) = (0 : Int32))] at q; exact q
    have R26 : ∀ t, Steps p.tables e below (T23.setTop (mkF m 102 #[iv p0, iv i, rv aS, iv (0 : Int32), rv cS, iv (0 : Int32), iv (0 : Int32)] [(.int (1 : Int32))])) t → Steps p.tables e below (s₁.setTop f0) t := fun t k => R25 t (by
      show Steps p.tables e below (T23.setTop (mkF m 82 #[iv p0, iv i, rv aS, iv (0 : Int32), rv cS, iv (0 : Int32), .unset] [(.int (0 : Int32))])) _
      refine XS.istore X23.here hx rfl (hb hby at_82) rfl (l' := #[iv p0, iv i, rv aS, iv (0 : Int32), rv cS, iv (0 : Int32), iv (0 : Int32)]) rfl ?_
      show Steps p.tables e below (T23.setTop (mkF m 84 #[iv p0, iv i, rv aS, iv (0 : Int32), rv cS, iv (0 : Int32), iv (0 : Int32)] [])) _
      refine XS.iload X23.here hx rfl (hb hby at_84) rfl  ?_
      show Steps p.tables e below (T23.setTop (mkF m 86 #[iv p0, iv i, rv aS, iv (0 : Int32), rv cS, iv (0 : Int32), iv (0 : Int32)] [(.int (0 : Int32))])) _
      refine XS.iloadN X23.here hx rfl (hb hby at_86) rfl  ?_
      show Steps p.tables e below (T23.setTop (mkF m 87 #[iv p0, iv i, rv aS, iv (0 : Int32), rv cS, iv (0 : Int32), iv (0 : Int32)] [(.int (0 : Int32)), (.int (0 : Int32))])) _
      refine XS.icmpNo X23.here hx rfl (hb hby at_87) rfl (teq (by decide : (0 : Int32) = (0 : Int32))).2 ?_
      show Steps p.tables e below (T23.setTop (mkF m 90 #[iv p0, iv i, rv aS, iv (0 : Int32), rv cS, iv (0 : Int32), iv (0 : Int32)] [])) _
      refine XS.iload X23.here hx rfl (hb hby at_90) rfl  ?_
      show Steps p.tables e below (T23.setTop (mkF m 92 #[iv p0, iv i, rv aS, iv (0 : Int32), rv cS, iv (0 : Int32), iv (0 : Int32)] [(.int (0 : Int32))])) _
      refine XS.iload X23.here hx rfl (hb hby at_92) rfl  ?_
      show Steps p.tables e below (T23.setTop (mkF m 94 #[iv p0, iv i, rv aS, iv (0 : Int32), rv cS, iv (0 : Int32), iv (0 : Int32)] [(.int (0 : Int32)), (.int (0 : Int32))])) _
      refine XS.icmpNo X23.here hx rfl (hb hby at_94) rfl (teq (by decide : (0 : Int32) = (0 : Int32))).2 ?_
      show Steps p.tables e below (T23.setTop (mkF m 97 #[iv p0, iv i, rv aS, iv (0 : Int32), rv cS, iv (0 : Int32), iv (0 : Int32)] [])) _
      refine XS.iconst X23.here hx rfl (hb hby at_97) ?_
      show Steps p.tables e below (T23.setTop (mkF m 98 #[iv p0, iv i, rv aS, iv (0 : Int32), rv cS, iv (0 : Int32), iv (0 : Int32)] [(.int (1 : Int32))])) _
      refine XS.goto X23.here hx rfl (pc0 := 98) (pc' := 102) rfl (hb hby at_98) (by decide) (by decide) ?_
      exact k)
    obtain ⟨fs, hr, hrun, hended, hW, hsame⟩ := X23.leave (v := some (.int (1 : Int32))) (fun h => by rw [Bd.returns] at h; cases h)
    refine ⟨_, _, pre0 _ (R26 _ ?_), hrun, hended, _, _, rfl, ?_, ⟨_, rfl⟩, hW, hsame.mono (by decide) (by decide)⟩
    · show Steps p.tables e below (T23.setTop (mkF m 102 #[iv p0, iv i, rv aS, iv (0 : Int32), rv cS, iv (0 : Int32), iv (0 : Int32)] [(.int (1 : Int32))])) _
      exact retN X23 hx (t := .boolean) Bd.returns (by simp) (hb hby at_102) hr
    · show Q_rmLaw Z p0 cs sf aS cS bS kS aB cB bB kB aC cC bC kC h0 n0 _ T23.heap _
      rw [p23_0]
      exact ⟨rfl, N23⟩
  · skip
    have R27 : ∀ t, Steps p.tables e below (s₁.setTop (mkF m 22 #[iv p0, iv i, .unset, .unset, .unset, .unset, .unset] [(.int (1 : Int32)), (.int i)])) t → Steps p.tables e below (s₁.setTop f0) t := fun t k => R3 t (by
      show Steps p.tables e below (s₁.setTop (mkF m 8 #[iv p0, iv i, .unset, .unset, .unset, .unset, .unset] [(.int i)])) _
      refine XS.ifYes X0.here hx rfl (pc0 := 8) (pc' := 20) rfl (hb hby at_8) rfl ((if0 _ _).trans (feq hs1).2) (by decide) (by decide) ?_
      show Steps p.tables e below (s₁.setTop (mkF m 20 #[iv p0, iv i, .unset, .unset, .unset, .unset, .unset] [])) _
      refine XS.iloadN X0.here hx rfl (hb hby at_20) rfl  ?_
      show Steps p.tables e below (s₁.setTop (mkF m 21 #[iv p0, iv i, .unset, .unset, .unset, .unset, .unset] [(.int i)])) _
      refine XS.iconst X0.here hx rfl (hb hby at_21) ?_
      exact k)
    by_cases hs2 : i = (1 : Int32)
    · skip
      have R28 : ∀ t, Steps p.tables e below (s₁.setTop (mkF m 25 #[iv p0, iv i, .unset, .unset, .unset, .unset, .unset] [])) t → Steps p.tables e below (s₁.setTop f0) t := fun t k => R27 t (by
        show Steps p.tables e below (s₁.setTop (mkF m 22 #[iv p0, iv i, .unset, .unset, .unset, .unset, .unset] [(.int (1 : Int32)), (.int i)])) _
        refine XS.icmpNo X0.here hx rfl (hb hby at_22) rfl (teq hs2).2 ?_
        exact k)
      obtain ⟨T29, X29, e29, st29⟩ := getS2 X0 hx hZ hown (host := "") (Or.inl (hw _ (List.mem_of_getElem? (i := 57) rfl))) Via.refl e0 S_AddressType_BILLING (g := (mkF m 25 #[iv p0, iv i, .unset, .unset, .unset, .unset, .unset] [])) rfl (hb hby at_25)
      have R30 : ∀ t, Steps p.tables e below (T29.setTop (mkF m 28 #[iv p0, iv i, .unset, .unset, .unset, .unset, .unset] [(.ref aB)])) t → Steps p.tables e below (s₁.setTop f0) t := fun t k => R28 t (st29 t k)
      have R31 : ∀ t, Steps p.tables e below (T29.setTop (mkF m 41 #[iv p0, iv i, rv aB, iv (1 : Int32), .unset, .unset, .unset] [(.ref aB)])) t → Steps p.tables e below (s₁.setTop f0) t := fun t k => R30 t (by
        show Steps p.tables e below (T29.setTop (mkF m 28 #[iv p0, iv i, .unset, .unset, .unset, .unset, .unset] [(.ref aB)])) _
        refine XS.astoreN X29.here hx rfl (hb hby at_28) rfl rfl (l' := #[iv p0, iv i, rv aB, .unset, .unset, .unset, .unset]) rfl ?_
        show Steps p.tables e below (T29.setTop (mkF m 29 #[iv p0, iv i, rv aB, .unset, .unset, .unset, .unset] [])) _
        refine XS.iconst X29.here hx rfl (hb hby at_29) ?_
        show Steps p.tables e below (T29.setTop (mkF m 30 #[iv p0, iv i, rv aB, .unset, .unset, .unset, .unset] [(.int (1 : Int32))])) _
        refine XS.istoreN X29.here hx rfl (hb hby at_30) rfl (l' := #[iv p0, iv i, rv aB, iv (1 : Int32), .unset, .unset, .unset]) rfl ?_
        show Steps p.tables e below (T29.setTop (mkF m 31 #[iv p0, iv i, rv aB, iv (1 : Int32), .unset, .unset, .unset] [])) _
        refine XS.goto X29.here hx rfl (pc0 := 31) (pc' := 40) rfl (hb hby at_31) (by decide) (by decide) ?_
        show Steps p.tables e below (T29.setTop (mkF m 40 #[iv p0, iv i, rv aB, iv (1 : Int32), .unset, .unset, .unset] [])) _
        refine XS.aloadN X29.here hx rfl (hb hby at_40) rfl rfl ?_
        exact k)
      obtain ⟨cq32, kq32, q32a, q32b, q32c⟩ := isOf hZ e29 E_aB
      obtain ⟨_, _, ⟨T32, L32, k32, n32⟩, -, X32, ⟨Lc32, hQ32, l32, y32, z32⟩, st32⟩ := X29.virtualBack hx (y := (⟨sN0, "code", "()Ljava/lang/String;"⟩ : MethodName)) (z := (⟨sN0, "code", "()Ljava/lang/String;"⟩ : MethodName)) hown (mvT hZ (hw _ (List.mem_of_getElem? (i := 4) rfl))) (mvT hZ (hw _ (List.mem_of_getElem? (i := 5) rfl))) (notFace_of_selects (args := #[]) (mvT hZ (hw _ (List.mem_of_getElem? (i := 7) rfl)))) (mvT hZ (hw _ (List.mem_of_getElem? (i := 7) rfl))) (mvT hZ (hw _ (List.mem_of_getElem? (i := 6) rfl))) (by decide) (backOf (W := 0) (rmCode l Z a0 hw [] aB cB h0 n0 Z0 F_code_aB) hZ (hw _ (List.mem_of_getElem? (i := 8) rfl)) (hw _ (List.mem_of_getElem? (i := 2) rfl)) (by decide) (by decide)) q32a q32c (g := (mkF m 41 #[iv p0, iv i, rv aB, iv (1 : Int32), .unset, .unset, .unset] [(.ref aB)])) rfl (by rw [hml]; rfl) (Steps.refl _) (argsL := []) (rest := []) (lenOf pd_10 rfl) rfl (by show 2 * 0 + _ ≤ _; exact Nat.le_of_eq rfl) (hb hby at_41) (fun _ _ => ⟨rfl, e29, (by decide : 0 + 0 ≤ _), (by decide : 0 + 0 ≤ _)⟩)
      dsimp only [Pt.U, Pt.locs, Pt.cells, Pt.slots] at X32 l32 y32 z32 st32 hQ32
      subst l32 y32 z32
      obtain ⟨rfl, N32q, p32_0⟩ := hQ32
      have N32 := Fr.app N0 N32q
      have R33 : ∀ t, Steps p.tables e below (T32.setTop (mkF m 44 #[iv p0, iv i, rv aB, iv (1 : Int32), .unset, .unset, .unset] [(.ref cB)])) t → Steps p.tables e below (s₁.setTop f0) t := fun t k => R31 t (st32.trans k)
      have R34 : ∀ t, Steps p.tables e below (T32.setTop (mkF m 48 #[iv p0, iv i, rv aB, iv (1 : Int32), rv cB, .unset, .unset] [(.ref cB)])) t → Steps p.tables e below (s₁.setTop f0) t := fun t k => R33 t (by
        show Steps p.tables e below (T32.setTop (mkF m 44 #[iv p0, iv i, rv aB, iv (1 : Int32), .unset, .unset, .unset] [(.ref cB)])) _
        refine XS.astore X32.here hx rfl (hb hby at_44) rfl rfl (l' := #[iv p0, iv i, rv aB, iv (1 : Int32), rv cB, .unset, .unset]) rfl ?_
        show Steps p.tables e below (T32.setTop (mkF m 46 #[iv p0, iv i, rv aB, iv (1 : Int32), rv cB, .unset, .unset] [])) _
        refine XS.aload X32.here hx rfl (hb hby at_46) rfl rfl ?_
        exact k)
      obtain ⟨cq35, kq35, q35a, q35b, q35c⟩ := isOf hZ p32_0 E_cB
      obtain ⟨_, _, ⟨T35, L35, k35, n35⟩, -, X35, ⟨Lc35, hQ35, l35, y35, z35⟩, st35⟩ := X32.virtualBack hx (y := (⟨"java/lang/String", "length", "()I"⟩ : MethodName)) (z := (⟨"java/lang/String", "length", "()I"⟩ : MethodName)) hown (mvT hZ (hw _ (List.mem_of_getElem? (i := 11) rfl))) (mvT hZ (hw _ (List.mem_of_getElem? (i := 12) rfl))) (notFace_of_selects (args := #[]) (mvT hZ (hw _ (List.mem_of_getElem? (i := 14) rfl)))) (mvT hZ (hw _ (List.mem_of_getElem? (i := 14) rfl))) (mvT hZ (hw _ (List.mem_of_getElem? (i := 13) rfl))) (by decide) (backOf (W := 0) (rmLen l Z a0 hw [] cB bB kB (1 : Int32) [(.int (66 : Int32))] (.int (0 : Int32)) cs h0 n0 Z0 E_cB F_coder_cB F_value_cB A_bB S_String_COMPACT_STRINGS hcs) hZ (hw _ (List.mem_of_getElem? (i := 16) rfl)) (hw _ (List.mem_of_getElem? (i := 15) rfl)) (by decide) (by decide)) q35a q35c (g := (mkF m 48 #[iv p0, iv i, rv aB, iv (1 : Int32), rv cB, .unset, .unset] [(.ref cB)])) rfl (by rw [hml]; rfl) (Steps.refl _) (argsL := []) (rest := []) (lenOf pd_11 rfl) rfl (by show 2 * 0 + _ ≤ _; exact Nat.le_of_eq rfl) (hb hby at_48) (fun _ _ => ⟨rfl, p32_0, (by decide : 0 + 0 ≤ _), (by decide : 0 + 0 ≤ _)⟩)
      dsimp only [Pt.U, Pt.locs, Pt.cells, Pt.slots] at X35 l35 y35 z35 st35 hQ35
      subst l35 y35 z35
      obtain ⟨rfl, N35q, p35_0⟩ := hQ35
      have N35 := Fr.app N32 N35q
      have R36 : ∀ t, Steps p.tables e below (T35.setTop (mkF m 51 #[iv p0, iv i, rv aB, iv (1 : Int32), rv cB, .unset, .unset] [(.int ((1 : Int32) >>> ((0 : Int32) &&& 31)))])) t → Steps p.tables e below (s₁.setTop f0) t := fun t k => R34 t (st35.trans k)
      have R37 : ∀ t, Steps p.tables e below (T35.setTop (mkF m 51 #[iv p0, iv i, rv aB, iv (1 : Int32), rv cB, .unset, .unset] [(.int (1 : Int32))])) t → Steps p.tables e below (s₁.setTop f0) t := by have q := R36; rw [((by decide) : ((1 : Int32) >>> ((0 : Int32) &&& 31)) = (1 : Int32))] at q; exact q
      have R38 : ∀ t, Steps p.tables e below (T35.setTop (mkF m 58 #[iv p0, iv i, rv aB, iv (1 : Int32), rv cB, .unset, .unset] [(.ref cB), (.ref cB)])) t → Steps p.tables e below (s₁.setTop f0) t := fun t k => R37 t (by
        show Steps p.tables e below (T35.setTop (mkF m 51 #[iv p0, iv i, rv aB, iv (1 : Int32), rv cB, .unset, .unset] [(.int (1 : Int32))])) _
        refine XS.ifNo X35.here hx rfl (hb hby at_51) rfl ((if0 _ _).trans (tlt (by decide : (0 : Int32) < (1 : Int32))).2.2.2) ?_
        show Steps p.tables e below (T35.setTop (mkF m 54 #[iv p0, iv i, rv aB, iv (1 : Int32), rv cB, .unset, .unset] [])) _
        refine XS.aload X35.here hx rfl (hb hby at_54) rfl rfl ?_
        show Steps p.tables e below (T35.setTop (mkF m 56 #[iv p0, iv i, rv aB, iv (1 : Int32), rv cB, .unset, .unset] [(.ref cB)])) _
        refine XS.aload X35.here hx rfl (hb hby at_56) rfl rfl ?_
        exact k)
      obtain ⟨cq39, kq39, q39a, q39b, q39c⟩ := isOf hZ p35_0 E_cB
      obtain ⟨_, _, ⟨T39, L39, k39, n39⟩, -, X39, ⟨Lc39, hQ39, l39, y39, z39⟩, st39⟩ := X35.virtualBack hx (y := (⟨"java/lang/String", "length", "()I"⟩ : MethodName)) (z := (⟨"java/lang/String", "length", "()I"⟩ : MethodName)) hown (mvT hZ (hw _ (List.mem_of_getElem? (i := 11) rfl))) (mvT hZ (hw _ (List.mem_of_getElem? (i := 12) rfl))) (notFace_of_selects (args := #[]) (mvT hZ (hw _ (List.mem_of_getElem? (i := 14) rfl)))) (mvT hZ (hw _ (List.mem_of_getElem? (i := 14) rfl))) (mvT hZ (hw _ (List.mem_of_getElem? (i := 13) rfl))) (by decide) (backOf (W := 1) (rmLen l Z a0 hw [] cB bB kB (1 : Int32) [(.int (66 : Int32))] (.int (0 : Int32)) cs h0 n0 Z0 E_cB F_coder_cB F_value_cB A_bB S_String_COMPACT_STRINGS hcs) hZ (hw _ (List.mem_of_getElem? (i := 16) rfl)) (hw _ (List.mem_of_getElem? (i := 15) rfl)) (by decide) (by decide)) q39a q39c (g := (mkF m 58 #[iv p0, iv i, rv aB, iv (1 : Int32), rv cB, .unset, .unset] [(.ref cB), (.ref cB)])) rfl (by rw [hml]; rfl) (Steps.refl _) (argsL := []) (rest := [(.ref cB)]) (lenOf pd_11 rfl) rfl (by show 2 * 0 + _ ≤ _; exact Nat.le_of_eq rfl) (hb hby at_58) (fun _ _ => ⟨rfl, p35_0, (by decide : 0 + 0 ≤ _), (by decide : 0 + 0 ≤ _)⟩)
      dsimp only [Pt.U, Pt.locs, Pt.cells, Pt.slots] at X39 l39 y39 z39 st39 hQ39
      subst l39 y39 z39
      obtain ⟨rfl, N39q, p39_0⟩ := hQ39
      have N39 := Fr.app N35 N39q
      have R40 : ∀ t, Steps p.tables e below (T39.setTop (mkF m 61 #[iv p0, iv i, rv aB, iv (1 : Int32), rv cB, .unset, .unset] [(.int ((1 : Int32) >>> ((0 : Int32) &&& 31))), (.ref cB)])) t → Steps p.tables e below (s₁.setTop f0) t := fun t k => R38 t (st39.trans k)
      have R41 : ∀ t, Steps p.tables e below (T39.setTop (mkF m 61 #[iv p0, iv i, rv aB, iv (1 : Int32), rv cB, .unset, .unset] [(.int (1 : Int32)), (.ref cB)])) t → Steps p.tables e below (s₁.setTop f0) t := by have q := R40; rw [((by decide) : ((1 : Int32) >>> ((0 : Int32) &&& 31)) = (1 : Int32))] at q; exact q
      have R42 : ∀ t, Steps p.tables e below (T39.setTop (mkF m 63 #[iv p0, iv i, rv aB, iv (1 : Int32), rv cB, .unset, .unset] [(.int (0 : Int32)), (.ref cB)])) t → Steps p.tables e below (s₁.setTop f0) t := fun t k => R41 t (by
        show Steps p.tables e below (T39.setTop (mkF m 61 #[iv p0, iv i, rv aB, iv (1 : Int32), rv cB, .unset, .unset] [(.int (1 : Int32)), (.ref cB)])) _
        refine XS.iconst X39.here hx rfl (hb hby at_61) ?_
        show Steps p.tables e below (T39.setTop (mkF m 62 #[iv p0, iv i, rv aB, iv (1 : Int32), rv cB, .unset, .unset] [(.int (1 : Int32)), (.int (1 : Int32)), (.ref cB)])) _
        refine XS.isub X39.here hx rfl (hb hby at_62) rfl ?_
        exact k)
      obtain ⟨cq43, kq43, q43a, q43b, q43c⟩ := isOf hZ p39_0 E_cB
      obtain ⟨_, _, ⟨T43, L43, k43, n43⟩, -, X43, ⟨Lc43, hQ43, l43, y43, z43⟩, st43⟩ := X39.virtualBack hx (y := (⟨"java/lang/String", "charAt", "(I)C"⟩ : MethodName)) (z := (⟨"java/lang/String", "charAt", "(I)C"⟩ : MethodName)) hown (mvT hZ (hw _ (List.mem_of_getElem? (i := 27) rfl))) (mvT hZ (hw _ (List.mem_of_getElem? (i := 28) rfl))) (notFace_of_selects (args := #[]) (mvT hZ (hw _ (List.mem_of_getElem? (i := 30) rfl)))) (mvT hZ (hw _ (List.mem_of_getElem? (i := 30) rfl))) (mvT hZ (hw _ (List.mem_of_getElem? (i := 29) rfl))) (by decide) (backOf (W := 0) (rmCa l Z a0 hw [] cB (0 : Int32) bB kB (1 : Int32) [(.int (66 : Int32))] (.int (0 : Int32)) (66 : Int32) cs sf h0 n0 Z0 E_cB F_coder_cB F_value_cB A_bB S_String_COMPACT_STRINGS hcs S_Preconditions_SIOOBE_FORMATTER hsf (by decide) (by decide) rfl) hZ (hw _ (List.mem_of_getElem? (i := 31) rfl)) (hw _ (List.mem_of_getElem? (i := 15) rfl)) (by decide) (by decide)) q43a q43c (g := (mkF m 63 #[iv p0, iv i, rv aB, iv (1 : Int32), rv cB, .unset, .unset] [(.int (0 : Int32)), (.ref cB)])) rfl (by rw [hml]; rfl) (Steps.refl _) (argsL := [(.int (0 : Int32))]) (rest := []) (lenOf pd_12 rfl) rfl (by show 2 * 0 + _ ≤ _; exact Nat.le_of_eq rfl) (hb hby at_63) (fun _ _ => ⟨rfl, p39_0, (by decide : 0 + 0 ≤ _), (by decide : 0 + 0 ≤ _)⟩)
      dsimp only [Pt.U, Pt.locs, Pt.cells, Pt.slots] at X43 l43 y43 z43 st43 hQ43
      subst l43 y43 z43
      obtain ⟨rfl, N43q, p43_0⟩ := hQ43
      have N43 := Fr.app N39 N43q
      have R44 : ∀ t, Steps p.tables e below (T43.setTop (mkF m 66 #[iv p0, iv i, rv aB, iv (1 : Int32), rv cB, .unset, .unset] [(.int (own_ch (66 : Int32)))])) t → Steps p.tables e below (s₁.setTop f0) t := fun t k => R42 t (st43.trans k)
      have R45 : ∀ t, Steps p.tables e below (T43.setTop (mkF m 66 #[iv p0, iv i, rv aB, iv (1 : Int32), rv cB, .unset, .unset] [(.int (66 : Int32))])) t → Steps p.tables e below (s₁.setTop f0) t := by have q := R44; rw [((by decide) : (own_ch (66 : Int32)) = (66 : Int32))] at q; exact q
      have R46 : ∀ t, Steps p.tables e below (T43.setTop (mkF m 79 #[iv p0, iv i, rv aB, iv (1 : Int32), rv cB, iv (1 : Int32), .unset] [(.ref aB)])) t → Steps p.tables e below (s₁.setTop f0) t := fun t k => R45 t (by
        show Steps p.tables e below (T43.setTop (mkF m 66 #[iv p0, iv i, rv aB, iv (1 : Int32), rv cB, .unset, .unset] [(.int (66 : Int32))])) _
        refine XS.bipush X43.here hx rfl (hb hby at_66) ?_
        show Steps p.tables e below (T43.setTop (mkF m 68 #[iv p0, iv i, rv aB, iv (1 : Int32), rv cB, .unset, .unset] [(.int (66 : Int32)), (.int (66 : Int32))])) _
        refine XS.icmpNo X43.here hx rfl (hb hby at_68) rfl (teq (by decide : (66 : Int32) = (66 : Int32))).2 ?_
        show Steps p.tables e below (T43.setTop (mkF m 71 #[iv p0, iv i, rv aB, iv (1 : Int32), rv cB, .unset, .unset] [])) _
        refine XS.iconst X43.here hx rfl (hb hby at_71) ?_
        show Steps p.tables e below (T43.setTop (mkF m 72 #[iv p0, iv i, rv aB, iv (1 : Int32), rv cB, .unset, .unset] [(.int (1 : Int32))])) _
        refine XS.goto X43.here hx rfl (pc0 := 72) (pc' := 76) rfl (hb hby at_72) (by decide) (by decide) ?_
        show Steps p.tables e below (T43.setTop (mkF m 76 #[iv p0, iv i, rv aB, iv (1 : Int32), rv cB, .unset, .unset] [(.int (1 : Int32))])) _
        refine XS.istore X43.here hx rfl (hb hby at_76) rfl (l' := #[iv p0, iv i, rv aB, iv (1 : Int32), rv cB, iv (1 : Int32), .unset]) rfl ?_
        show Steps p.tables e below (T43.setTop (mkF m 78 #[iv p0, iv i, rv aB, iv (1 : Int32), rv cB, iv (1 : Int32), .unset] [])) _
        refine XS.aloadN X43.here hx rfl (hb hby at_78) rfl rfl ?_
        exact k)
      obtain ⟨cq47, kq47, q47a, q47b, q47c⟩ := isOf hZ p43_0 E_aB
      obtain ⟨_, _, ⟨T47, L47, k47, n47⟩, -, X47, ⟨Lc47, hQ47, l47, y47, z47⟩, st47⟩ := X43.virtualBack hx (y := (⟨sN0, "bills", "()Z"⟩ : MethodName)) (z := (⟨sN0, "bills", "()Z"⟩ : MethodName)) hown (mvT hZ (hw _ (List.mem_of_getElem? (i := 49) rfl))) (mvT hZ (hw _ (List.mem_of_getElem? (i := 50) rfl))) (notFace_of_selects (args := #[]) (mvT hZ (hw _ (List.mem_of_getElem? (i := 52) rfl)))) (mvT hZ (hw _ (List.mem_of_getElem? (i := 52) rfl))) (mvT hZ (hw _ (List.mem_of_getElem? (i := 51) rfl))) (by decide) (backOf (W := 0) (rmBills l Z a0 hw [] aB aS h0 n0 Z0 S_AddressType_SHIPPING) hZ (hw _ (List.mem_of_getElem? (i := 53) rfl)) (hw _ (List.mem_of_getElem? (i := 2) rfl)) (by decide) (by decide)) q47a q47c (g := (mkF m 79 #[iv p0, iv i, rv aB, iv (1 : Int32), rv cB, iv (1 : Int32), .unset] [(.ref aB)])) rfl (by rw [hml]; rfl) (Steps.refl _) (argsL := []) (rest := []) (lenOf pd_6 rfl) rfl (by show 2 * 0 + _ ≤ _; exact Nat.le_of_eq rfl) (hb hby at_79) (fun _ _ => ⟨rfl, p43_0, (by decide : 0 + 0 ≤ _), (by decide : 0 + 0 ≤ _)⟩)
      dsimp only [Pt.U, Pt.locs, Pt.cells, Pt.slots] at X47 l47 y47 z47 st47 hQ47
      subst l47 y47 z47
      obtain ⟨rfl, N47q, p47_0⟩ := hQ47
      have N47 := Fr.app N43 N47q
      have R48 : ∀ t, Steps p.tables e below (T47.setTop (mkF m 82 #[iv p0, iv i, rv aB, iv (1 : Int32), rv cB, iv (1 : Int32), .unset] [(.int (own_b (¬ (aB = aS))))])) t → Steps p.tables e below (s₁.setTop f0) t := fun t k => R46 t (st47.trans k)
      have R49 : ∀ t, Steps p.tables e below (T47.setTop (mkF m 82 #[iv p0, iv i, rv aB, iv (1 : Int32), rv cB, iv (1 : Int32), .unset] [(.int (1 : Int32))])) t → Steps p.tables e below (s₁.setTop f0) t := by have q := R48; rw [((by simp [own_b, ne_aB_aS]) : (own_b (¬ (aB = aS))) = (1 : Int32))] at q; exact q
      have R50 : ∀ t, Steps p.tables e below (T47.setTop (mkF m 102 #[iv p0, iv i, rv aB, iv (1 : Int32), rv cB, iv (1 : Int32), iv (1 : Int32)] [(.int (1 : Int32))])) t → Steps p.tables e below (s₁.setTop f0) t := fun t k => R49 t (by
        show Steps p.tables e below (T47.setTop (mkF m 82 #[iv p0, iv i, rv aB, iv (1 : Int32), rv cB, iv (1 : Int32), .unset] [(.int (1 : Int32))])) _
        refine XS.istore X47.here hx rfl (hb hby at_82) rfl (l' := #[iv p0, iv i, rv aB, iv (1 : Int32), rv cB, iv (1 : Int32), iv (1 : Int32)]) rfl ?_
        show Steps p.tables e below (T47.setTop (mkF m 84 #[iv p0, iv i, rv aB, iv (1 : Int32), rv cB, iv (1 : Int32), iv (1 : Int32)] [])) _
        refine XS.iload X47.here hx rfl (hb hby at_84) rfl  ?_
        show Steps p.tables e below (T47.setTop (mkF m 86 #[iv p0, iv i, rv aB, iv (1 : Int32), rv cB, iv (1 : Int32), iv (1 : Int32)] [(.int (1 : Int32))])) _
        refine XS.iloadN X47.here hx rfl (hb hby at_86) rfl  ?_
        show Steps p.tables e below (T47.setTop (mkF m 87 #[iv p0, iv i, rv aB, iv (1 : Int32), rv cB, iv (1 : Int32), iv (1 : Int32)] [(.int (1 : Int32)), (.int (1 : Int32))])) _
        refine XS.icmpNo X47.here hx rfl (hb hby at_87) rfl (teq (by decide : (1 : Int32) = (1 : Int32))).2 ?_
        show Steps p.tables e below (T47.setTop (mkF m 90 #[iv p0, iv i, rv aB, iv (1 : Int32), rv cB, iv (1 : Int32), iv (1 : Int32)] [])) _
        refine XS.iload X47.here hx rfl (hb hby at_90) rfl  ?_
        show Steps p.tables e below (T47.setTop (mkF m 92 #[iv p0, iv i, rv aB, iv (1 : Int32), rv cB, iv (1 : Int32), iv (1 : Int32)] [(.int (1 : Int32))])) _
        refine XS.iload X47.here hx rfl (hb hby at_92) rfl  ?_
        show Steps p.tables e below (T47.setTop (mkF m 94 #[iv p0, iv i, rv aB, iv (1 : Int32), rv cB, iv (1 : Int32), iv (1 : Int32)] [(.int (1 : Int32)), (.int (1 : Int32))])) _
        refine XS.icmpNo X47.here hx rfl (hb hby at_94) rfl (teq (by decide : (1 : Int32) = (1 : Int32))).2 ?_
        show Steps p.tables e below (T47.setTop (mkF m 97 #[iv p0, iv i, rv aB, iv (1 : Int32), rv cB, iv (1 : Int32), iv (1 : Int32)] [])) _
        refine XS.iconst X47.here hx rfl (hb hby at_97) ?_
        show Steps p.tables e below (T47.setTop (mkF m 98 #[iv p0, iv i, rv aB, iv (1 : Int32), rv cB, iv (1 : Int32), iv (1 : Int32)] [(.int (1 : Int32))])) _
        refine XS.goto X47.here hx rfl (pc0 := 98) (pc' := 102) rfl (hb hby at_98) (by decide) (by decide) ?_
        exact k)
      obtain ⟨fs, hr, hrun, hended, hW, hsame⟩ := X47.leave (v := some (.int (1 : Int32))) (fun h => by rw [Bd.returns] at h; cases h)
      refine ⟨_, _, pre0 _ (R50 _ ?_), hrun, hended, _, _, rfl, ?_, ⟨_, rfl⟩, hW, hsame.mono (by decide) (by decide)⟩
      · show Steps p.tables e below (T47.setTop (mkF m 102 #[iv p0, iv i, rv aB, iv (1 : Int32), rv cB, iv (1 : Int32), iv (1 : Int32)] [(.int (1 : Int32))])) _
        exact retN X47 hx (t := .boolean) Bd.returns (by simp) (hb hby at_102) hr
      · show Q_rmLaw Z p0 cs sf aS cS bS kS aB cB bB kB aC cC bC kC h0 n0 _ T47.heap _
        rw [p47_0]
        exact ⟨rfl, N47⟩
    · skip
      have R51 : ∀ t, Steps p.tables e below (s₁.setTop (mkF m 34 #[iv p0, iv i, .unset, .unset, .unset, .unset, .unset] [])) t → Steps p.tables e below (s₁.setTop f0) t := fun t k => R27 t (by
        show Steps p.tables e below (s₁.setTop (mkF m 22 #[iv p0, iv i, .unset, .unset, .unset, .unset, .unset] [(.int (1 : Int32)), (.int i)])) _
        refine XS.icmpYes X0.here hx rfl (pc0 := 22) (pc' := 34) rfl (hb hby at_22) rfl (feq hs2).2 (by decide) (by decide) ?_
        exact k)
      obtain ⟨T52, X52, e52, st52⟩ := getS2 X0 hx hZ hown (host := "") (Or.inl (hw _ (List.mem_of_getElem? (i := 55) rfl))) Via.refl e0 S_AddressType_SHIPPING_AND_BILLING (g := (mkF m 34 #[iv p0, iv i, .unset, .unset, .unset, .unset, .unset] [])) rfl (hb hby at_34)
      have R53 : ∀ t, Steps p.tables e below (T52.setTop (mkF m 37 #[iv p0, iv i, .unset, .unset, .unset, .unset, .unset] [(.ref aC)])) t → Steps p.tables e below (s₁.setTop f0) t := fun t k => R51 t (st52 t k)
      have R54 : ∀ t, Steps p.tables e below (T52.setTop (mkF m 41 #[iv p0, iv i, rv aC, iv (1 : Int32), .unset, .unset, .unset] [(.ref aC)])) t → Steps p.tables e below (s₁.setTop f0) t := fun t k => R53 t (by
        show Steps p.tables e below (T52.setTop (mkF m 37 #[iv p0, iv i, .unset, .unset, .unset, .unset, .unset] [(.ref aC)])) _
        refine XS.astoreN X52.here hx rfl (hb hby at_37) rfl rfl (l' := #[iv p0, iv i, rv aC, .unset, .unset, .unset, .unset]) rfl ?_
        show Steps p.tables e below (T52.setTop (mkF m 38 #[iv p0, iv i, rv aC, .unset, .unset, .unset, .unset] [])) _
        refine XS.iconst X52.here hx rfl (hb hby at_38) ?_
        show Steps p.tables e below (T52.setTop (mkF m 39 #[iv p0, iv i, rv aC, .unset, .unset, .unset, .unset] [(.int (1 : Int32))])) _
        refine XS.istoreN X52.here hx rfl (hb hby at_39) rfl (l' := #[iv p0, iv i, rv aC, iv (1 : Int32), .unset, .unset, .unset]) rfl ?_
        show Steps p.tables e below (T52.setTop (mkF m 40 #[iv p0, iv i, rv aC, iv (1 : Int32), .unset, .unset, .unset] [])) _
        refine XS.aloadN X52.here hx rfl (hb hby at_40) rfl rfl ?_
        exact k)
      obtain ⟨cq55, kq55, q55a, q55b, q55c⟩ := isOf hZ e52 E_aC
      obtain ⟨_, _, ⟨T55, L55, k55, n55⟩, -, X55, ⟨Lc55, hQ55, l55, y55, z55⟩, st55⟩ := X52.virtualBack hx (y := (⟨sN0, "code", "()Ljava/lang/String;"⟩ : MethodName)) (z := (⟨sN0, "code", "()Ljava/lang/String;"⟩ : MethodName)) hown (mvT hZ (hw _ (List.mem_of_getElem? (i := 4) rfl))) (mvT hZ (hw _ (List.mem_of_getElem? (i := 5) rfl))) (notFace_of_selects (args := #[]) (mvT hZ (hw _ (List.mem_of_getElem? (i := 7) rfl)))) (mvT hZ (hw _ (List.mem_of_getElem? (i := 7) rfl))) (mvT hZ (hw _ (List.mem_of_getElem? (i := 6) rfl))) (by decide) (backOf (W := 0) (rmCode l Z a0 hw [] aC cC h0 n0 Z0 F_code_aC) hZ (hw _ (List.mem_of_getElem? (i := 8) rfl)) (hw _ (List.mem_of_getElem? (i := 2) rfl)) (by decide) (by decide)) q55a q55c (g := (mkF m 41 #[iv p0, iv i, rv aC, iv (1 : Int32), .unset, .unset, .unset] [(.ref aC)])) rfl (by rw [hml]; rfl) (Steps.refl _) (argsL := []) (rest := []) (lenOf pd_10 rfl) rfl (by show 2 * 0 + _ ≤ _; exact Nat.le_of_eq rfl) (hb hby at_41) (fun _ _ => ⟨rfl, e52, (by decide : 0 + 0 ≤ _), (by decide : 0 + 0 ≤ _)⟩)
      dsimp only [Pt.U, Pt.locs, Pt.cells, Pt.slots] at X55 l55 y55 z55 st55 hQ55
      subst l55 y55 z55
      obtain ⟨rfl, N55q, p55_0⟩ := hQ55
      have N55 := Fr.app N0 N55q
      have R56 : ∀ t, Steps p.tables e below (T55.setTop (mkF m 44 #[iv p0, iv i, rv aC, iv (1 : Int32), .unset, .unset, .unset] [(.ref cC)])) t → Steps p.tables e below (s₁.setTop f0) t := fun t k => R54 t (st55.trans k)
      have R57 : ∀ t, Steps p.tables e below (T55.setTop (mkF m 48 #[iv p0, iv i, rv aC, iv (1 : Int32), rv cC, .unset, .unset] [(.ref cC)])) t → Steps p.tables e below (s₁.setTop f0) t := fun t k => R56 t (by
        show Steps p.tables e below (T55.setTop (mkF m 44 #[iv p0, iv i, rv aC, iv (1 : Int32), .unset, .unset, .unset] [(.ref cC)])) _
        refine XS.astore X55.here hx rfl (hb hby at_44) rfl rfl (l' := #[iv p0, iv i, rv aC, iv (1 : Int32), rv cC, .unset, .unset]) rfl ?_
        show Steps p.tables e below (T55.setTop (mkF m 46 #[iv p0, iv i, rv aC, iv (1 : Int32), rv cC, .unset, .unset] [])) _
        refine XS.aload X55.here hx rfl (hb hby at_46) rfl rfl ?_
        exact k)
      obtain ⟨cq58, kq58, q58a, q58b, q58c⟩ := isOf hZ p55_0 E_cC
      obtain ⟨_, _, ⟨T58, L58, k58, n58⟩, -, X58, ⟨Lc58, hQ58, l58, y58, z58⟩, st58⟩ := X55.virtualBack hx (y := (⟨"java/lang/String", "length", "()I"⟩ : MethodName)) (z := (⟨"java/lang/String", "length", "()I"⟩ : MethodName)) hown (mvT hZ (hw _ (List.mem_of_getElem? (i := 11) rfl))) (mvT hZ (hw _ (List.mem_of_getElem? (i := 12) rfl))) (notFace_of_selects (args := #[]) (mvT hZ (hw _ (List.mem_of_getElem? (i := 14) rfl)))) (mvT hZ (hw _ (List.mem_of_getElem? (i := 14) rfl))) (mvT hZ (hw _ (List.mem_of_getElem? (i := 13) rfl))) (by decide) (backOf (W := 0) (rmLen l Z a0 hw [] cC bC kC (2 : Int32) [(.int (83 : Int32)), (.int (66 : Int32))] (.int (0 : Int32)) cs h0 n0 Z0 E_cC F_coder_cC F_value_cC A_bC S_String_COMPACT_STRINGS hcs) hZ (hw _ (List.mem_of_getElem? (i := 16) rfl)) (hw _ (List.mem_of_getElem? (i := 15) rfl)) (by decide) (by decide)) q58a q58c (g := (mkF m 48 #[iv p0, iv i, rv aC, iv (1 : Int32), rv cC, .unset, .unset] [(.ref cC)])) rfl (by rw [hml]; rfl) (Steps.refl _) (argsL := []) (rest := []) (lenOf pd_11 rfl) rfl (by show 2 * 0 + _ ≤ _; exact Nat.le_of_eq rfl) (hb hby at_48) (fun _ _ => ⟨rfl, p55_0, (by decide : 0 + 0 ≤ _), (by decide : 0 + 0 ≤ _)⟩)
      dsimp only [Pt.U, Pt.locs, Pt.cells, Pt.slots] at X58 l58 y58 z58 st58 hQ58
      subst l58 y58 z58
      obtain ⟨rfl, N58q, p58_0⟩ := hQ58
      have N58 := Fr.app N55 N58q
      have R59 : ∀ t, Steps p.tables e below (T58.setTop (mkF m 51 #[iv p0, iv i, rv aC, iv (1 : Int32), rv cC, .unset, .unset] [(.int ((2 : Int32) >>> ((0 : Int32) &&& 31)))])) t → Steps p.tables e below (s₁.setTop f0) t := fun t k => R57 t (st58.trans k)
      have R60 : ∀ t, Steps p.tables e below (T58.setTop (mkF m 51 #[iv p0, iv i, rv aC, iv (1 : Int32), rv cC, .unset, .unset] [(.int (2 : Int32))])) t → Steps p.tables e below (s₁.setTop f0) t := by have q := R59; rw [((by decide) : ((2 : Int32) >>> ((0 : Int32) &&& 31)) = (2 : Int32))] at q; exact q
      have R61 : ∀ t, Steps p.tables e below (T58.setTop (mkF m 58 #[iv p0, iv i, rv aC, iv (1 : Int32), rv cC, .unset, .unset] [(.ref cC), (.ref cC)])) t → Steps p.tables e below (s₁.setTop f0) t := fun t k => R60 t (by
        show Steps p.tables e below (T58.setTop (mkF m 51 #[iv p0, iv i, rv aC, iv (1 : Int32), rv cC, .unset, .unset] [(.int (2 : Int32))])) _
        refine XS.ifNo X58.here hx rfl (hb hby at_51) rfl ((if0 _ _).trans (tlt (by decide : (0 : Int32) < (2 : Int32))).2.2.2) ?_
        show Steps p.tables e below (T58.setTop (mkF m 54 #[iv p0, iv i, rv aC, iv (1 : Int32), rv cC, .unset, .unset] [])) _
        refine XS.aload X58.here hx rfl (hb hby at_54) rfl rfl ?_
        show Steps p.tables e below (T58.setTop (mkF m 56 #[iv p0, iv i, rv aC, iv (1 : Int32), rv cC, .unset, .unset] [(.ref cC)])) _
        refine XS.aload X58.here hx rfl (hb hby at_56) rfl rfl ?_
        exact k)
      obtain ⟨cq62, kq62, q62a, q62b, q62c⟩ := isOf hZ p58_0 E_cC
      obtain ⟨_, _, ⟨T62, L62, k62, n62⟩, -, X62, ⟨Lc62, hQ62, l62, y62, z62⟩, st62⟩ := X58.virtualBack hx (y := (⟨"java/lang/String", "length", "()I"⟩ : MethodName)) (z := (⟨"java/lang/String", "length", "()I"⟩ : MethodName)) hown (mvT hZ (hw _ (List.mem_of_getElem? (i := 11) rfl))) (mvT hZ (hw _ (List.mem_of_getElem? (i := 12) rfl))) (notFace_of_selects (args := #[]) (mvT hZ (hw _ (List.mem_of_getElem? (i := 14) rfl)))) (mvT hZ (hw _ (List.mem_of_getElem? (i := 14) rfl))) (mvT hZ (hw _ (List.mem_of_getElem? (i := 13) rfl))) (by decide) (backOf (W := 1) (rmLen l Z a0 hw [] cC bC kC (2 : Int32) [(.int (83 : Int32)), (.int (66 : Int32))] (.int (0 : Int32)) cs h0 n0 Z0 E_cC F_coder_cC F_value_cC A_bC S_String_COMPACT_STRINGS hcs) hZ (hw _ (List.mem_of_getElem? (i := 16) rfl)) (hw _ (List.mem_of_getElem? (i := 15) rfl)) (by decide) (by decide)) q62a q62c (g := (mkF m 58 #[iv p0, iv i, rv aC, iv (1 : Int32), rv cC, .unset, .unset] [(.ref cC), (.ref cC)])) rfl (by rw [hml]; rfl) (Steps.refl _) (argsL := []) (rest := [(.ref cC)]) (lenOf pd_11 rfl) rfl (by show 2 * 0 + _ ≤ _; exact Nat.le_of_eq rfl) (hb hby at_58) (fun _ _ => ⟨rfl, p58_0, (by decide : 0 + 0 ≤ _), (by decide : 0 + 0 ≤ _)⟩)
      dsimp only [Pt.U, Pt.locs, Pt.cells, Pt.slots] at X62 l62 y62 z62 st62 hQ62
      subst l62 y62 z62
      obtain ⟨rfl, N62q, p62_0⟩ := hQ62
      have N62 := Fr.app N58 N62q
      have R63 : ∀ t, Steps p.tables e below (T62.setTop (mkF m 61 #[iv p0, iv i, rv aC, iv (1 : Int32), rv cC, .unset, .unset] [(.int ((2 : Int32) >>> ((0 : Int32) &&& 31))), (.ref cC)])) t → Steps p.tables e below (s₁.setTop f0) t := fun t k => R61 t (st62.trans k)
      have R64 : ∀ t, Steps p.tables e below (T62.setTop (mkF m 61 #[iv p0, iv i, rv aC, iv (1 : Int32), rv cC, .unset, .unset] [(.int (2 : Int32)), (.ref cC)])) t → Steps p.tables e below (s₁.setTop f0) t := by have q := R63; rw [((by decide) : ((2 : Int32) >>> ((0 : Int32) &&& 31)) = (2 : Int32))] at q; exact q
      have R65 : ∀ t, Steps p.tables e below (T62.setTop (mkF m 63 #[iv p0, iv i, rv aC, iv (1 : Int32), rv cC, .unset, .unset] [(.int (1 : Int32)), (.ref cC)])) t → Steps p.tables e below (s₁.setTop f0) t := fun t k => R64 t (by
        show Steps p.tables e below (T62.setTop (mkF m 61 #[iv p0, iv i, rv aC, iv (1 : Int32), rv cC, .unset, .unset] [(.int (2 : Int32)), (.ref cC)])) _
        refine XS.iconst X62.here hx rfl (hb hby at_61) ?_
        show Steps p.tables e below (T62.setTop (mkF m 62 #[iv p0, iv i, rv aC, iv (1 : Int32), rv cC, .unset, .unset] [(.int (1 : Int32)), (.int (2 : Int32)), (.ref cC)])) _
        refine XS.isub X62.here hx rfl (hb hby at_62) rfl ?_
        exact k)
      obtain ⟨cq66, kq66, q66a, q66b, q66c⟩ := isOf hZ p62_0 E_cC
      obtain ⟨_, _, ⟨T66, L66, k66, n66⟩, -, X66, ⟨Lc66, hQ66, l66, y66, z66⟩, st66⟩ := X62.virtualBack hx (y := (⟨"java/lang/String", "charAt", "(I)C"⟩ : MethodName)) (z := (⟨"java/lang/String", "charAt", "(I)C"⟩ : MethodName)) hown (mvT hZ (hw _ (List.mem_of_getElem? (i := 27) rfl))) (mvT hZ (hw _ (List.mem_of_getElem? (i := 28) rfl))) (notFace_of_selects (args := #[]) (mvT hZ (hw _ (List.mem_of_getElem? (i := 30) rfl)))) (mvT hZ (hw _ (List.mem_of_getElem? (i := 30) rfl))) (mvT hZ (hw _ (List.mem_of_getElem? (i := 29) rfl))) (by decide) (backOf (W := 0) (rmCa l Z a0 hw [] cC (1 : Int32) bC kC (2 : Int32) [(.int (83 : Int32)), (.int (66 : Int32))] (.int (0 : Int32)) (66 : Int32) cs sf h0 n0 Z0 E_cC F_coder_cC F_value_cC A_bC S_String_COMPACT_STRINGS hcs S_Preconditions_SIOOBE_FORMATTER hsf (by decide) (by decide) rfl) hZ (hw _ (List.mem_of_getElem? (i := 31) rfl)) (hw _ (List.mem_of_getElem? (i := 15) rfl)) (by decide) (by decide)) q66a q66c (g := (mkF m 63 #[iv p0, iv i, rv aC, iv (1 : Int32), rv cC, .unset, .unset] [(.int (1 : Int32)), (.ref cC)])) rfl (by rw [hml]; rfl) (Steps.refl _) (argsL := [(.int (1 : Int32))]) (rest := []) (lenOf pd_12 rfl) rfl (by show 2 * 0 + _ ≤ _; exact Nat.le_of_eq rfl) (hb hby at_63) (fun _ _ => ⟨rfl, p62_0, (by decide : 0 + 0 ≤ _), (by decide : 0 + 0 ≤ _)⟩)
      dsimp only [Pt.U, Pt.locs, Pt.cells, Pt.slots] at X66 l66 y66 z66 st66 hQ66
      subst l66 y66 z66
      obtain ⟨rfl, N66q, p66_0⟩ := hQ66
      have N66 := Fr.app N62 N66q
      have R67 : ∀ t, Steps p.tables e below (T66.setTop (mkF m 66 #[iv p0, iv i, rv aC, iv (1 : Int32), rv cC, .unset, .unset] [(.int (own_ch (66 : Int32)))])) t → Steps p.tables e below (s₁.setTop f0) t := fun t k => R65 t (st66.trans k)
      have R68 : ∀ t, Steps p.tables e below (T66.setTop (mkF m 66 #[iv p0, iv i, rv aC, iv (1 : Int32), rv cC, .unset, .unset] [(.int (66 : Int32))])) t → Steps p.tables e below (s₁.setTop f0) t := by have q := R67; rw [((by decide) : (own_ch (66 : Int32)) = (66 : Int32))] at q; exact q
      have R69 : ∀ t, Steps p.tables e below (T66.setTop (mkF m 79 #[iv p0, iv i, rv aC, iv (1 : Int32), rv cC, iv (1 : Int32), .unset] [(.ref aC)])) t → Steps p.tables e below (s₁.setTop f0) t := fun t k => R68 t (by
        show Steps p.tables e below (T66.setTop (mkF m 66 #[iv p0, iv i, rv aC, iv (1 : Int32), rv cC, .unset, .unset] [(.int (66 : Int32))])) _
        refine XS.bipush X66.here hx rfl (hb hby at_66) ?_
        show Steps p.tables e below (T66.setTop (mkF m 68 #[iv p0, iv i, rv aC, iv (1 : Int32), rv cC, .unset, .unset] [(.int (66 : Int32)), (.int (66 : Int32))])) _
        refine XS.icmpNo X66.here hx rfl (hb hby at_68) rfl (teq (by decide : (66 : Int32) = (66 : Int32))).2 ?_
        show Steps p.tables e below (T66.setTop (mkF m 71 #[iv p0, iv i, rv aC, iv (1 : Int32), rv cC, .unset, .unset] [])) _
        refine XS.iconst X66.here hx rfl (hb hby at_71) ?_
        show Steps p.tables e below (T66.setTop (mkF m 72 #[iv p0, iv i, rv aC, iv (1 : Int32), rv cC, .unset, .unset] [(.int (1 : Int32))])) _
        refine XS.goto X66.here hx rfl (pc0 := 72) (pc' := 76) rfl (hb hby at_72) (by decide) (by decide) ?_
        show Steps p.tables e below (T66.setTop (mkF m 76 #[iv p0, iv i, rv aC, iv (1 : Int32), rv cC, .unset, .unset] [(.int (1 : Int32))])) _
        refine XS.istore X66.here hx rfl (hb hby at_76) rfl (l' := #[iv p0, iv i, rv aC, iv (1 : Int32), rv cC, iv (1 : Int32), .unset]) rfl ?_
        show Steps p.tables e below (T66.setTop (mkF m 78 #[iv p0, iv i, rv aC, iv (1 : Int32), rv cC, iv (1 : Int32), .unset] [])) _
        refine XS.aloadN X66.here hx rfl (hb hby at_78) rfl rfl ?_
        exact k)
      obtain ⟨cq70, kq70, q70a, q70b, q70c⟩ := isOf hZ p66_0 E_aC
      obtain ⟨_, _, ⟨T70, L70, k70, n70⟩, -, X70, ⟨Lc70, hQ70, l70, y70, z70⟩, st70⟩ := X66.virtualBack hx (y := (⟨sN0, "bills", "()Z"⟩ : MethodName)) (z := (⟨sN0, "bills", "()Z"⟩ : MethodName)) hown (mvT hZ (hw _ (List.mem_of_getElem? (i := 49) rfl))) (mvT hZ (hw _ (List.mem_of_getElem? (i := 50) rfl))) (notFace_of_selects (args := #[]) (mvT hZ (hw _ (List.mem_of_getElem? (i := 52) rfl)))) (mvT hZ (hw _ (List.mem_of_getElem? (i := 52) rfl))) (mvT hZ (hw _ (List.mem_of_getElem? (i := 51) rfl))) (by decide) (backOf (W := 0) (rmBills l Z a0 hw [] aC aS h0 n0 Z0 S_AddressType_SHIPPING) hZ (hw _ (List.mem_of_getElem? (i := 53) rfl)) (hw _ (List.mem_of_getElem? (i := 2) rfl)) (by decide) (by decide)) q70a q70c (g := (mkF m 79 #[iv p0, iv i, rv aC, iv (1 : Int32), rv cC, iv (1 : Int32), .unset] [(.ref aC)])) rfl (by rw [hml]; rfl) (Steps.refl _) (argsL := []) (rest := []) (lenOf pd_6 rfl) rfl (by show 2 * 0 + _ ≤ _; exact Nat.le_of_eq rfl) (hb hby at_79) (fun _ _ => ⟨rfl, p66_0, (by decide : 0 + 0 ≤ _), (by decide : 0 + 0 ≤ _)⟩)
      dsimp only [Pt.U, Pt.locs, Pt.cells, Pt.slots] at X70 l70 y70 z70 st70 hQ70
      subst l70 y70 z70
      obtain ⟨rfl, N70q, p70_0⟩ := hQ70
      have N70 := Fr.app N66 N70q
      have R71 : ∀ t, Steps p.tables e below (T70.setTop (mkF m 82 #[iv p0, iv i, rv aC, iv (1 : Int32), rv cC, iv (1 : Int32), .unset] [(.int (own_b (¬ (aC = aS))))])) t → Steps p.tables e below (s₁.setTop f0) t := fun t k => R69 t (st70.trans k)
      have R72 : ∀ t, Steps p.tables e below (T70.setTop (mkF m 82 #[iv p0, iv i, rv aC, iv (1 : Int32), rv cC, iv (1 : Int32), .unset] [(.int (1 : Int32))])) t → Steps p.tables e below (s₁.setTop f0) t := by have q := R71; rw [((by simp [own_b, ne_aC_aS]) : (own_b (¬ (aC = aS))) = (1 : Int32))] at q; exact q
      have R73 : ∀ t, Steps p.tables e below (T70.setTop (mkF m 102 #[iv p0, iv i, rv aC, iv (1 : Int32), rv cC, iv (1 : Int32), iv (1 : Int32)] [(.int (1 : Int32))])) t → Steps p.tables e below (s₁.setTop f0) t := fun t k => R72 t (by
        show Steps p.tables e below (T70.setTop (mkF m 82 #[iv p0, iv i, rv aC, iv (1 : Int32), rv cC, iv (1 : Int32), .unset] [(.int (1 : Int32))])) _
        refine XS.istore X70.here hx rfl (hb hby at_82) rfl (l' := #[iv p0, iv i, rv aC, iv (1 : Int32), rv cC, iv (1 : Int32), iv (1 : Int32)]) rfl ?_
        show Steps p.tables e below (T70.setTop (mkF m 84 #[iv p0, iv i, rv aC, iv (1 : Int32), rv cC, iv (1 : Int32), iv (1 : Int32)] [])) _
        refine XS.iload X70.here hx rfl (hb hby at_84) rfl  ?_
        show Steps p.tables e below (T70.setTop (mkF m 86 #[iv p0, iv i, rv aC, iv (1 : Int32), rv cC, iv (1 : Int32), iv (1 : Int32)] [(.int (1 : Int32))])) _
        refine XS.iloadN X70.here hx rfl (hb hby at_86) rfl  ?_
        show Steps p.tables e below (T70.setTop (mkF m 87 #[iv p0, iv i, rv aC, iv (1 : Int32), rv cC, iv (1 : Int32), iv (1 : Int32)] [(.int (1 : Int32)), (.int (1 : Int32))])) _
        refine XS.icmpNo X70.here hx rfl (hb hby at_87) rfl (teq (by decide : (1 : Int32) = (1 : Int32))).2 ?_
        show Steps p.tables e below (T70.setTop (mkF m 90 #[iv p0, iv i, rv aC, iv (1 : Int32), rv cC, iv (1 : Int32), iv (1 : Int32)] [])) _
        refine XS.iload X70.here hx rfl (hb hby at_90) rfl  ?_
        show Steps p.tables e below (T70.setTop (mkF m 92 #[iv p0, iv i, rv aC, iv (1 : Int32), rv cC, iv (1 : Int32), iv (1 : Int32)] [(.int (1 : Int32))])) _
        refine XS.iload X70.here hx rfl (hb hby at_92) rfl  ?_
        show Steps p.tables e below (T70.setTop (mkF m 94 #[iv p0, iv i, rv aC, iv (1 : Int32), rv cC, iv (1 : Int32), iv (1 : Int32)] [(.int (1 : Int32)), (.int (1 : Int32))])) _
        refine XS.icmpNo X70.here hx rfl (hb hby at_94) rfl (teq (by decide : (1 : Int32) = (1 : Int32))).2 ?_
        show Steps p.tables e below (T70.setTop (mkF m 97 #[iv p0, iv i, rv aC, iv (1 : Int32), rv cC, iv (1 : Int32), iv (1 : Int32)] [])) _
        refine XS.iconst X70.here hx rfl (hb hby at_97) ?_
        show Steps p.tables e below (T70.setTop (mkF m 98 #[iv p0, iv i, rv aC, iv (1 : Int32), rv cC, iv (1 : Int32), iv (1 : Int32)] [(.int (1 : Int32))])) _
        refine XS.goto X70.here hx rfl (pc0 := 98) (pc' := 102) rfl (hb hby at_98) (by decide) (by decide) ?_
        exact k)
      obtain ⟨fs, hr, hrun, hended, hW, hsame⟩ := X70.leave (v := some (.int (1 : Int32))) (fun h => by rw [Bd.returns] at h; cases h)
      refine ⟨_, _, pre0 _ (R73 _ ?_), hrun, hended, _, _, rfl, ?_, ⟨_, rfl⟩, hW, hsame.mono (by decide) (by decide)⟩
      · show Steps p.tables e below (T70.setTop (mkF m 102 #[iv p0, iv i, rv aC, iv (1 : Int32), rv cC, iv (1 : Int32), iv (1 : Int32)] [(.int (1 : Int32))])) _
        exact retN X70 hx (t := .boolean) Bd.returns (by simp) (hb hby at_102) hr
      · show Q_rmLaw Z p0 cs sf aS cS bS kS aB cB bB kB aC cC bC kC h0 n0 _ T70.heap _
        rw [p70_0]
        exact ⟨rfl, N70⟩
set_option maxRecDepth 65536 in
set_option maxHeartbeats 40000000 in
theorem comes_1 {Post : Tables → Env → Array Value → State → Outcome → State → Prop} (hpost : ∀ tb e args s v u, (limb_1_1.after args s (.returned v) u = true ∧ limb_1_2.after args s (.returned v) u = true ∧ True) → FrameEnd s (.returned v) u (Jvm.fieldLocs frame_1_writes args s ++ Jvm.arrayLocs frame_1_arrays args s ++ Jvm.staticLocs frame_1_statics s) 0 0 → Post tb e args s (.returned v) u) :
    ArmFor flags0 classFile x code maxLocals ret World_1 tables_1 room_1 Calls_1 rest_1 Pre_1 Post := by
  intro l hfl _ _ p e ha hc hk s m args below hf hA hF happ hP
  obtain ⟨hcalls, hrest, hpre⟩ := hP
  obtain ⟨-, -, -, hnamed, -, -, -, hat⟩ := (Spec.applies_iff hf).mp happ
  obtain ⟨hg, hn⟩ := and_e (Cond.before_iff.mp (show (Jvm.Cond.and given_1 narrow_1).before args s = true from hpre))
  obtain ⟨gg1, gg2⟩ := and_e hg
  obtain ⟨w0, rfl⟩ : ∃ w0 : Value, args = #[w0] := by
    have hs : args.size = 1 := by simpa [Cond.value, given_1] using gg1
    obtain ⟨L⟩ := args
    match L, hs with
    | [w0], _ => exact ⟨w0, rfl⟩
  have hw := fun d (hd : d ∈ tables_1) => atoms_spec (ws := Jvm.Cond.code x code maxLocals ret :: tables_1) hat d (List.mem_cons_of_mem _ hd)
  have hfit : Fit s := fun {y c} hc i hi => by
    obtain ⟨ha, rfl⟩ := Array.getElem?_eq_some_iff.mp hc
    have q := List.all_eq_true.mp ((Array.all_eq_true_iff_forall_mem.mp hF) _ (Array.getElem_mem ha)) i (List.mem_range.mpr hi)
    simpa [Array.getElem?_eq_getElem hi] using q
  obtain ⟨hsets, hown0⟩ := atoms_of _ (rest_1_c_eq ▸ (show rest_1_c.before _ s = true from hrest))
  obtain ⟨i0, ei0⟩ := is_v gg2
  obtain rfl : w0 = (.int i0) := Option.some.inj ei0
  obtain ⟨hn1, hn2⟩ := and_e hn
  obtain ⟨hn3, hn4⟩ := and_e hn2
  obtain ⟨hn5, hn6⟩ := and_e hn4
  obtain ⟨hn7, hn8⟩ := and_e hn6
  obtain ⟨hn9, hn10⟩ := and_e hn8
  obtain ⟨hn11, hn12⟩ := and_e hn10
  obtain ⟨hn13, hn14⟩ := and_e hn12
  obtain ⟨hn15, hn16⟩ := and_e hn14
  obtain ⟨hn17, hn18⟩ := and_e hn16
  obtain ⟨hn19, hn20⟩ := and_e hn18
  obtain ⟨hn21, hn22⟩ := and_e hn20
  obtain ⟨hn23, hn24⟩ := and_e hn22
  obtain ⟨hn25, hn26⟩ := and_e hn24
  obtain ⟨hn27, hn28⟩ := and_e hn26
  obtain ⟨hn29, hn30⟩ := and_e hn28
  obtain ⟨hn31, hn32⟩ := and_e hn30
  obtain ⟨hn33, hn34⟩ := and_e hn32
  obtain ⟨hn35, hn36⟩ := and_e hn34
  obtain ⟨hn37, hn38⟩ := and_e hn36
  obtain ⟨hn39, hn40⟩ := and_e hn38
  obtain ⟨hn41, hn42⟩ := and_e hn40
  obtain ⟨st_AddressType_SHIPPING, ev_st_AddressType_SHIPPING⟩ := exa_v hn1
  have S_st_AddressType_SHIPPING := Sta.start ev_st_AddressType_SHIPPING (Or.inr ⟨(hw _ (List.mem_of_getElem? (i := 2) rfl)), (hw _ (List.mem_of_getElem? (i := 3) rfl))⟩)
  have E_st_AddressType_SHIPPING := Exa.start ev_st_AddressType_SHIPPING hn1
  obtain ⟨st_AddressType_SHIPPING_code, ev_st_AddressType_SHIPPING_code⟩ := exa_v hn3
  have F_st_AddressType_SHIPPING_code := Fld.start ((fld_at ev_st_AddressType_SHIPPING).symm.trans ev_st_AddressType_SHIPPING_code)
  have E_st_AddressType_SHIPPING_code := Exa.start ev_st_AddressType_SHIPPING_code hn3
  obtain ⟨st_AddressType_SHIPPING_code_value, ev_st_AddressType_SHIPPING_code_value⟩ := arr_v hn5
  have F_st_AddressType_SHIPPING_code_value := Fld.start ((fld_at ev_st_AddressType_SHIPPING_code).symm.trans ev_st_AddressType_SHIPPING_code_value)
  obtain ⟨cl_st_AddressType_SHIPPING_code_value, Ar_st_AddressType_SHIPPING_code_value⟩ := Arr.start ev_st_AddressType_SHIPPING_code_value hn5
  have len_st_AddressType_SHIPPING_code_value := eqv_i (Term.int_eval (1 : Int32)) hn7
  have F_st_AddressType_SHIPPING_code_coder := Fld.start ((fld_at ev_st_AddressType_SHIPPING_code).symm.trans (eqv_i (Term.int_eval (0 : Int32)) hn9))
  have el_st_AddressType_SHIPPING_code_value_0 := eqv_i (Term.int_eval (83 : Int32)) hn11
  obtain ⟨st_AddressType_SHIPPING_AND_BILLING, ev_st_AddressType_SHIPPING_AND_BILLING⟩ := exa_v hn13
  have S_st_AddressType_SHIPPING_AND_BILLING := Sta.start ev_st_AddressType_SHIPPING_AND_BILLING (Or.inr ⟨(hw _ (List.mem_of_getElem? (i := 2) rfl)), (hw _ (List.mem_of_getElem? (i := 56) rfl))⟩)
  have E_st_AddressType_SHIPPING_AND_BILLING := Exa.start ev_st_AddressType_SHIPPING_AND_BILLING hn13
  obtain ⟨st_AddressType_SHIPPING_AND_BILLING_code, ev_st_AddressType_SHIPPING_AND_BILLING_code⟩ := exa_v hn15
  have F_st_AddressType_SHIPPING_AND_BILLING_code := Fld.start ((fld_at ev_st_AddressType_SHIPPING_AND_BILLING).symm.trans ev_st_AddressType_SHIPPING_AND_BILLING_code)
  have E_st_AddressType_SHIPPING_AND_BILLING_code := Exa.start ev_st_AddressType_SHIPPING_AND_BILLING_code hn15
  obtain ⟨st_AddressType_SHIPPING_AND_BILLING_code_value, ev_st_AddressType_SHIPPING_AND_BILLING_code_value⟩ := arr_v hn17
  have F_st_AddressType_SHIPPING_AND_BILLING_code_value := Fld.start ((fld_at ev_st_AddressType_SHIPPING_AND_BILLING_code).symm.trans ev_st_AddressType_SHIPPING_AND_BILLING_code_value)
  obtain ⟨cl_st_AddressType_SHIPPING_AND_BILLING_code_value, Ar_st_AddressType_SHIPPING_AND_BILLING_code_value⟩ := Arr.start ev_st_AddressType_SHIPPING_AND_BILLING_code_value hn17
  have len_st_AddressType_SHIPPING_AND_BILLING_code_value := eqv_i (Term.int_eval (2 : Int32)) hn19
  have F_st_AddressType_SHIPPING_AND_BILLING_code_coder := Fld.start ((fld_at ev_st_AddressType_SHIPPING_AND_BILLING_code).symm.trans (eqv_i (Term.int_eval (0 : Int32)) hn21))
  have el_st_AddressType_SHIPPING_AND_BILLING_code_value_1 := eqv_i (Term.int_eval (66 : Int32)) hn23
  have F_st_AddressType_SHIPPING_AND_BILLING_ordinal := Fld.start ((fld_at ev_st_AddressType_SHIPPING_AND_BILLING).symm.trans (eqv_i (Term.int_eval (2 : Int32)) hn25))
  have F_st_AddressType_SHIPPING_ordinal := Fld.start ((fld_at ev_st_AddressType_SHIPPING).symm.trans (eqv_i (Term.int_eval (0 : Int32)) hn27))
  obtain ⟨st_AddressType_BILLING, ev_st_AddressType_BILLING⟩ := exa_v hn29
  have S_st_AddressType_BILLING := Sta.start ev_st_AddressType_BILLING (Or.inr ⟨(hw _ (List.mem_of_getElem? (i := 2) rfl)), (hw _ (List.mem_of_getElem? (i := 58) rfl))⟩)
  have E_st_AddressType_BILLING := Exa.start ev_st_AddressType_BILLING hn29
  obtain ⟨st_AddressType_BILLING_code, ev_st_AddressType_BILLING_code⟩ := exa_v hn31
  have F_st_AddressType_BILLING_code := Fld.start ((fld_at ev_st_AddressType_BILLING).symm.trans ev_st_AddressType_BILLING_code)
  have E_st_AddressType_BILLING_code := Exa.start ev_st_AddressType_BILLING_code hn31
  obtain ⟨st_AddressType_BILLING_code_value, ev_st_AddressType_BILLING_code_value⟩ := arr_v hn33
  have F_st_AddressType_BILLING_code_value := Fld.start ((fld_at ev_st_AddressType_BILLING_code).symm.trans ev_st_AddressType_BILLING_code_value)
  obtain ⟨cl_st_AddressType_BILLING_code_value, Ar_st_AddressType_BILLING_code_value⟩ := Arr.start ev_st_AddressType_BILLING_code_value hn33
  have len_st_AddressType_BILLING_code_value := eqv_i (Term.int_eval (1 : Int32)) hn35
  have F_st_AddressType_BILLING_code_coder := Fld.start ((fld_at ev_st_AddressType_BILLING_code).symm.trans (eqv_i (Term.int_eval (0 : Int32)) hn37))
  have el_st_AddressType_BILLING_code_value_0 := eqv_i (Term.int_eval (66 : Int32)) hn39
  have F_st_AddressType_BILLING_ordinal := Fld.start ((fld_at ev_st_AddressType_BILLING).symm.trans (eqv_i (Term.int_eval (1 : Int32)) hn41))
  have el_st_AddressType_SHIPPING_AND_BILLING_code_value_0 := eqv_i (Term.int_eval (83 : Int32)) hn42
  have n3 := not_v (Cond.before_iff.mp (hsets _ (List.mem_of_getElem? (i := 2) rfl)))
  obtain ⟨cs, ecs⟩ := is_v (Cond.before_iff.mp (hsets _ (List.mem_of_getElem? (i := 1) rfl)))
  have hcs : ¬ cs = (0 : Int32) := own_ncs ecs n3
  have Scs := Sta.start ecs (Or.inl (hsets _ (List.mem_of_getElem? (i := 0) rfl)))
  obtain ⟨sf, esf, hsf⟩ := isR_v (Cond.before_iff.mp (hsets _ (List.mem_of_getElem? (i := 8) rfl)))
  have Ssf := Sta.start esf (Or.inl (hsets _ (List.mem_of_getElem? (i := 7) rfl)))
  obtain ⟨lt_S, ln_S⟩ := own_len ev_st_AddressType_SHIPPING_code_value Ar_st_AddressType_SHIPPING_code_value len_st_AddressType_SHIPPING_code_value
  have xS_0 := (elem_in el_st_AddressType_SHIPPING_code_value_0 ev_st_AddressType_SHIPPING_code_value (Term.int_eval (0 : Int32)) Ar_st_AddressType_SHIPPING_code_value.1).2
  have V_S : Arv s s.heap st_AddressType_SHIPPING_code_value cl_st_AddressType_SHIPPING_code_value.cls .byte (1 : Int32) [(.int (83 : Int32))] (.int (0 : Int32)) := Arv.start hfit Ar_st_AddressType_SHIPPING_code_value lt_S ln_S (by decide) rfl ⟨xS_0, trivial⟩
  obtain ⟨lt_B, ln_B⟩ := own_len ev_st_AddressType_BILLING_code_value Ar_st_AddressType_BILLING_code_value len_st_AddressType_BILLING_code_value
  have xB_0 := (elem_in el_st_AddressType_BILLING_code_value_0 ev_st_AddressType_BILLING_code_value (Term.int_eval (0 : Int32)) Ar_st_AddressType_BILLING_code_value.1).2
  have V_B : Arv s s.heap st_AddressType_BILLING_code_value cl_st_AddressType_BILLING_code_value.cls .byte (1 : Int32) [(.int (66 : Int32))] (.int (0 : Int32)) := Arv.start hfit Ar_st_AddressType_BILLING_code_value lt_B ln_B (by decide) rfl ⟨xB_0, trivial⟩
  obtain ⟨lt_C, ln_C⟩ := own_len ev_st_AddressType_SHIPPING_AND_BILLING_code_value Ar_st_AddressType_SHIPPING_AND_BILLING_code_value len_st_AddressType_SHIPPING_AND_BILLING_code_value
  have xC_0 := (elem_in el_st_AddressType_SHIPPING_AND_BILLING_code_value_0 ev_st_AddressType_SHIPPING_AND_BILLING_code_value (Term.int_eval (0 : Int32)) Ar_st_AddressType_SHIPPING_AND_BILLING_code_value.1).2
  have xC_1 := (elem_in el_st_AddressType_SHIPPING_AND_BILLING_code_value_1 ev_st_AddressType_SHIPPING_AND_BILLING_code_value (Term.int_eval (1 : Int32)) Ar_st_AddressType_SHIPPING_AND_BILLING_code_value.1).2
  have V_C : Arv s s.heap st_AddressType_SHIPPING_AND_BILLING_code_value cl_st_AddressType_SHIPPING_AND_BILLING_code_value.cls .byte (2 : Int32) [(.int (83 : Int32)), (.int (66 : Int32))] (.int (0 : Int32)) := Arv.start hfit Ar_st_AddressType_SHIPPING_AND_BILLING_code_value lt_C ln_C (by decide) rfl ⟨xC_0, xC_1, trivial⟩
  obtain ⟨n, o, h1, h2, h3, _, L, rfl, ⟨rfl, N⟩, hq⟩ := rmLaw l s _ hw tables_1 i0 cs sf st_AddressType_SHIPPING st_AddressType_SHIPPING_code st_AddressType_SHIPPING_code_value cl_st_AddressType_SHIPPING_code_value.cls st_AddressType_BILLING st_AddressType_BILLING_code st_AddressType_BILLING_code_value cl_st_AddressType_BILLING_code_value.cls st_AddressType_SHIPPING_AND_BILLING st_AddressType_SHIPPING_AND_BILLING_code st_AddressType_SHIPPING_AND_BILLING_code_value cl_st_AddressType_SHIPPING_AND_BILLING_code_value.cls s.heap s.heap.size (Nat.le_refl _) Scs hcs Ssf hsf S_st_AddressType_SHIPPING E_st_AddressType_SHIPPING F_st_AddressType_SHIPPING_code E_st_AddressType_SHIPPING_code F_st_AddressType_SHIPPING_code_coder F_st_AddressType_SHIPPING_code_value V_S S_st_AddressType_BILLING E_st_AddressType_BILLING F_st_AddressType_BILLING_code E_st_AddressType_BILLING_code F_st_AddressType_BILLING_code_coder F_st_AddressType_BILLING_code_value V_B S_st_AddressType_SHIPPING_AND_BILLING E_st_AddressType_SHIPPING_AND_BILLING F_st_AddressType_SHIPPING_AND_BILLING_code E_st_AddressType_SHIPPING_AND_BILLING_code F_st_AddressType_SHIPPING_AND_BILLING_code_coder F_st_AddressType_SHIPPING_AND_BILLING_code_value V_C (Fld.ne F_st_AddressType_BILLING_ordinal F_st_AddressType_SHIPPING_ordinal (by decide)) (Fld.ne F_st_AddressType_SHIPPING_AND_BILLING_ordinal F_st_AddressType_SHIPPING_ordinal (by decide)) p e ha hc hk s m _ below hf ((Spec.applies_iff_loose hf).mp happ).1 ⟨rfl, State.Warmed39.refl s, rfl⟩ trivial
  refine ⟨n, _, h1, h2, h3, hpost _ _ _ _ _ _ ⟨Cond.after_iff.mpr rfl, Cond.after_iff.mpr (eq_i res_at (Term.int_eval (1)) rfl), trivial⟩ ⟨hq.1, hq.2.1, (hq.2.2.sift fun y hy => Or.inr (N y hy)).mono (by decide) (by decide)⟩⟩
theorem main_1_1 : Claimed_1_1 := comes_1 fun _ _ _ _ _ _ h hF => ⟨h.1, hF⟩
theorem main_1_2 : Claimed_1_2 := comes_1 fun _ _ _ _ _ _ h hF => ⟨h.2.1, hF⟩
end Jvm.Pilot.@@N@@
namespace Jvm.Pilot.@@N@@
open Jvm Jvm.ClassFile Sem Op Lib Jvm.Free Jvm.Stand Jvm.Pilot.@@N@@.Jvm.D
/-! MADE BY PROGRAM (witnessworld.py) out of the Statement's table words and the real class files: 18 classes; the members and pool entries that the words name. The judged class is class 1, her method 1. -/
namespace start1
open Jvm.ClassFile
def u (s : String) : CpInfo := .utf8 (stringToUtf16 s)
/-- a pool by its gaps: so many unusable entries, then the entry; so many at the end -/
def gap : Nat → List CpInfo → List CpInfo
  | 0, r => r
  | n + 1, r => .unusable :: gap n r
def poolList (es : List (Nat × CpInfo)) (last : Nat) : List CpInfo := es.foldr (fun e r => gap e.1 (e.2 :: r)) (gap last [])
def pool (es : List (Nat × CpInfo)) (last : Nat) : Array CpInfo := ⟨poolList es last⟩
def fileOf (pool : Array CpInfo) (this : Nat) (attrs : Array Attribute := #[]) (ms : Array MethodInfo := #[]) (fl : Nat := 33) (sup : Nat := 0) (ifs : Array Nat := #[]) (fds : Array FieldInfo := #[]) : ClassFile where
  minorVersion := 0
  majorVersion := 65
  constantPool := pool
  accessFlags := fl
  thisClass := this
  superClass := sup
  interfaces := ifs
  fields := fds
  methods := ms
  attributes := attrs
def plain (name : String) (sup : Option ClassId) : Class where
  name := name
  kind := .ordinary
  loader := none
  accessFlags := 33
  super := sup
  interfaces := #[]
  cf := none
  fields := #[]
  methods := #[]
  instanceTypes := #[]
  staticTypes := #[]
  resolved := #[]
  callSites := []
  init := .initialized
  statics := none
  mirror := none

def pool0 : Array CpInfo := pool [(5, u "<init>"), (0, u "()V"), (1, .class_ 10), (1, u "java/lang/Object")] 113

def k0m0 : Method := { name := "<init>", desc := "()V", sig := { parameters := [], returnType := none }, accessFlags := 1, code := none }
/-- java/lang/Object -/
def k0 : Class := { plain "java/lang/Object" none with
  accessFlags := 33
  interfaces := #[]
  cf := some (fileOf pool0 8 #[] #[{ accessFlags := 1, nameIndex := 5, descriptorIndex := 6, attributes := #[] }] 33 0 #[] #[])
  fields := #[]
  methods := #[k0m0]
  instanceTypes := #[]
  staticTypes := #[]
  resolved := Array.replicate 124 none
  statics := none }

def pool1 : Array CpInfo := pool [(2, .class_ 4), (1, u "java/lang/Object"), (0, u "<init>"), (0, u "()V"), (0, .integer 2147483647), (0, .fieldref 9 10), (0, .class_ 11), (0, .nameAndType 12 13), (0, u "com/example/cartwright/cartwright/core/AddressType"), (0, u "SHIPPING"), (0, u "Lcom/example/cartwright/cartwright/core/AddressType;"), (0, .fieldref 9 15), (0, .nameAndType 16 13), (0, u "BILLING"), (0, .fieldref 9 18), (0, .nameAndType 19 13), (0, u "SHIPPING_AND_BILLING"), (0, .methodref 9 21), (0, .nameAndType 22 23), (0, u "code"), (0, u "()Ljava/lang/String;"), (0, .methodref 25 26), (0, .class_ 27), (0, .nameAndType 28 29), (0, u "java/lang/String"), (0, u "length"), (0, u "()I"), (0, .methodref 25 31), (0, .nameAndType 32 33), (0, u "charAt"), (0, u "(I)C"), (0, .methodref 9 35), (0, .nameAndType 36 37), (0, u "bills"), (0, u "()Z"), (0, .class_ 39), (0, u "com/example/cartwright/cartwright/core/AddressTypeBillsPinLaw"), (2, u "law"), (0, u "(I)Z")] 3

def k1m0 : Method := { name := "<init>", desc := "()V", sig := { parameters := [], returnType := none }, accessFlags := 1, code := none }
def k1c1 : Code := { maxStack := 3, maxLocals := 7, code := code, exceptionTable := #[], attributes := #[] }
def k1m1 : Method := { name := "law", desc := "(I)Z", sig := { parameters := [.int], returnType := some .boolean }, accessFlags := 9, code := some k1c1 }
/-- com/example/cartwright/cartwright/core/AddressTypeBillsPinLaw -/
def k1 : Class := { plain "com/example/cartwright/cartwright/core/AddressTypeBillsPinLaw" (some 0) with
  accessFlags := 49
  interfaces := #[]
  cf := some (fileOf pool1 38 #[] #[{ accessFlags := 1, nameIndex := 5, descriptorIndex := 6, attributes := #[] }, { accessFlags := 9, nameIndex := 42, descriptorIndex := 43, attributes := #[] }] 49 2 #[] #[])
  fields := #[]
  methods := #[k1m0, k1m1]
  instanceTypes := #[]
  staticTypes := #[]
  resolved := Array.replicate 47 none
  statics := none }

def pool2 : Array CpInfo := pool [(1, .class_ 2), (0, u "java/lang/constant/Constable"), (0, .class_ 4), (0, u "java/lang/Object")] 6

/-- java/lang/constant/Constable -/
def k2 : Class := { plain "java/lang/constant/Constable" (some 0) with
  accessFlags := 1537
  interfaces := #[]
  cf := some (fileOf pool2 1 #[] #[] 1537 3 #[] #[])
  fields := #[]
  methods := #[]
  instanceTypes := #[]
  staticTypes := #[]
  resolved := Array.replicate 11 none
  statics := none }

def pool3 : Array CpInfo := pool [(1, .class_ 2), (0, u "java/lang/Comparable"), (0, .class_ 4), (0, u "java/lang/Object")] 7

/-- java/lang/Comparable -/
def k3 : Class := { plain "java/lang/Comparable" (some 0) with
  accessFlags := 1537
  interfaces := #[]
  cf := some (fileOf pool3 1 #[] #[] 1537 3 #[] #[])
  fields := #[]
  methods := #[]
  instanceTypes := #[]
  staticTypes := #[]
  resolved := Array.replicate 12 none
  statics := none }

def pool4 : Array CpInfo := pool [(1, .class_ 2), (0, u "java/io/Serializable"), (0, .class_ 4), (0, u "java/lang/Object")] 2

/-- java/io/Serializable -/
def k4 : Class := { plain "java/io/Serializable" (some 0) with
  accessFlags := 1537
  interfaces := #[]
  cf := some (fileOf pool4 1 #[] #[] 1537 3 #[] #[])
  fields := #[]
  methods := #[]
  instanceTypes := #[]
  staticTypes := #[]
  resolved := Array.replicate 7 none
  statics := none }

def pool5 : Array CpInfo := pool [(2, .class_ 4), (1, u "java/lang/Enum"), (0, u "name"), (0, u "Ljava/lang/String;"), (2, u "ordinal"), (0, u "I"), (1, .class_ 14), (1, u "java/lang/Object"), (4, u "hash"), (86, .class_ 108), (1, u "java/lang/Enum$EnumDesc"), (2, .class_ 112), (0, u "java/lang/constant/Constable"), (0, .class_ 114), (0, u "java/lang/Comparable"), (0, .class_ 116), (0, u "java/io/Serializable")] 87

/-- java/lang/Enum -/
def k5 : Class := { plain "java/lang/Enum" (some 0) with
  accessFlags := 1057
  interfaces := #[2, 3, 4]
  cf := some (fileOf pool5 2 #[.nestMembers #[106]] #[] 1057 12 #[111, 113, 115] #[{ accessFlags := 18, nameIndex := 5, descriptorIndex := 6, attributes := #[] }, { accessFlags := 18, nameIndex := 9, descriptorIndex := 10, attributes := #[] }, { accessFlags := 2, nameIndex := 19, descriptorIndex := 10, attributes := #[] }])
  fields := #[{ name := "name", type := (.object "java/lang/String"), accessFlags := 18, slot := 0, constantValue := 0 }, { name := "ordinal", type := .int, accessFlags := 18, slot := 1, constantValue := 0 }, { name := "hash", type := .int, accessFlags := 2, slot := 2, constantValue := 0 }]
  methods := #[]
  instanceTypes := #[(.object "java/lang/String"), .int, .int]
  staticTypes := #[]
  resolved := Array.replicate 204 none
  statics := none }

def pool6 : Array CpInfo := pool [(1, .class_ 2), (0, u "com/example/cartwright/cartwright/core/AddressType"), (0, .fieldref 1 4), (0, .nameAndType 5 6), (0, u "SHIPPING"), (0, u "Lcom/example/cartwright/cartwright/core/AddressType;"), (2, u "BILLING"), (2, u "SHIPPING_AND_BILLING"), (2, u "$VALUES"), (0, u "[Lcom/example/cartwright/cartwright/core/AddressType;"), (6, .class_ 25), (1, u "java/lang/Enum"), (6, .fieldref 1 33), (0, .nameAndType 34 35), (0, u "code"), (0, u "Ljava/lang/String;"), (41, u "()Ljava/lang/String;"), (4, u "()Z"), (0, u "bills")] 5

def k6c0 : Code := { maxStack := 1, maxLocals := 1, code := prog_4_method_4_code, exceptionTable := #[], attributes := #[] }
def k6m0 : Method := { name := "code", desc := "()Ljava/lang/String;", sig := { parameters := [], returnType := some (.object "java/lang/String") }, accessFlags := 1, code := some k6c0 }
def k6c1 : Code := { maxStack := 2, maxLocals := 1, code := prog_4_method_7_code, exceptionTable := #[], attributes := #[] }
def k6m1 : Method := { name := "bills", desc := "()Z", sig := { parameters := [], returnType := some .boolean }, accessFlags := 1, code := some k6c1 }
/-- com/example/cartwright/cartwright/core/AddressType -/
def k6 : Class := { plain "com/example/cartwright/cartwright/core/AddressType" (some 5) with
  accessFlags := 16433
  interfaces := #[]
  cf := some (fileOf pool6 1 #[] #[{ accessFlags := 1, nameIndex := 34, descriptorIndex := 77, attributes := #[] }, { accessFlags := 1, nameIndex := 83, descriptorIndex := 82, attributes := #[] }] 16433 23 #[] #[{ accessFlags := 16409, nameIndex := 5, descriptorIndex := 6, attributes := #[] }, { accessFlags := 16409, nameIndex := 9, descriptorIndex := 6, attributes := #[] }, { accessFlags := 16409, nameIndex := 12, descriptorIndex := 6, attributes := #[] }, { accessFlags := 18, nameIndex := 34, descriptorIndex := 35, attributes := #[] }, { accessFlags := 4122, nameIndex := 15, descriptorIndex := 16, attributes := #[] }])
  fields := #[{ name := "SHIPPING", type := (.object "com/example/cartwright/cartwright/core/AddressType"), accessFlags := 16409, slot := 0, constantValue := 0 }, { name := "BILLING", type := (.object "com/example/cartwright/cartwright/core/AddressType"), accessFlags := 16409, slot := 1, constantValue := 0 }, { name := "SHIPPING_AND_BILLING", type := (.object "com/example/cartwright/cartwright/core/AddressType"), accessFlags := 16409, slot := 2, constantValue := 0 }, { name := "code", type := (.object "java/lang/String"), accessFlags := 18, slot := 3, constantValue := 0 }, { name := "$VALUES", type := (.array (.object "com/example/cartwright/cartwright/core/AddressType")), accessFlags := 4122, slot := 3, constantValue := 0 }]
  methods := #[k6m0, k6m1]
  instanceTypes := #[(.object "java/lang/String"), .int, .int, (.object "java/lang/String")]
  staticTypes := #[(.object "com/example/cartwright/cartwright/core/AddressType"), (.object "com/example/cartwright/cartwright/core/AddressType"), (.object "com/example/cartwright/cartwright/core/AddressType"), (.array (.object "com/example/cartwright/cartwright/core/AddressType"))]
  resolved := Array.replicate 89 none
  statics := some 0 }

def pool7 : Array CpInfo := pool [(2, .class_ 4), (1, u "java/lang/CharSequence"), (42, .class_ 48), (0, u "java/lang/CharSequence$1CodePointIterator"), (10, .class_ 60), (0, u "java/lang/CharSequence$1CharIterator"), (5, .class_ 67), (0, u "java/lang/Object")] 63

/-- java/lang/CharSequence -/
def k7 : Class := { plain "java/lang/CharSequence" (some 0) with
  accessFlags := 1537
  interfaces := #[]
  cf := some (fileOf pool7 2 #[.nestMembers #[47, 59]] #[] 1537 66 #[] #[])
  fields := #[]
  methods := #[]
  instanceTypes := #[]
  staticTypes := #[]
  resolved := Array.replicate 131 none
  statics := none }

def pool8 : Array CpInfo := pool [(1, .class_ 2), (0, u "java/lang/constant/ConstantDesc"), (0, .class_ 4), (0, u "java/lang/Object")] 32

/-- java/lang/constant/ConstantDesc -/
def k8 : Class := { plain "java/lang/constant/ConstantDesc" (some 0) with
  accessFlags := 1537
  interfaces := #[]
  cf := some (fileOf pool8 1 #[] #[] 1537 3 #[] #[])
  fields := #[]
  methods := #[]
  instanceTypes := #[]
  staticTypes := #[]
  resolved := Array.replicate 37 none
  statics := none }

def pool9 : Array CpInfo := pool [(2, .class_ 4), (1, u "java/lang/Object"), (0, u "<init>"), (0, u "()V"), (2, .fieldref 10 11), (0, .class_ 12), (0, .nameAndType 13 14), (0, u "java/lang/String"), (0, u "value"), (0, u "[B"), (0, .fieldref 10 16), (0, .nameAndType 17 18), (0, u "coder"), (0, u "B"), (2, u "hash"), (0, u "I"), (2, u "hashIsZero"), (0, u "Z"), (11, .fieldref 10 39), (0, .nameAndType 40 26), (0, u "COMPACT_STRINGS"), (66, .class_ 109), (1, u "java/lang/StringLatin1"), (32, u "()Z"), (191, u "()I"), (0, .methodref 10 336), (0, .nameAndType 17 337), (0, u "()B"), (25, u "([BI)C"), (27, u "(II)V"), (35, u "(I)C"), (64, .methodref 10 493), (0, .nameAndType 494 142), (0, u "isLatin1"), (0, .methodref 107 496), (0, .nameAndType 497 363), (0, u "charAt"), (3, u "checkIndex"), (5, u "length"), (67, .class_ 576), (0, u "java/lang/CharSequence"), (22, u "CASE_INSENSITIVE_ORDER"), (0, u "Ljava/util/Comparator;"), (452, .fieldref 1054 1055), (0, .class_ 1056), (0, .nameAndType 1057 1058), (0, u "jdk/internal/util/Preconditions"), (0, u "SIOOBE_FORMATTER"), (0, u "Ljava/util/function/BiFunction;"), (0, .methodref 1054 1060), (0, .nameAndType 501 1061), (0, u "(IILjava/util/function/BiFunction;)I"), (39, u "serialPersistentFields"), (0, u "[Ljava/io/ObjectStreamField;"), (0, .class_ 1104), (0, u "java/lang/String$CaseInsensitiveComparator"), (1, .class_ 1107), (0, u "java/io/Serializable"), (0, .class_ 1109), (0, u "java/lang/Comparable"), (0, .class_ 1111), (0, u "java/lang/constant/Constable"), (0, .class_ 1113), (0, u "java/lang/constant/ConstantDesc"), (2, u "serialVersionUID"), (0, u "J"), (3, u "REPL"), (0, u "C"), (2, u "LATIN1"), (1, u "UTF16")] 323

def k9m0 : Method := { name := "<init>", desc := "()V", sig := { parameters := [], returnType := none }, accessFlags := 1, code := none }
def k9c1 : Code := { maxStack := 2, maxLocals := 1, code := jdk_42_method_54_code, exceptionTable := #[], attributes := #[] }
def k9m1 : Method := { name := "length", desc := "()I", sig := { parameters := [], returnType := some .int }, accessFlags := 1, code := some k9c1 }
def k9c2 : Code := { maxStack := 2, maxLocals := 2, code := jdk_42_method_56_code, exceptionTable := #[], attributes := #[] }
def k9m2 : Method := { name := "charAt", desc := "(I)C", sig := { parameters := [.int], returnType := some .char }, accessFlags := 1, code := some k9c2 }
def k9c3 : Code := { maxStack := 1, maxLocals := 1, code := jdk_42_method_152_code, exceptionTable := #[], attributes := #[] }
def k9m3 : Method := { name := "coder", desc := "()B", sig := { parameters := [], returnType := some .byte }, accessFlags := 0, code := some k9c3 }
def k9c4 : Code := { maxStack := 1, maxLocals := 1, code := jdk_42_method_154_code, exceptionTable := #[], attributes := #[] }
def k9m4 : Method := { name := "isLatin1", desc := "()Z", sig := { parameters := [], returnType := some .boolean }, accessFlags := 0, code := some k9c4 }
def k9c5 : Code := { maxStack := 3, maxLocals := 2, code := jdk_42_method_155_code, exceptionTable := #[], attributes := #[] }
def k9m5 : Method := { name := "checkIndex", desc := "(II)V", sig := { parameters := [.int, .int], returnType := none }, accessFlags := 8, code := some k9c5 }
/-- java/lang/String -/
def k9 : Class := { plain "java/lang/String" (some 0) with
  accessFlags := 49
  interfaces := #[4, 3, 7, 2, 8]
  cf := some (fileOf pool9 10 #[.nestMembers #[1103]] #[{ accessFlags := 1, nameIndex := 5, descriptorIndex := 6, attributes := #[] }, { accessFlags := 1, nameIndex := 507, descriptorIndex := 334, attributes := #[] }, { accessFlags := 1, nameIndex := 497, descriptorIndex := 427, attributes := #[] }, { accessFlags := 0, nameIndex := 17, descriptorIndex := 337, attributes := #[] }, { accessFlags := 0, nameIndex := 494, descriptorIndex := 142, attributes := #[] }, { accessFlags := 8, nameIndex := 501, descriptorIndex := 391, attributes := #[] }] 49 2 #[1106, 1108, 575, 1110, 1112] #[{ accessFlags := 18, nameIndex := 13, descriptorIndex := 14, attributes := #[] }, { accessFlags := 18, nameIndex := 17, descriptorIndex := 18, attributes := #[] }, { accessFlags := 2, nameIndex := 21, descriptorIndex := 22, attributes := #[] }, { accessFlags := 2, nameIndex := 25, descriptorIndex := 26, attributes := #[] }, { accessFlags := 26, nameIndex := 1116, descriptorIndex := 1117, attributes := #[] }, { accessFlags := 24, nameIndex := 40, descriptorIndex := 26, attributes := #[] }, { accessFlags := 26, nameIndex := 1101, descriptorIndex := 1102, attributes := #[] }, { accessFlags := 26, nameIndex := 1121, descriptorIndex := 1122, attributes := #[] }, { accessFlags := 25, nameIndex := 599, descriptorIndex := 600, attributes := #[] }, { accessFlags := 24, nameIndex := 1125, descriptorIndex := 18, attributes := #[] }, { accessFlags := 24, nameIndex := 1127, descriptorIndex := 18, attributes := #[] }])
  fields := #[{ name := "value", type := (.array .byte), accessFlags := 18, slot := 0, constantValue := 0 }, { name := "coder", type := .byte, accessFlags := 18, slot := 1, constantValue := 0 }, { name := "hash", type := .int, accessFlags := 2, slot := 2, constantValue := 0 }, { name := "hashIsZero", type := .boolean, accessFlags := 2, slot := 3, constantValue := 0 }, { name := "serialVersionUID", type := .long, accessFlags := 26, slot := 0, constantValue := 0 }, { name := "COMPACT_STRINGS", type := .boolean, accessFlags := 24, slot := 1, constantValue := 0 }, { name := "serialPersistentFields", type := (.array (.object "java/io/ObjectStreamField")), accessFlags := 26, slot := 2, constantValue := 0 }, { name := "REPL", type := .char, accessFlags := 26, slot := 3, constantValue := 0 }, { name := "CASE_INSENSITIVE_ORDER", type := (.object "java/util/Comparator"), accessFlags := 25, slot := 4, constantValue := 0 }, { name := "LATIN1", type := .byte, accessFlags := 24, slot := 5, constantValue := 0 }, { name := "UTF16", type := .byte, accessFlags := 24, slot := 6, constantValue := 0 }]
  methods := #[k9m0, k9m1, k9m2, k9m3, k9m4, k9m5]
  instanceTypes := #[(.array .byte), .byte, .int, .boolean]
  staticTypes := #[.long, .boolean, (.array (.object "java/io/ObjectStreamField")), .char, (.object "java/util/Comparator"), .byte, .byte]
  resolved := Array.replicate 1451 none
  statics := some 1 }

def pool10 : Array CpInfo := pool [(1, .class_ 2), (0, u "java/lang/String"), (1, .class_ 6), (1, u "java/lang/Object"), (0, u "<init>"), (0, u "()V"), (0, .methodref 1 10), (0, .nameAndType 11 12), (0, u "checkIndex"), (0, u "(II)V"), (1, .class_ 16), (1, u "java/lang/StringLatin1"), (36, u "([BI)C"), (67, u "$assertionsDisabled"), (0, u "Z"), (98, .class_ 223), (1, u "java/lang/StringLatin1$LinesSpliterator"), (28, u "charAt"), (137, .class_ 391), (0, u "java/lang/StringLatin1$CharsSpliterator")] 3

def k10m0 : Method := { name := "<init>", desc := "()V", sig := { parameters := [], returnType := none }, accessFlags := 0, code := none }
def k10c1 : Code := { maxStack := 2, maxLocals := 2, code := jdk_43_method_2_code, exceptionTable := #[], attributes := #[] }
def k10m1 : Method := { name := "charAt", desc := "([BI)C", sig := { parameters := [(.array .byte), .int], returnType := some .char }, accessFlags := 9, code := some k10c1 }
/-- java/lang/StringLatin1 -/
def k10 : Class := { plain "java/lang/StringLatin1" (some 0) with
  accessFlags := 48
  interfaces := #[]
  cf := some (fileOf pool10 14 #[.nestMembers #[390, 221]] #[{ accessFlags := 0, nameIndex := 7, descriptorIndex := 8, attributes := #[] }, { accessFlags := 9, nameIndex := 252, descriptorIndex := 53, attributes := #[] }] 48 4 #[] #[{ accessFlags := 4120, nameIndex := 121, descriptorIndex := 122, attributes := #[] }])
  fields := #[{ name := "$assertionsDisabled", type := .boolean, accessFlags := 4120, slot := 0, constantValue := 0 }]
  methods := #[k10m0, k10m1]
  instanceTypes := #[]
  staticTypes := #[.boolean]
  resolved := Array.replicate 395 none
  statics := none }

def pool11 : Array CpInfo := pool [(2, .class_ 4), (1, u "java/lang/Object"), (0, u "<init>"), (0, u "()V"), (17, .class_ 26), (1, u "jdk/internal/util/Preconditions"), (6, u "checkIndex"), (21, .class_ 56), (0, u "jdk/internal/util/Preconditions$4"), (57, .class_ 115), (0, u "jdk/internal/util/Preconditions$1"), (7, u "SIOOBE_FORMATTER"), (0, u "Ljava/util/function/BiFunction;"), (0, .class_ 126), (0, u "jdk/internal/util/Preconditions$2"), (3, u "AIOOBE_FORMATTER"), (0, .class_ 132), (0, u "jdk/internal/util/Preconditions$3"), (3, u "IOOBE_FORMATTER"), (41, u "(IILjava/util/function/BiFunction;)I")] 15

def k11m0 : Method := { name := "<init>", desc := "()V", sig := { parameters := [], returnType := none }, accessFlags := 1, code := none }
def k11c1 : Code := { maxStack := 3, maxLocals := 3, code := jdk_41_method_11_code, exceptionTable := #[], attributes := #[] }
def k11m1 : Method := { name := "checkIndex", desc := "(IILjava/util/function/BiFunction;)I", sig := { parameters := [.int, .int, (.object "java/util/function/BiFunction")], returnType := some .int }, accessFlags := 9, code := some k11c1 }
/-- jdk/internal/util/Preconditions -/
def k11 : Class := { plain "jdk/internal/util/Preconditions" (some 0) with
  accessFlags := 33
  interfaces := #[]
  cf := some (fileOf pool11 24 #[.nestMembers #[55, 131, 125, 114]] #[{ accessFlags := 1, nameIndex := 5, descriptorIndex := 6, attributes := #[] }, { accessFlags := 9, nameIndex := 33, descriptorIndex := 178, attributes := #[] }] 33 2 #[] #[{ accessFlags := 25, nameIndex := 123, descriptorIndex := 124, attributes := #[] }, { accessFlags := 25, nameIndex := 130, descriptorIndex := 124, attributes := #[] }, { accessFlags := 25, nameIndex := 136, descriptorIndex := 124, attributes := #[] }])
  fields := #[{ name := "SIOOBE_FORMATTER", type := (.object "java/util/function/BiFunction"), accessFlags := 25, slot := 0, constantValue := 0 }, { name := "AIOOBE_FORMATTER", type := (.object "java/util/function/BiFunction"), accessFlags := 25, slot := 1, constantValue := 0 }, { name := "IOOBE_FORMATTER", type := (.object "java/util/function/BiFunction"), accessFlags := 25, slot := 2, constantValue := 0 }]
  methods := #[k11m0, k11m1]
  instanceTypes := #[]
  staticTypes := #[(.object "java/util/function/BiFunction"), (.object "java/util/function/BiFunction"), (.object "java/util/function/BiFunction")]
  resolved := Array.replicate 194 none
  statics := some 2 }

def pool12 : Array CpInfo := pool [(9, u "<init>"), (6, .class_ 18), (1, u "java/lang/Object"), (0, u "()V"), (1, .class_ 23), (1, u "jdk/internal/util/ArraysSupport"), (0, u "LOG2_ARRAY_LONG_INDEX_SCALE"), (0, u "I"), (2, u "U"), (0, u "Ljdk/internal/misc/Unsafe;"), (8, u "BIG_ENDIAN"), (0, u "Z"), (8, u "LOG2_BYTE_BIT_SIZE"), (4, u "LOG2_ARRAY_INT_INDEX_SCALE"), (54, u "JLA"), (0, u "Ljdk/internal/access/JavaLangAccess;"), (11, u "LOG2_ARRAY_BOOLEAN_INDEX_SCALE"), (9, u "LOG2_ARRAY_BYTE_INDEX_SCALE"), (5, u "LOG2_ARRAY_CHAR_INDEX_SCALE"), (5, u "LOG2_ARRAY_SHORT_INDEX_SCALE"), (18, u "LOG2_ARRAY_FLOAT_INDEX_SCALE"), (24, u "LOG2_ARRAY_DOUBLE_INDEX_SCALE"), (89, u "T_BOOLEAN"), (2, u "T_CHAR"), (1, u "T_FLOAT"), (1, u "T_DOUBLE"), (1, u "T_BYTE"), (1, u "T_SHORT"), (1, u "T_INT"), (1, u "T_LONG"), (1, u "SOFT_MAX_ARRAY_LENGTH")] 83

def k12m0 : Method := { name := "<init>", desc := "()V", sig := { parameters := [], returnType := none }, accessFlags := 2, code := none }
/-- jdk/internal/util/ArraysSupport -/
def k12 : Class := { plain "jdk/internal/util/ArraysSupport" (some 0) with
  accessFlags := 33
  interfaces := #[]
  cf := some (fileOf pool12 21 #[] #[{ accessFlags := 2, nameIndex := 9, descriptorIndex := 19, attributes := #[] }] 33 16 #[] #[{ accessFlags := 24, nameIndex := 28, descriptorIndex := 29, attributes := #[] }, { accessFlags := 26, nameIndex := 38, descriptorIndex := 39, attributes := #[] }, { accessFlags := 25, nameIndex := 121, descriptorIndex := 25, attributes := #[] }, { accessFlags := 25, nameIndex := 131, descriptorIndex := 25, attributes := #[] }, { accessFlags := 25, nameIndex := 137, descriptorIndex := 25, attributes := #[] }, { accessFlags := 25, nameIndex := 143, descriptorIndex := 25, attributes := #[] }, { accessFlags := 25, nameIndex := 53, descriptorIndex := 25, attributes := #[] }, { accessFlags := 25, nameIndex := 24, descriptorIndex := 25, attributes := #[] }, { accessFlags := 25, nameIndex := 162, descriptorIndex := 25, attributes := #[] }, { accessFlags := 25, nameIndex := 187, descriptorIndex := 25, attributes := #[] }, { accessFlags := 26, nameIndex := 48, descriptorIndex := 25, attributes := #[] }, { accessFlags := 25, nameIndex := 277, descriptorIndex := 25, attributes := #[] }, { accessFlags := 25, nameIndex := 280, descriptorIndex := 25, attributes := #[] }, { accessFlags := 25, nameIndex := 282, descriptorIndex := 25, attributes := #[] }, { accessFlags := 25, nameIndex := 284, descriptorIndex := 25, attributes := #[] }, { accessFlags := 25, nameIndex := 286, descriptorIndex := 25, attributes := #[] }, { accessFlags := 25, nameIndex := 288, descriptorIndex := 25, attributes := #[] }, { accessFlags := 25, nameIndex := 290, descriptorIndex := 25, attributes := #[] }, { accessFlags := 25, nameIndex := 292, descriptorIndex := 25, attributes := #[] }, { accessFlags := 26, nameIndex := 108, descriptorIndex := 109, attributes := #[] }, { accessFlags := 25, nameIndex := 294, descriptorIndex := 25, attributes := #[] }])
  fields := #[{ name := "U", type := (.object "jdk/internal/misc/Unsafe"), accessFlags := 24, slot := 0, constantValue := 0 }, { name := "BIG_ENDIAN", type := .boolean, accessFlags := 26, slot := 1, constantValue := 0 }, { name := "LOG2_ARRAY_BOOLEAN_INDEX_SCALE", type := .int, accessFlags := 25, slot := 2, constantValue := 0 }, { name := "LOG2_ARRAY_BYTE_INDEX_SCALE", type := .int, accessFlags := 25, slot := 3, constantValue := 0 }, { name := "LOG2_ARRAY_CHAR_INDEX_SCALE", type := .int, accessFlags := 25, slot := 4, constantValue := 0 }, { name := "LOG2_ARRAY_SHORT_INDEX_SCALE", type := .int, accessFlags := 25, slot := 5, constantValue := 0 }, { name := "LOG2_ARRAY_INT_INDEX_SCALE", type := .int, accessFlags := 25, slot := 6, constantValue := 0 }, { name := "LOG2_ARRAY_LONG_INDEX_SCALE", type := .int, accessFlags := 25, slot := 7, constantValue := 0 }, { name := "LOG2_ARRAY_FLOAT_INDEX_SCALE", type := .int, accessFlags := 25, slot := 8, constantValue := 0 }, { name := "LOG2_ARRAY_DOUBLE_INDEX_SCALE", type := .int, accessFlags := 25, slot := 9, constantValue := 0 }, { name := "LOG2_BYTE_BIT_SIZE", type := .int, accessFlags := 26, slot := 10, constantValue := 0 }, { name := "T_BOOLEAN", type := .int, accessFlags := 25, slot := 11, constantValue := 0 }, { name := "T_CHAR", type := .int, accessFlags := 25, slot := 12, constantValue := 0 }, { name := "T_FLOAT", type := .int, accessFlags := 25, slot := 13, constantValue := 0 }, { name := "T_DOUBLE", type := .int, accessFlags := 25, slot := 14, constantValue := 0 }, { name := "T_BYTE", type := .int, accessFlags := 25, slot := 15, constantValue := 0 }, { name := "T_SHORT", type := .int, accessFlags := 25, slot := 16, constantValue := 0 }, { name := "T_INT", type := .int, accessFlags := 25, slot := 17, constantValue := 0 }, { name := "T_LONG", type := .int, accessFlags := 25, slot := 18, constantValue := 0 }, { name := "JLA", type := (.object "jdk/internal/access/JavaLangAccess"), accessFlags := 26, slot := 19, constantValue := 0 }, { name := "SOFT_MAX_ARRAY_LENGTH", type := .int, accessFlags := 25, slot := 20, constantValue := 0 }]
  methods := #[k12m0]
  instanceTypes := #[]
  staticTypes := #[(.object "jdk/internal/misc/Unsafe"), .boolean, .int, .int, .int, .int, .int, .int, .int, .int, .int, .int, .int, .int, .int, .int, .int, .int, .int, (.object "jdk/internal/access/JavaLangAccess"), .int]
  resolved := Array.replicate 378 none
  statics := none }

def pool13 : Array CpInfo := pool [(1, u "java/lang/Cloneable"), (0, .class_ 1), (0, u "java/lang/Object"), (0, .class_ 3)] 3

/-- java/lang/Cloneable -/
def k13 : Class := { plain "java/lang/Cloneable" (some 0) with
  accessFlags := 1537
  interfaces := #[]
  cf := some (fileOf pool13 2 #[] #[] 1537 4 #[] #[])
  fields := #[]
  methods := #[]
  instanceTypes := #[]
  staticTypes := #[]
  resolved := Array.replicate 8 none
  statics := none }

/-- the primitive byte -/
def k14 : Class := { plain "byte" none with kind := .primitive 'B', accessFlags := 0x411 }
/-- [B -/
def k15 : Class := { plain "[B" (some 0) with kind := .array 14 .byte, interfaces := #[13, 4], accessFlags := 1041 }

/-- the primitive int -/
def k16 : Class := { plain "int" none with kind := .primitive 'I', accessFlags := 0x411 }
/-- [I -/
def k17 : Class := { plain "[I" (some 0) with kind := .array 16 .int, interfaces := #[13, 4], accessFlags := 1041 }

def heap : Heap := #[{ cls := 6, slots := #[.ref 9, .ref 10, .ref 11, .null], vm := .statics 6 },
  { cls := 9, slots := #[.long 0, .int 1, .null, .int 0, .null, .int 0, .int 0], vm := .statics 9 },
  { cls := 11, slots := #[.null, .null, .null], vm := .statics 11 },
  { cls := 15, slots := #[.int 83], vm := .none },
  { cls := 15, slots := #[.int 66], vm := .none },
  { cls := 15, slots := #[.int 83, .int 66], vm := .none },
  { cls := 9, slots := #[.ref 3, .int 0, .int 0, .int 0], vm := .none },
  { cls := 9, slots := #[.ref 4, .int 0, .int 0, .int 0], vm := .none },
  { cls := 9, slots := #[.ref 5, .int 0, .int 0, .int 0], vm := .none },
  { cls := 6, slots := #[.null, .int 0, .int 0, .ref 6], vm := .none },
  { cls := 6, slots := #[.null, .int 1, .int 0, .ref 7], vm := .none },
  { cls := 6, slots := #[.null, .int 2, .int 0, .ref 8], vm := .none }]
def classes : Array Class := #[k0, k1, k2, k3, k4, k5, k6, k7, k8, k9, k10, k11, k12, k13, k14, k15, k16, k17]
def interned : List (Array UInt16 × Addr) := []
def slotsUsed : Nat := 42
def theMethod : MethodId := ⟨1, 1⟩
def args0 : Array Value := #[.int 9]
def aboutOver (below : List Frame) : State where
  vm := { classes := classes, interned := interned.toArray }
  heap := heap
  slotsUsed := slotsUsed
  threads := #[{ frames := .invoking theMethod args0 :: below }]
def below0 : List Frame := [.native { method := ⟨0, 0⟩, args := #[] }]
def about1 : State := aboutOver below0
def p0 : Program := .bare "" "" ""
def e0 : Env := launch0.env 0 0 0
theorem w_frames : about1.frames = Frame.invoking theMethod args0 :: below0 := rfl
set_option maxRecDepth 65536 in
theorem w_args : argsFit about1.vm theMethod args0 = true := by decide +kernel
set_option maxRecDepth 65536 in
theorem w_heap : heapFits about1 = true := by decide +kernel
set_option maxRecDepth 65536 in
theorem w_runnable : about1.curStatus? = some .runnable := by decide +kernel
set_option maxRecDepth 65536 in
theorem w_alone : about1.alone = true := by decide +kernel
set_option maxRecDepth 65536 in
theorem w_named : about1.methodNamed? x = some theMethod := by decide +kernel
set_option maxRecDepth 65536 in
theorem w_hears : about1.hears theMethod below0 = true := by decide +kernel
set_option maxRecDepth 65536 in
theorem w_ripe : about1.ripe theMethod args0 below0 = true := by decide +kernel
theorem w_running : about1.status = .running := rfl
set_option maxRecDepth 65536 in
theorem w_room : about1.hasRoom e0.platform room_1 = true :=
  launch0.hasRoom_least _ room_1 (by decide +kernel) (by decide +kernel) (by decide +kernel) (by decide +kernel) (by decide +kernel) (by decide +kernel)
theorem allAtoms_all (ts : List Jvm.Cond) (a : Array Jvm.Value) (st : Jvm.State) : (allAtoms ts).before a st = ts.all (fun c => c.before a st) := by
  induction ts with
  | nil => rfl
  | cons c t ih =>
    show (Jvm.Cond.and c (allAtoms t)).before a st = _
    rw [Jvm.Cond.before_and, ih, List.all_cons]
def words1 : List Jvm.Cond := Jvm.Cond.code x code maxLocals ret :: tables_1
/-- a 'code' word, met by the world's own term for the bytes: nothing is compared byte by byte -/
theorem code_word {y : MethodName} {bytes : ByteArray} {mx : Nat} {rt : Option FieldType} {a : Array Value} {s : State} {m : MethodId} {meth : Method} {c : Code} (h1 : s.methodNamed? y = some m) (h2 : s.vm.method? m = some meth) (h3 : meth.code = some c) (h4 : c.code = bytes)
    (h5 : (c.maxLocals == mx && c.exceptionTable.isEmpty && decide (c.maxStack ≤ mostOperands) && decide (meth.sig.returnType = rt) && !meth.locks && decide (parseMethodDescriptor y.desc = some meth.sig)) = true) : (Jvm.Cond.code y bytes mx rt).before a s = true := by
  simp only [Bool.and_eq_true, beq_iff_eq, Bool.not_eq_true', decide_eq_true_eq] at h5
  obtain ⟨⟨⟨⟨⟨g1, g2⟩, g3⟩, g4⟩, g5⟩, g6⟩ := h5
  simp [Cond.before, Cond.holds, Cond.value, h1, h2, h3, h4, g1, g2, g3, g4, g5, g6]
def isCode : Jvm.Cond → Bool
  | .code _ _ _ _ => true
  | _ => false
theorem all_split {L : List Jvm.Cond} {P : Jvm.Cond → Bool} (h1 : L.all (fun c => isCode c || P c) = true) (h2 : ∀ c ∈ L.filter isCode, P c = true) : L.all P = true := by
  refine List.all_eq_true.mpr fun c hc => ?_
  have h := List.all_eq_true.mp h1 c hc
  rcases Bool.eq_false_or_eq_true (isCode c) with hi | hi
  · exact h2 c (List.mem_filter.mpr ⟨hc, hi⟩)
  · simpa [hi] using h
set_option maxRecDepth 65536 in
theorem w_c0 : (Jvm.Cond.code x code maxLocals ret).before args0 about1 = true := code_word (m := ⟨1, 1⟩) (meth := k1m1) (c := k1c1) (by decide +kernel) rfl rfl rfl (by decide +kernel)
set_option maxRecDepth 65536 in
theorem w_c1 : (Jvm.Cond.code ({ cls := "com/example/cartwright/cartwright/core/AddressType", name := "code", desc := "()Ljava/lang/String;" } : Jvm.MethodName) prog_4_method_4_code (1 : Nat) (Option.some (Jvm.ClassFile.FieldType.object "java/lang/String"))).before args0 about1 = true := code_word (m := ⟨6, 0⟩) (meth := k6m0) (c := k6c0) (by decide +kernel) rfl rfl rfl (by decide +kernel)
set_option maxRecDepth 65536 in
theorem w_c2 : (Jvm.Cond.code ({ cls := "java/lang/String", name := "length", desc := "()I" } : Jvm.MethodName) jdk_42_method_54_code (1 : Nat) (Option.some Jvm.ClassFile.FieldType.int)).before args0 about1 = true := code_word (m := ⟨9, 1⟩) (meth := k9m1) (c := k9c1) (by decide +kernel) rfl rfl rfl (by decide +kernel)
set_option maxRecDepth 65536 in
theorem w_c3 : (Jvm.Cond.code ({ cls := "java/lang/String", name := "coder", desc := "()B" } : Jvm.MethodName) jdk_42_method_152_code (1 : Nat) (Option.some Jvm.ClassFile.FieldType.byte)).before args0 about1 = true := code_word (m := ⟨9, 3⟩) (meth := k9m3) (c := k9c3) (by decide +kernel) rfl rfl rfl (by decide +kernel)
set_option maxRecDepth 65536 in
theorem w_c4 : (Jvm.Cond.code ({ cls := "java/lang/String", name := "charAt", desc := "(I)C" } : Jvm.MethodName) jdk_42_method_56_code (2 : Nat) (Option.some Jvm.ClassFile.FieldType.char)).before args0 about1 = true := code_word (m := ⟨9, 2⟩) (meth := k9m2) (c := k9c2) (by decide +kernel) rfl rfl rfl (by decide +kernel)
set_option maxRecDepth 65536 in
theorem w_c5 : (Jvm.Cond.code ({ cls := "java/lang/String", name := "isLatin1", desc := "()Z" } : Jvm.MethodName) jdk_42_method_154_code (1 : Nat) (Option.some Jvm.ClassFile.FieldType.boolean)).before args0 about1 = true := code_word (m := ⟨9, 4⟩) (meth := k9m4) (c := k9c4) (by decide +kernel) rfl rfl rfl (by decide +kernel)
set_option maxRecDepth 65536 in
theorem w_c6 : (Jvm.Cond.code ({ cls := "java/lang/StringLatin1", name := "charAt", desc := "([BI)C" } : Jvm.MethodName) jdk_43_method_2_code (2 : Nat) (Option.some Jvm.ClassFile.FieldType.char)).before args0 about1 = true := code_word (m := ⟨10, 1⟩) (meth := k10m1) (c := k10c1) (by decide +kernel) rfl rfl rfl (by decide +kernel)
set_option maxRecDepth 65536 in
theorem w_c7 : (Jvm.Cond.code ({ cls := "java/lang/String", name := "checkIndex", desc := "(II)V" } : Jvm.MethodName) jdk_42_method_155_code (2 : Nat) (Option.none : Option Jvm.ClassFile.FieldType)).before args0 about1 = true := code_word (m := ⟨9, 5⟩) (meth := k9m5) (c := k9c5) (by decide +kernel) rfl rfl rfl (by decide +kernel)
set_option maxRecDepth 65536 in
theorem w_c8 : (Jvm.Cond.code ({ cls := "jdk/internal/util/Preconditions", name := "checkIndex", desc := "(IILjava/util/function/BiFunction;)I" } : Jvm.MethodName) jdk_41_method_11_code (3 : Nat) (Option.some Jvm.ClassFile.FieldType.int)).before args0 about1 = true := code_word (m := ⟨11, 1⟩) (meth := k11m1) (c := k11c1) (by decide +kernel) rfl rfl rfl (by decide +kernel)
set_option maxRecDepth 65536 in
theorem w_c9 : (Jvm.Cond.code ({ cls := "com/example/cartwright/cartwright/core/AddressType", name := "bills", desc := "()Z" } : Jvm.MethodName) prog_4_method_7_code (1 : Nat) (Option.some Jvm.ClassFile.FieldType.boolean)).before args0 about1 = true := code_word (m := ⟨6, 1⟩) (meth := k6m1) (c := k6c1) (by decide +kernel) rfl rfl rfl (by decide +kernel)
def codes1 : List Jvm.Cond := [Jvm.Cond.code x code maxLocals ret, Jvm.Cond.code ({ cls := "com/example/cartwright/cartwright/core/AddressType", name := "code", desc := "()Ljava/lang/String;" } : Jvm.MethodName) prog_4_method_4_code (1 : Nat) (Option.some (Jvm.ClassFile.FieldType.object "java/lang/String")), Jvm.Cond.code ({ cls := "java/lang/String", name := "length", desc := "()I" } : Jvm.MethodName) jdk_42_method_54_code (1 : Nat) (Option.some Jvm.ClassFile.FieldType.int), Jvm.Cond.code ({ cls := "java/lang/String", name := "coder", desc := "()B" } : Jvm.MethodName) jdk_42_method_152_code (1 : Nat) (Option.some Jvm.ClassFile.FieldType.byte), Jvm.Cond.code ({ cls := "java/lang/String", name := "charAt", desc := "(I)C" } : Jvm.MethodName) jdk_42_method_56_code (2 : Nat) (Option.some Jvm.ClassFile.FieldType.char), Jvm.Cond.code ({ cls := "java/lang/String", name := "isLatin1", desc := "()Z" } : Jvm.MethodName) jdk_42_method_154_code (1 : Nat) (Option.some Jvm.ClassFile.FieldType.boolean), Jvm.Cond.code ({ cls := "java/lang/StringLatin1", name := "charAt", desc := "([BI)C" } : Jvm.MethodName) jdk_43_method_2_code (2 : Nat) (Option.some Jvm.ClassFile.FieldType.char), Jvm.Cond.code ({ cls := "java/lang/String", name := "checkIndex", desc := "(II)V" } : Jvm.MethodName) jdk_42_method_155_code (2 : Nat) (Option.none : Option Jvm.ClassFile.FieldType), Jvm.Cond.code ({ cls := "jdk/internal/util/Preconditions", name := "checkIndex", desc := "(IILjava/util/function/BiFunction;)I" } : Jvm.MethodName) jdk_41_method_11_code (3 : Nat) (Option.some Jvm.ClassFile.FieldType.int), Jvm.Cond.code ({ cls := "com/example/cartwright/cartwright/core/AddressType", name := "bills", desc := "()Z" } : Jvm.MethodName) prog_4_method_7_code (1 : Nat) (Option.some Jvm.ClassFile.FieldType.boolean)]
set_option maxRecDepth 65536 in
theorem codes_eq : words1.filter isCode = codes1 := rfl
theorem w_codes : ∀ c ∈ words1.filter isCode, c.before args0 about1 = true := by
  rw [codes_eq]
  intro c hc
  simp only [codes1, List.mem_cons, List.not_mem_nil, or_false] at hc
  rcases hc with rfl | rfl | rfl | rfl | rfl | rfl | rfl | rfl | rfl | rfl
  · exact w_c0
  · exact w_c1
  · exact w_c2
  · exact w_c3
  · exact w_c4
  · exact w_c5
  · exact w_c6
  · exact w_c7
  · exact w_c8
  · exact w_c9
set_option maxRecDepth 65536 in
theorem w_t1 : (words1.take 24).all (fun c => isCode c || c.before args0 about1) = true := by decide +kernel
set_option maxRecDepth 65536 in
theorem w_t2 : ((words1.drop 24).take 24).all (fun c => isCode c || c.before args0 about1) = true := by decide +kernel
set_option maxRecDepth 65536 in
theorem w_t3 : ((words1.drop 24).drop 24).all (fun c => isCode c || c.before args0 about1) = true := by decide +kernel
theorem w_tables : (allAtoms (Jvm.Cond.code x code maxLocals ret :: tables_1)).before args0 about1 = true := by
  rw [allAtoms_all]
  show words1.all (fun c => c.before args0 about1) = true
  refine all_split ?_ w_codes
  rw [← List.take_append_drop 24 words1, List.all_append, w_t1, ← List.take_append_drop 24 (words1.drop 24), List.all_append, w_t2, w_t3]
  rfl
set_option maxRecDepth 65536 in
theorem w_rest : rest_1_c.before args0 about1 = true := by decide +kernel
set_option maxRecDepth 65536 in
theorem w_case : (Jvm.Cond.and given_1 narrow_1).before args0 about1 = true := by decide +kernel
theorem w_applies : (headSpec (Jvm.Cond.code x code maxLocals ret :: tables_1) room_1).applies x e0.platform about1 = true :=
  (Spec.applies_iff w_frames).mpr ⟨w_running, w_runnable, w_alone, w_named, w_hears, w_ripe, w_room, w_tables⟩
theorem atStart : AtStart classFile x code maxLocals ret World_1 tables_1 room_1 Calls_1 rest_1 Pre_1 launch0 p0 e0 about1 theMethod args0 below0 :=
  ⟨lists_1, trivial, launch0.admits_env _ _ _, launch0.least_env, fairChoices_fair.cas, fairChoices_fair.clock, w_frames, w_args, w_heap, w_applies, trivial, w_rest, w_case⟩
end start1
theorem witness_1 : WitnessClaimed_1 := ⟨start1.p0, start1.e0, start1.about1, start1.theMethod, start1.args0, start1.below0, start1.atStart⟩
end Jvm.Pilot.@@N@@
